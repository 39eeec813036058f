/- NUMBERS WITHOUT SIGN, WRITTEN IN PLACE: what a row holds; norm, set, setWord. CONTRACTS: the sum of two numbers without sign, written in place. -/
import Derived.Test.YthlakefgobflnaaGreatDoorBba
namespace Go.Proofs.YthlakefgobflnaaGreatDoor.G
open Go.RowKit Go.Proofs.YthlakefgobflnaaGreatDoorW.PrintWords Go.Proofs.YthlakefgobflnaaGreatDoorW.PrintLast Go.Proofs.YthlakefgobflnaaGreatDoorW.PrintMore Go.Proofs.YthlakefgobflnaaGreatDoor.S
set_option linter.unusedVariables false
set_option linter.unusedSimpArgs false
structure Chg (r:Option Nat) (w w':World):Prop where
 os:w'.os=w.os
 tape:w'.tape=w.tape
 output:w'.output=w.output
 size:w.heap.size≤w'.heap.size
 block: ∀k,k<w.heap.size→some k≠r→w'.heap[k]?=w.heap[k]?
def New(w:World)(r r':Option Nat):Prop:=r'=r∨∀g,r'=some g→w.heap.size≤g
theorem Chg.refl(r:Option Nat)(w:World):Chg r w w:=⟨rfl,rfl,rfl,Nat.le_refl _,fun _ _ _=>rfl⟩
theorem Chg.of(r:Option Nat){w w':World}(h:Below w.heap.size w w'):Chg r w w':=⟨h.os,h.tape,h.output,h.size,fun k hk _=>h.block k hk⟩
theorem Chg.trans{r r':Option Nat}{a b c:World}(h:Chg r a b)(k:Chg r' b c)(hn:New a r r'):Chg r a c:=
 ⟨k.os.trans h.os,k.tape.trans h.tape,k.output.trans h.output,Nat.le_trans h.size k.size,fun i hi hg=>(k.block i (Nat.lt_of_lt_of_le hi h.size) (fun e=>hn.elim (fun e2=>hg (e.trans e2)) (fun e2=>absurd (e2 i e.symm) (by omega)))).trans (h.block i hi hg)⟩
theorem Chg.only{r:Option Nat}{g:Nat}{a b c:World}(h:Chg r a b)(k:Only g b c)(hn:r=some g∨a.heap.size≤g):Chg r a c:=
 h.trans (r':=some g) ⟨k.os,k.tape,k.output,k.size,fun i hi hg=>k.block i hi (fun e=>hg (by rw[e]))⟩ (hn.elim (fun e=>Or.inl e.symm) (fun e=>Or.inr (fun g' h'=>by cases h';exact e)))
theorem Chg.below{r:Option Nat}{a b c:World}(h:Chg r a b)(k:Below b.heap.size b c):Chg r a c:=h.trans (Chg.of r k) (Or.inl rfl)
theorem Chg.drew{r:Option Nat}{a b:World}(h:Chg r a b):Chg r a b.drew:=⟨h.os,h.tape,h.output,h.size,h.block⟩
def Row(w:World)(v:Value)(r:Option Nat)(l:List Int):Prop:=(v= .slice none 0 0∧r=none∧l= [])∨∃g L,v= .slice (some ⟨g,0,none⟩) l.length L.length∧RowAt w g L∧l=L.take l.length∧L.length≤100000∧L64.Ok L∧r=some g
def Opd(w:World)(v:Value)(r:Option Nat)(l:List Int):Prop:=(v= .slice none 0 0∧r=none∧l= [])∨∃g cur,v= .slice (some ⟨g,0,none⟩) l.length cur.size∧w.heap[g]?=some (.cells cur 81 (0,0))∧u64s l=cur.toList.take l.length∧cur.size≤9223372036854775807∧r=some g
theorem Row.opd{w:World}{v:Value}{r:Option Nat}{l:List Int}(h:Row w v r l):Opd w v r l:=by
 rcases h with h|⟨g,L,rfl,hR,hl,hL,_,rfl⟩
 ·exact .inl h
 ·refine .inr ⟨g,(u64s L).toArray,?_,hR,?_,?_,rfl⟩
  ·simp
  ·show u64s l=(u64s L).take l.length;rw[←List.map_take,←hl]
  ·have e:(u64s L).toArray.size=L.length:=by simp
   omega
theorem Row.le{g:Nat}{l L:List Int}(h:l=L.take l.length):l.length≤L.length:=by
 have:=congrArg List.length h;rw[List.length_take]at this;omega
theorem Row.dst{w:World}{v:Value}{r:Option Nat}{l:List Int}(h:Row w v r l):Dst w v r:=by
 rcases h with⟨a,b,_⟩|⟨g,L,rfl,hR,hl,hL,ho,rfl⟩
 ·exact .inl ⟨a,b⟩
 ·exact .inr ⟨g,l.length,L,rfl,hR,Row.le (g:=g) hl,hL,ho,rfl⟩
theorem Opd.move{w w':World}{v:Value}{r:Option Nat}{l:List Int}(h:Opd w v r l)(hm: ∀g,r=some g→w'.heap[g]?=w.heap[g]?):Opd w' v r l:=by
 rcases h with h|⟨g,cur,e,hR,hl,hL,rfl⟩
 ·exact .inl h
 ·exact .inr ⟨g,cur,e,(hm g rfl).trans hR,hl,hL,rfl⟩
theorem Opd.lt{w:World}{v:Value}{g:Nat}{l:List Int}(h:Opd w v (some g) l):g<w.heap.size:=by
 rcases h with⟨_,h,_⟩|⟨g',cur,e,hR,hl,hL,h⟩
 ·cases h
 ·cases h;exact blk_lt hR
theorem Opd.below{w w':World}{v:Value}{r:Option Nat}{l:List Int}(h:Opd w v r l)(hb:Below w.heap.size w w'):Opd w' v r l:=h.move fun g e=>hb.block g (by subst e;exact h.lt)
theorem Row.move{w w':World}{v:Value}{r:Option Nat}{l:List Int}(h:Row w v r l)(hm: ∀g,r=some g→w'.heap[g]?=w.heap[g]?):Row w' v r l:=by
 rcases h with h|⟨g,L,e,hR,hl,hL,ho,rfl⟩
 ·exact .inl h
 ·exact .inr ⟨g,L,e,(hm g rfl).trans hR,hl,hL,ho,rfl⟩
theorem Row.below{w w':World}{v:Value}{r:Option Nat}{l:List Int}(h:Row w v r l)(hb:Below w.heap.size w w'):Row w' v r l:=h.move fun g e=>hb.block g (by subst e;exact h.opd.lt)
theorem Opd.open_{w:World}{v:Value}{r:Option Nat}{l:List Int}(h:Opd w v r l)(h0:0<l.length): ∃p c,v= .slice (some ⟨p,0,none⟩) l.length c∧r=some p∧Rd w ⟨p,0,none⟩ l∧Ob w p∧l.length≤c∧c≤9223372036854775807∧(∀L,RowAt w p L→L.length=c):=by
 rcases h with⟨_,_,rfl⟩|⟨g,cur,rfl,hR,hl,hL,rfl⟩
 ·simp at h0
 ·have hle:l.length≤cur.size:=by
   have:=congrArg List.length hl;rw[List.length_map,List.length_take,show cur.toList.length=cur.size from Array.length_toList]at this;omega
  refine⟨g,cur.size,rfl,rfl,⟨rfl,fun j hj=>?_⟩,⟨_,_,hR⟩,hle,hL,fun L hL=>?_⟩
  ·refine(blk_cell hR (0+j)).trans ?_;rw[Nat.zero_add,←Array.getElem?_toList];have h1:(u64s l)[j]?=cur.toList[j]?:=by rw[hl,List.getElem?_take_of_lt hj]
   rw[←h1,List.getElem?_map,List.getElem?_eq_getElem hj,List.getD_eq_getElem?_getD,List.getElem?_eq_getElem hj];rfl
  ·unfold RowAt at hL;rw[hR]at hL;injection hL with hL;injection hL with hL;rw[hL];simp
theorem Row.of{w:World}{g n:Nat}{L:List Int}(hR:RowAt w g L)(hn:n≤L.length)(hL:L.length≤100000)(ho:L64.Ok L):Row w (.slice (some ⟨g,0,none⟩) n L.length) (some g) (L.take n):=by
 have hl:(L.take n).length=n:=by rw[List.length_take];omega
 refine .inr ⟨g,L,by rw[hl],hR,by rw[hl],hL,ho,rfl⟩
theorem make0_is(z:Value)(r:Option Nat)(w:World)(hz:Dst w z r):
 Calls Tryz.prog 56 #[z,.int .i64 0] w fun e w'=>∃v,e= .returned v∧Row w' v r []∧Below w.heap.size w w':=by
 have HB:=ak (Below.refl w.heap.size w);rcases hz with⟨rfl,rfl⟩|⟨g,m,L,rfl,hR,hm,hL,hok,rfl⟩
 ·go_enter Tryz.func56,Tryz.ntmps56
  go_wp2_with fail
  go_ret
  exact⟨_,rfl,.inl ⟨rfl,rfl,rfl⟩,HB.out⟩
 ·have HF:=ak (Row.of hR (Nat.zero_le _) hL hok);have h1:(0:Int)≤(L.length:Int):=by omega
  clear hR hm hL hok
  go_enter Tryz.func56,Tryz.ntmps56
  go_wp2_with fail
  go_ret
  exact⟨_,rfl,HF.out,HB.out⟩
theorem lim_take{L:List Int}(ho:L64.Ok L){i M:Nat}(hi:i≤M)(hM:M≤L.length)(hv:L64.val (L.take M)=L64.val (L.take i))(hz:i=0∨L.getD (i-1) 0≠0):L64.lim (L64.val (L.take M))=L.take i:=by
 rw[hv];refine(L64.lim_val (L64.ok_take ho i) (fun x hx=>?_)).symm;rcases hz with rfl|hz
 ·simp at hx
 ·by_cases h0:i=0
  ·subst h0;simp at hx
  ·rw[List.getLast?_eq_getElem?,List.length_take,Nat.min_eq_left (by omega),List.getElem?_take_of_lt (by omega),List.getElem?_eq_getElem (by omega)]at hx;rw[List.getD_eq_getElem?_getD,List.getElem?_eq_getElem (by omega)]at hz;rw[←Option.some.inj hx];exact hz
set_option maxRecDepth 100000 in
theorem norm_is(g M n:Nat)(L:List Int)(w:World)(hR:RowAt w g L)(hM:M≤L.length)(hL:L.length≤100000)(ho:L64.Ok L)(hv:L64.val (L.take M)=n):
 Calls Tryz.prog 51 #[.slice (some ⟨g,0,none⟩) M L.length] w fun e w'=>∃v,e= .returned v∧Row w' v (some g) (L64.lim n)∧Below w.heap.size w w':=by
 have HD:=ak (And.intro hM (And.intro hL hv));have HO:=ak ho;have HR:=ak hR;have HB:=ak (Below.refl w.heap.size w);clear hM hL ho hR hv
 go_enter Tryz.func51,Tryz.ntmps51
 go_wp2_with fail
 go_loopg [3] M (fun kq v3 w'=>∃(i:Nat),v3= .int .i64 (i:Int)∧Aside0 (i≤M∧i≤kq)∧Aside0 (L64.val (L.take M)=L64.val (L.take i))∧Aside0 (RowAt w' g L)∧Aside0 (Below w.heap.size w w'))
 case atStart=>exact⟨M,rfl,⟨Nat.le_refl _,Nat.le_refl _⟩,⟨rfl⟩,HR,HB⟩
 case round=>
  obtain⟨i,rfl,HI,HV,HR,HB⟩:=hrel;by_cases c:0<i
  ·obtain⟨j,hj⟩: ∃j,i=j+1:=⟨i-1,by omega⟩
   have hr:=HR.out.cell j (by have:=HI.out;have:=HD.out;omega);have hX:=L64.getN HO.out j;have hv2:=L64.val_take L j;rw[hX]at hr;rw[←hj]at hv2;generalize hgj:(L.getD j 0).toNat=X at*;have c0:decide (0<(i:Int))=true:=decide_eq_true (by omega);have c1:decide (0<i)=true:=decide_eq_true (by omega);have e1:wrap64 ((i:Int)-1)=(j:Int):=by have:=HI.out;have:=HD.out;unfold wrap64;omega
   have i1:(0:Int)≤(j:Int):=by omega
   have i2:(j:Int)<(M:Int):=by have:=HI.out;omega
   by_cases hx0:X=0
   ·subst hx0;cases gk with
    |zero=>exact absurd HI.out (by omega)
    |succ k1=>
     have HV2:=ak (show L64.val (L.take M)=L64.val (L.take j) by rw[HV.out,hv2];simp);have HJ:=ak hj;have HE1:=ak e1;clear hX hgj hv2 hj
     go_wp2_with fail
     go_roundg k1
     case measure=>omega
     case rel=>exact⟨j,(by first|rfl|rw[HE1.out]),⟨by have:=HI.out;have:=HJ.out;omega⟩,HV2,HR,HB⟩
   ·have hX0:((X:Int)==0)=false:=beq_eq_false_iff_ne.2 (by omega);have HLm:=ak (lim_take HO.out HI.out.1 HD.out.1 HV.out (.inr (by rw[hj,Nat.add_sub_cancel,hX];omega)));have h3:(i:Int)≤(L.length:Int):=by have:=HI.out;have:=HD.out;omega
    have h5:(0:Int)≤(i:Int):=by omega
    have HIL:=ak (show i≤L.length by have:=HI.out;have:=HD.out;omega);clear hX hgj hv2 hj
    go_wp2_with fail
    go_ret
    rw[HD.out.2.2]at HLm;refine⟨_,rfl,?_,HB.out⟩;rw[HLm.out];exact Row.of HR.out HIL.out HD.out.2.1 HO.out
  ·have hi:i=0:=by omega
   subst hi;have HLm:=ak (lim_take HO.out HI.out.1 HD.out.1 HV.out (.inl rfl));have h1:(0:Int)≤(L.length:Int):=by omega
   go_wp2_with fail
   go_ret
   rw[HD.out.2.2]at HLm;refine⟨_,rfl,?_,HB.out⟩;rw[HLm.out];exact Row.of HR.out (Nat.zero_le _) HD.out.2.1 HO.out
theorem Row.slice{w:World}{v:Value}{r:Option Nat}{l:List Int}(h:Row w v r l): ∃A c,v= .slice A l.length c:=by
 rcases h with⟨rfl,_,rfl⟩|⟨g,L,rfl,_⟩
 ·exact⟨_,_,rfl⟩
 ·exact⟨_,_,rfl⟩
theorem Opd.slice{w:World}{v:Value}{r:Option Nat}{l:List Int}(h:Opd w v r l): ∃A c,v= .slice A l.length c:=by
 rcases h with⟨rfl,_,rfl⟩|⟨g,L,rfl,_⟩
 ·exact⟨_,_,rfl⟩
 ·exact⟨_,_,rfl⟩
set_option maxRecDepth 100000 in
theorem set_nil(z x:Value)(r:Option Nat)(w:World)(hz:Dst w z r)(hx: ∃A c,x= .slice A 0 c):
 Calls Tryz.prog 55 #[z,x] w fun e w'=>∃v,e= .returned v∧Row w' v r []∧Below w.heap.size w w':=by
 obtain⟨A,c,rfl⟩:=hx;obtain⟨j,hj,hs⟩:=infoW;have HM:=ak (make0_is z r w hz);clear hz
 go_enter Tryz.func55,Tryz.ntmps55
 go_wp2_with fail
 refine(HM.out).mono ?_;rintro e w1 ⟨v,rfl,hv,hb⟩;obtain⟨A',c',rfl⟩:=hv.slice;have HV:=ak (And.intro hv hb);have hcp:=fun w ty=>run_copy_none (P:=Tryz.prog) w 53 53 ty 81 A' A 0 c' 0 c Tryz.underlying53 (by rw[hj];simp[hs]) rfl
 clear hv hb hj hs HM
 go_wp2_with fail
 go_ret
 exact⟨_,rfl,HV.out.1,HV.out.2⟩
set_option maxRecDepth 100000 in
theorem set_pos(z x:Value)(r rx:Option Nat)(l:List Int)(w:World)(hz:Dst w z r)(hx:Opd w x rx l)(h0:0<l.length)(hl:l.length≤900)(hok:L64.Ok l):
 Calls Tryz.prog 55 #[z,x] w fun e w'=>∃v r',e= .returned v∧Row w' v r' l∧New w r r'∧Chg r w w':=by
 have HX:=ak hx;obtain⟨p,c,rfl,rfl,-,-,-,-,-⟩:=hx.open_ h0;have HM:=ak (makeD_is z r l.length w hz h0 (by omega));have HD:=ak (And.intro h0 (And.intro hl hok));clear hz hx h0 hl hok
 go_enter Tryz.func55,Tryz.ntmps55
 go_wp2_with fail
 refine(HM.out).mono ?_;rintro e w1 ⟨g,L,rfl,hm,hb⟩;obtain⟨p',c',e1,e2,hrd,hob,-,-,-⟩:=(HX.out.below hb).open_ HD.out.1;obtain rfl:p=p':=Option.some.inj e2;obtain⟨hR,hn,hL,ho,hrg⟩:=hm;have hcp:=fun ty=>copyW (w:=w1) (o:=0) L.length c l.length ty 53 Tryz.underlying53 hR (by omega) hrd rfl
 obtain⟨hR2,hO2⟩:=hR.lay l L 0 (by omega);have hlen:(L.take 0++(l++L.drop (0+l.length))).length=L.length:=by simp;omega
 have HV:=ak (show Row (w1.setCells g 0 (u64s l)) (.slice (some ⟨g,0,none⟩) l.length L.length) (some g) l from .inr ⟨g,_,by rw[hlen],hR2,by simp,by rw[hlen];exact hL,L64.ok_append (L64.ok_take ho _) (L64.ok_append HD.out.2.2 (L64.ok_drop ho _)),rfl⟩);have HC:=ak (((Chg.refl r w).below hb).only hO2 hrg);have HN:=ak (show New w r (some g)from hrg.elim (fun e=>.inl e.symm) (fun e=>.inr (fun g' h'=>by cases h';exact e)));clear hrd hob hR hn hL ho hrg hR2 hO2 hlen hb HM HX e1 e2;generalize w1.setCells g 0 (u64s l)=w2 at*
 go_wp2_with fail
 go_ret
 exact⟨_,_,rfl,HV.out,HN.out,HC.out⟩
theorem set_is(z x:Value)(r rx:Option Nat)(l:List Int)(w:World)(hz:Dst w z r)(hx:Opd w x rx l)(hl:l.length≤900)(hok:L64.Ok l):
 Calls Tryz.prog 55 #[z,x] w fun e w'=>∃v r',e= .returned v∧Row w' v r' l∧New w r r'∧Chg r w w':=by
 by_cases h0:0<l.length
 ·exact set_pos z x r rx l w hz hx h0 hl hok
 ·obtain rfl:l= []:=List.length_eq_zero_iff.1 (by omega);refine(set_nil z x r w hz hx.slice).mono ?_;rintro e w' ⟨v,rfl,hv,hb⟩;exact⟨v,r,rfl,hv,.inl rfl,Chg.of r hb⟩
set_option maxRecDepth 100000 in
theorem setWord_is(z:Value)(r:Option Nat)(x:Nat)(w:World)(hz:Dst w z r)(hx:x<18446744073709551616):
 Calls Tryz.prog 111 #[z,.int .u64 (x:Int)] w fun e w'=>∃v r',e= .returned v∧Row w' v r' (L64.lim x)∧New w r r'∧Chg r w w':=by
 have HC:=ak (Chg.refl r w);by_cases h0:x=0
 ·subst h0;rw[L64.lim_zero];rcases hz with⟨rfl,rfl⟩|⟨g,m,L,rfl,hR,hm,hL,hok,rfl⟩
  ·go_enter Tryz.func111,Tryz.ntmps111
   go_wp2_with fail
   go_ret
   exact⟨_,none,rfl,.inl ⟨rfl,rfl,rfl⟩,.inl rfl,HC.out⟩
  ·have HF:=ak (Row.of hR (Nat.zero_le _) hL hok);have h1:(0:Int)≤(L.length:Int):=by omega
   clear hR hm hL hok
   go_enter Tryz.func111,Tryz.ntmps111
   go_wp2_with fail
   go_ret
   exact⟨_,some g,rfl,HF.out,.inl rfl,HC.out⟩
 ·have HM:=ak (makeD_is z r 1 w hz (by omega) (by omega));have c0:((x:Int)==0)=false:=beq_eq_false_iff_ne.2 (by omega);have HX:=ak (And.intro h0 hx);clear hz h0 hx
  go_enter Tryz.func111,Tryz.ntmps111
  go_wp2_with fail
  refine(HM.out).mono ?_;rintro e w1 ⟨g,L,rfl,hm,hb⟩;obtain⟨hR,hn,hL,ho,hrg⟩:=hm;have hr:=hR.cell 0 (by omega);have hz:=blk_frozen hR 0;have hll:L64.lim x= [(x:Int)]:=by
   have:=HX.out;rw[L64.lim_pos this.1,Nat.mod_eq_of_lt this.2,Nat.div_eq_of_lt this.2,L64.lim_zero]
  have HV:=ak (show Row (w1.setCell ⟨g,0,none⟩ (.int .u64 (x:Int))) (.slice (some ⟨g,0,none⟩) 1 L.length) (some g) (L64.lim x)from by
   rw[hll];have h2:=hR.set 0 (x:Int);refine .inr ⟨g,L.set 0 (x:Int),by rw[List.length_set];rfl,h2,?_,by rw[List.length_set];exact hL,L64.ok_set ho 0 (by omega) (by have:=HX.out;omega),rfl⟩;cases L with
   |nil=>simp at hn
   |cons a L=>rfl)
  have HC2:=ak ((HC.out.below hb).only ((Only.refl g w1).set 0 (.int .u64 (x:Int))) hrg);have HN:=ak (show New w r (some g)from hrg.elim (fun e=>.inl e.symm) (fun e=>.inr (fun g' h'=>by cases h';exact e)));clear hR hn hL ho hrg hll hb HM HC
  go_wp2_with fail
  go_ret
  exact⟨_,_,rfl,HV.out,HN.out,HC2.out⟩
theorem setUint64_is(z:Value)(r:Option Nat)(x:Nat)(w:World)(hz:Dst w z r)(hx:x<18446744073709551616):
 Calls Tryz.prog 90 #[z,.int .u64 (x:Int)] w fun e w'=>∃v r',e= .returned v∧Row w' v r' (L64.lim x)∧New w r r'∧Chg r w w':=by
 have HM:=ak (setWord_is z r x w hz hx);clear hz hx
 go_enter Tryz.func90,Tryz.ntmps90
 go_wp2_with fail
 refine(HM.out).mono ?_;rintro e w1 ⟨v,r',rfl,h1,h2,h3⟩;have H:=ak (And.intro h1 (And.intro h2 h3));clear h1 h2 h3 HM
 go_wp2_with fail
 go_ret
 exact⟨_,_,rfl,H.out⟩
end Go.Proofs.YthlakefgobflnaaGreatDoor.G
namespace Go.Proofs.YthlakefgobflnaaGreatDoor.L64
set_option linter.unusedVariables false
theorem addT_val_all{x y:List Int}(hx:Ok x)(c:Nat)(hl:y.length≤x.length):val (addT x y c)+18446744073709551616^x.length*addK x y c x.length=val x+val y+c:=by
 have h:=addT_val x y c x.length (Nat.le_refl _);rw[List.take_of_length_le (by rw[addT,mk_len];exact Nat.le_refl _),List.take_length,List.take_of_length_le hl]at h;exact h
theorem subT_val_all{x y:List Int}(hx:Ok x)(hy:Ok y){c:Nat}(hc:c≤1)(hl:y.length≤x.length):val (subT x y c)+val y+c=val x+18446744073709551616^x.length*subK x y c x.length:=by
 have h:=subT_val hx hy hc x.length (Nat.le_refl _);rw[List.take_of_length_le (by rw[subT,mk_len];exact Nat.le_refl _),List.take_length,List.take_of_length_le hl]at h;exact h
theorem seg_two{L T U:List Int}{n k:Nat}(hT:T.length=n)(hU:U.length=k)(hL:n+k≤L.length):seg (seg L 0 T 0 n) n U 0 k=T++(U++L.drop (n+k)):=by
 subst hT hU;have e1:seg L 0 T 0 T.length=T++L.drop T.length:=by rw[seg_all _ rfl,List.take_zero,List.nil_append,Nat.zero_add]
 rw[seg_all _ rfl,e1,List.take_left,List.drop_append,List.drop_eq_nil_of_le (by omega),List.nil_append,List.drop_drop]
 congr 3
 omega
theorem set_end{A B:List Int}{c:Int}{n:Nat}(hn:A.length=n)(hB:0<B.length):((A++B).set n c).take (n+1)=A++ [c]:=by
 subst hn;rw[List.set_append_right _ _ (Nat.le_refl _),Nat.sub_self,List.take_append,List.take_of_length_le (by omega)];cases B with
 |nil=>simp at hB
 |cons b B=>simp
theorem sum_ge{x y L:List Int}{n m k K c:Nat}(hx:Ok x)(hy:Ok y)(hn:y.length=n)(hm:x.length=m)(hk:n+k=m)(hL:m+1≤L.length)(hK:addK (x.take n) y 0 n=K)(hc:addK (x.drop n) [] K k=c):
 val (((seg (seg L 0 (addT (x.take n) y 0) 0 n) n (addT (x.drop n) [] K) 0 k).set m (c:Int)).take (m+1))=val x+val y:=by
 have l1:(x.take n).length=n:=by rw[List.length_take];omega
 have l2:(x.drop n).length=k:=by rw[List.length_drop];omega
 have l3:(addT (x.take n) y 0).length=n:=by rw[addT,mk_len,l1]
 have l4:(addT (x.drop n) [] K).length=k:=by rw[addT,mk_len,l2]
 have v1:=addT_val_all (ok_take hx n) 0 (y:=y) (by omega);have v2:=addT_val_all (ok_drop hx n) K (y:= []) (by simp);rw[l1,hK]at v1;rw[l2,hc,show val []=0 from rfl]at v2;rw[seg_two l3 l4 (by omega),←List.append_assoc,set_end (by rw[List.length_append];omega) (by rw[List.length_drop];omega),val_append,val_append,List.length_append,l3,l4,Nat.pow_add];have v3:=val_split x n;rw[Nat.min_eq_left (by omega)]at v3;rw[v3];show _+18446744073709551616^n*_+_*((c:Int).toNat+18446744073709551616*0)=_;rw[Int.toNat_natCast,Nat.mul_zero,Nat.add_zero];generalize val (addT (x.take n) y 0)=A at*;generalize val (addT (x.drop n) [] K)=D at*;generalize val (x.take n)=X1 at*;generalize val (x.drop n)=X2 at*;generalize val y=Y at*;generalize 18446744073709551616^n=P at*;generalize 18446744073709551616^k=Q at*;have e1:P*(D+Q*c)=P*(X2+K):=by rw[v2,Nat.add_zero]
 rw[Nat.mul_add,Nat.mul_add]at e1;rw[Nat.mul_assoc];omega
theorem sum_eq{x y L:List Int}{m c:Nat}(hx:Ok x)(hy:Ok y)(hn:y.length=m)(hm:x.length=m)(hL:m+1≤L.length)(hc:addK x y 0 m=c):
 val (((seg L 0 (addT x y 0) 0 m).set m (c:Int)).take (m+1))=val x+val y:=by
 have l3:(addT x y 0).length=m:=by rw[addT,mk_len,hm]
 have v1:=addT_val_all hx 0 (y:=y) (by omega);rw[hm,hc]at v1;rw[seg_all _ l3.symm,List.take_zero,List.nil_append,set_end l3 (by rw[List.length_drop];omega),val_append,l3];show _+18446744073709551616^m*((c:Int).toNat+18446744073709551616*0)=_;rw[Int.toNat_natCast,Nat.mul_zero,Nat.add_zero];exact v1
end Go.Proofs.YthlakefgobflnaaGreatDoor.L64
namespace Go.Proofs.YthlakefgobflnaaGreatDoor.G
open Go.RowKit Go.Proofs.YthlakefgobflnaaGreatDoorW.PrintWords Go.Proofs.YthlakefgobflnaaGreatDoorW.PrintLast Go.Proofs.YthlakefgobflnaaGreatDoorW.PrintMore Go.Proofs.YthlakefgobflnaaGreatDoor.S
set_option linter.unusedVariables false
set_option linter.unusedSimpArgs false
theorem Rd.take{w:World}{p:Addr}{x:List Int}(h:Rd w p x)(n:Nat):Rd w p (x.take n):=⟨h.1,fun j hj=>by
 rw[List.length_take]at hj;rw[h.2 j (by omega),List.getD_eq_getElem?_getD,List.getD_eq_getElem?_getD,List.getElem?_take_of_lt (by omega)]⟩
theorem Rd.drop{w:World}{pb po:Nat}{x:List Int}(h:Rd w ⟨pb,po,none⟩ x)(n:Nat):Rd w ⟨pb,po+n,none⟩ (x.drop n):=⟨rfl,fun j hj=>by
 rw[List.length_drop]at hj;have h1:=h.2 (n+j) (by omega);have e:po+n+j=po+(n+j):=Nat.add_assoc _ _ _;show w.cell? ⟨pb,po+n+j,none⟩=_;rw[e,h1,List.getD_eq_getElem?_getD,List.getD_eq_getElem?_getD,List.getElem?_drop]⟩
theorem Rd.only{w w':World}{g p:Nat}{L M x:List Int}(n:Nat)(h:Rd w ⟨p,0,none⟩ x)(hp:p<w.heap.size)(hR:RowAt w g L)(hR':RowAt w' g M)(hl:M.length=L.length)(hx:x.length≤L.length)(ho:Only g w w')(hs: ∀k,n≤k→M.getD k 0=L.getD k 0):Rd w' ⟨p,n,none⟩ (x.drop n):=⟨rfl,fun j hj=>by
 rw[List.length_drop]at hj;have h1:=h.2 (n+j) (by omega);have e2:(x.drop n).getD j 0=x.getD (n+j) 0:=by rw[List.getD_eq_getElem?_getD,List.getD_eq_getElem?_getD,List.getElem?_drop]
 show w'.cell? ⟨p,n+j,none⟩=_;rw[e2,←h1];show _=w.cell? ⟨p,0+(n+j),none⟩;rw[Nat.zero_add];by_cases e:p=g
 ·subst e;rw[hR.cell _ (by omega),hR'.cell _ (by omega),hs _ (by omega)]
 ·exact World.cell?_of_block (a:=⟨p,n+j,none⟩) (ho.block p hp e)⟩
theorem addVV_is(g cz cx cy:Nat)(p q:Addr)(L x y:List Int)(w:World)(hR:RowAt w g L)(hxL:x.length≤L.length)(hL:L.length≤100000)(hl:y.length=x.length)
 (hx:Rd w p x) (hpb:p.block<w.heap.size) (hp:p.block=g→p.off+x.length≤L.length) (hok:L64.Ok x) (hy:Rd w q y) (hqb:q.block<w.heap.size) (hq:q.block=g→q.off+y.length≤L.length) (hok2:L64.Ok y):
 Calls Tryz.prog 94 #[.slice (some ⟨g,0,none⟩) x.length cz,.slice (some p) x.length cx,.slice (some q) y.length cy] w fun e w'=>e= .returned (.int .u64 (L64.addK x y 0 x.length:Int))∧RowAt w' g (L64.seg L 0 (L64.addT x y 0) 0 x.length)∧Only g w w':=by
 have HQ:=ak (addVV_g_is g cz cx cy p q L x y w hR hxL hL hl hx hpb hp hok hy hqb hq hok2);clear hR hxL hL hl hx hpb hp hok hy hqb hq hok2;generalize L64.addK x y 0 x.length=v at*
 go_enter Tryz.func94,Tryz.ntmps94
 go_wp2_with fail
 refine(HQ.out).mono ?_;rintro e w1 ⟨rfl,h1,h2⟩;have H:=ak (And.intro h1 h2);clear h1 h2
 go_wp2_with fail
 go_ret
 exact⟨rfl,H.out⟩
theorem subVV_is(g cz cx cy:Nat)(p q:Addr)(L x y:List Int)(w:World)(hR:RowAt w g L)(hxL:x.length≤L.length)(hL:L.length≤100000)(hl:y.length=x.length)
 (hx:Rd w p x) (hpb:p.block<w.heap.size) (hp:p.block=g→p.off+x.length≤L.length) (hok:L64.Ok x) (hy:Rd w q y) (hqb:q.block<w.heap.size) (hq:q.block=g→q.off+y.length≤L.length) (hok2:L64.Ok y):
 Calls Tryz.prog 91 #[.slice (some ⟨g,0,none⟩) x.length cz,.slice (some p) x.length cx,.slice (some q) y.length cy] w fun e w'=>e= .returned (.int .u64 (L64.subK x y 0 x.length:Int))∧RowAt w' g (L64.seg L 0 (L64.subT x y 0) 0 x.length)∧Only g w w':=by
 have HQ:=ak (subVV_g_is g cz cx cy p q L x y w hR hxL hL hl hx hpb hp hok hy hqb hq hok2);clear hR hxL hL hl hx hpb hp hok hy hqb hq hok2;generalize L64.subK x y 0 x.length=v at*
 go_enter Tryz.func91,Tryz.ntmps91
 go_wp2_with fail
 refine(HQ.out).mono ?_;rintro e w1 ⟨rfl,h1,h2⟩;have H:=ak (And.intro h1 h2);clear h1 h2
 go_wp2_with fail
 go_ret
 exact⟨rfl,H.out⟩
theorem fin_is{w wb:World}{r:Option Nat}{g M n:Nat}{L:List Int}(hR:RowAt w g L)(hM:M≤L.length)(hL:L.length≤100000)(ho:L64.Ok L)(hv:L64.val (L.take M)=n)(hg:r=some g∨wb.heap.size≤g)(hc:Chg r wb w):
 Calls Tryz.prog 51 #[.slice (some ⟨g,0,none⟩) M L.length] w fun e w'=>∃v r',e= .returned v∧Row w' v r' (L64.lim n)∧New wb r r'∧Chg r wb w':=by
 refine(norm_is g M n L w hR hM hL ho hv).mono ?_;rintro e w' ⟨v,rfl,h1,h2⟩;exact⟨v,some g,rfl,h1,hg.elim (fun e=>.inl e.symm) (fun e=>.inr (fun g' h'=>by cases h';exact e)),hc.below h2⟩
set_option maxRecDepth 100000 in
theorem natAdd_ge(z vx vy:Value)(r rx ry:Option Nat)(x y:List Int)(w:World)(hz:Dst w z r)(hx:Opd w vx rx x)(hy:Opd w vy ry y)(h0:0<y.length)(hyx:y.length≤x.length)(hm:x.length≤900)(hox:L64.Ok x)(hoy:L64.Ok y):
 Calls Tryz.prog 80 #[z,vx,vy] w fun e w'=>∃v r',e= .returned v∧Row w' v r' (L64.lim (L64.val x+L64.val y))∧New w r r'∧Chg r w w':=by
 have HX:=ak hx;have HY:=ak hy;obtain⟨p,cx,rfl,rfl,-,-,hcx,-,-⟩:=hx.open_ (by omega);obtain⟨q,cy,rfl,rfl,-,-,hcy,-,-⟩:=hy.open_ h0;obtain⟨m,em⟩: ∃m,x.length=m:=⟨_,rfl⟩
 obtain⟨n,en⟩: ∃n,y.length=n:=⟨_,rfl⟩
 have HM:=ak (makeD_is z r (m+1) w hz (by omega) (by omega));have hw:wrap64 ((m:Int)+1)=((m+1:Nat):Int):=by unfold wrap64;omega
 obtain⟨M,eM⟩: ∃M,m+1=M:=⟨_,rfl⟩
 rw[eM]at hw HM;have hb1:decide ((m:Int)<(n:Int))=false:=decide_eq_false (by omega);have hb1':decide (m<n)=false:=decide_eq_false (by omega);have hb2:((m:Int)==0)=false:=beq_eq_false_iff_ne.2 (by omega);have hb3:((n:Int)==0)=false:=beq_eq_false_iff_ne.2 (by omega);have HD:=ak (And.intro h0 (And.intro hyx (And.intro hm (And.intro hox hoy))));have HE:=ak (And.intro em (And.intro en eM));have HW:=ak hw;have n1:(0:Int)≤(n:Int):=by omega
 have n2:(n:Int)≤(cx:Int):=by omega
 have n3:(n:Int)≤(cy:Int):=by omega
 have n4:(n:Int)≤(m:Int):=by omega
 have n5:(m:Int)≤(cx:Int):=by omega
 rw[em,en];clear hz hx hy h0 hyx hm hox hoy em en eM hcx hcy
 go_enter Tryz.func80,Tryz.ntmps80
 go_wp2_with fail
 refine(HM.out).mono ?_;rintro e w1 ⟨g,L,rfl,hm,hb⟩;have HX1:=ak (HX.out.below hb);have HY1:=ak (HY.out.below hb);have HC1:=ak ((Chg.refl r w).below hb);have HG:=ak hm;have n6:(n:Int)≤(L.length:Int):=by have:=HG.out.2.1;have:=HE.out;have:=HD.out;omega
 have n7:(m:Int)≤(L.length:Int):=by have:=HG.out.2.1;have:=HE.out;have:=HD.out;omega
 clear hm hb HX HY HM hw
 go_wp2_with fail
 go_still_tail 9,(by kernel_rfl)
 change wpList _ _ _ _ _ w1.drew;have HX2:=ak (HX1.out.move (w':=w1.drew) (fun _ _=>rfl));have HY2:=ak (HY1.out.move (w':=w1.drew) (fun _ _=>rfl));have HC2:=ak HC1.out.drew;have HR2:=ak HG.out.1.drew;generalize w1.drew=w2 at*;clear HX1 HY1 HC1;obtain⟨hd0,hd1,hd2,hox,hoy⟩:=HD.out;obtain⟨em,en,eM⟩:=HE.out;obtain⟨-,hg1,hg2,hoL,hrg⟩:=HG.out;obtain⟨p',cx',e1,e2,hrx,hobx,hlx,-,hfx⟩:=HX2.out.open_ (by omega);obtain rfl:p=p':=Option.some.inj e2;obtain rfl:cx=cx':=by injection e1
 obtain⟨q',cy',e3,e4,hry,hoby,hly,-,hfy⟩:=HY2.out.open_ (by omega);obtain rfl:q=q':=Option.some.inj e4;obtain rfl:cy=cy':=by injection e3
 have l1:(x.take n).length=n:=by rw[List.length_take];omega
 have l2:(x.drop n).length=m-n:=by rw[List.length_drop];omega
 have l3:(L64.addT (x.take n) y 0).length=n:=by rw[L64.addT,L64.mk_len,l1]
 have HQ:=ak (addVV_is g L.length cx cy ⟨p,0,none⟩ ⟨q,0,none⟩ L (x.take n) y w2 HR2.out (by omega) hg2 (by omega) (hrx.take n) hobx.lt (fun e=>by subst e;have:=hfx L HR2.out;show 0+_≤_;omega) (L64.ok_take hox n) hry hoby.lt (fun e=>by subst e;have:=hfy L HR2.out;show 0+_≤_;omega) hoy);rw[l1,en]at HQ
 have HS:=ak (fun w3 (hR3:RowAt w3 g (L64.seg L 0 (L64.addT (x.take n) y 0) 0 n)) (hO3:Only g w2 w3)=>(show Rd w3 ⟨p,n,none⟩ (x.drop n)∧Ob w3 p from
  ⟨hrx.only n hobx.lt HR2.out hR3 (L64.seg_len (by omega) (by omega) (by omega)) (by omega) hO3 (fun k hk=>by rw[L64.seg_getD (by omega) (by omega) (by omega),if_neg (by omega)]),hobx.only hO3 hR3⟩))
 have HLn:=ak (show(L64.seg L 0 (L64.addT (x.take n) y 0) 0 n).length=L.length from L64.seg_len (by omega) (by omega) (by omega));have HOk1:=ak (L64.seg_ok 0 0 n hoL (L64.addT_ok (x.take n) y 0));have HKl:=ak (L64.addK_le (L64.ok_take hox n) hoy (c:=0) (by omega) n);have HL1:=ak l1;have HL2:=ak l2;clear hd0 hd1 hd2 hox hoy em en eM hg1 hg2 hoL hrg e1 e2 hrx hobx hlx hfx e3 e4 hry hoby hly hfy l1 l2 l3 HX2 HY2;obtain⟨K,hK⟩: ∃K,L64.addK (x.take n) y 0 n=K:=⟨_,rfl⟩
 rw[hK]at HQ HKl;have HK:=ak hK;clear hK
 go_wp2_with fail
 refine(HQ.out).mono ?_;rintro e w3 ⟨rfl,hR3,hO3⟩;have HR3:=ak hR3;have HC3:=ak (HC2.out.only hO3 HG.out.2.2.2.2);have HS3:=ak (HS.out w3 hR3 hO3);clear hR3 hO3 HQ HS HR2 HC2;by_cases hnm:n<m
 ·have d1:decide ((m:Int)>(n:Int))=true:=decide_eq_true (by omega);have d2:decide (n<m)=true:=decide_eq_true hnm;have hne1: ¬(L.length=n):=by have:=HG.out.2.1;have:=HE.out;omega
  have hne2: ¬(cx=n):=by omega
  obtain⟨k,hk⟩: ∃k,m-n=k:=⟨_,rfl⟩
  have hll:=HL2.out;rw[hk]at hll;obtain⟨c,hc⟩: ∃c,L64.addK (x.drop n) [] K k=c:=⟨_,rfl⟩
  have HQ:=ak (fun w4 (e:w4=w3.drew)=>(addVW_is g n (L.length-n) (cx-n) p K _ (x.drop n) w4 (by subst e;exact HR3.out.drew) (by rw[HLn.out,hll];have:=HG.out.2.1;have:=HE.out;omega) (by rw[HLn.out];exact HG.out.2.2.1) (by omega) (by subst e;exact HS3.out.1) (by subst e;exact HS3.out.2) (L64.ok_drop HD.out.2.2.2.1 n) HKl.out (by have:=HG.out.2.1;have:=HE.out;omega) (by omega)));rw[hll,hc]at HQ;have HV:=ak (L64.sum_ge (L:=L) (k:=k) HD.out.2.2.2.1 HD.out.2.2.2.2 HE.out.2.1 HE.out.1 (by omega) (by have:=HG.out.2.1;have:=HE.out;omega) HK.out hc);have l4:(L64.addT (x.drop n) [] K).length=k:=by rw[L64.addT,L64.mk_len,hll]
  have HLn2:=ak (show(L64.seg (L64.seg L 0 (L64.addT (x.take n) y 0) 0 n) n (L64.addT (x.drop n) [] K) 0 k).length=L.length from(L64.seg_len (by rw[HLn.out];have:=HG.out.2.1;have:=HE.out;omega) (by omega) (by omega)).trans HLn.out);have HOk2:=ak (L64.seg_ok n 0 k HOk1.out (L64.addT_ok (x.drop n) [] K));have HKc:=ak (show c≤1 by rw[←hc];exact L64.addK_le (L64.ok_drop HD.out.2.2.2.1 n) L64.ok_nil HKl.out k);generalize L64.seg (L64.seg L 0 (L64.addT (x.take n) y 0) 0 n) n (L64.addT (x.drop n) [] K) 0 k=L2 at*;have HNM:=ak hnm;have HKk:=ak hk;clear hk hc hll l4 hnm
  go_wp2_with fail
  go_still_tail 8,(by kernel_rfl)
  change wpList _ _ _ _ _ w3.drew;rw[HKk.out]
  go_wp2_with fail
  refine(HQ.out _ rfl).mono ?_;rintro e w5 ⟨rfl,hR5,hO5⟩;have HR5:=ak hR5;have HC5:=ak (HC3.out.drew.only hO5 HG.out.2.2.2.2);clear hR5 hO5 HQ HC3 HR3;have hr:=HR5.out.cell m (by rw[HLn2.out];have:=HG.out.2.1;have:=HE.out;omega);have hz:=blk_frozen HR5.out m;have m1:(0:Int)≤(m:Int):=by omega
  have m2:(m:Int)<(M:Int):=by have:=HE.out;omega
  go_wp2_with fail
  have hl5:(L2.set m (c:Int)).length=L.length:=by rw[List.length_set];exact HLn2.out
  have hf:=fin_is (w:=w5.setCell ⟨g,m,none⟩ (.int .u64 (c:Int))) (wb:=w) (M:=M) (n:=L64.val x+L64.val y) (HR5.out.set m (c:Int)) (by rw[hl5];exact HG.out.2.1) (by rw[hl5];exact HG.out.2.2.1) (L64.ok_set HOk2.out m (by omega) (by have:=HKc.out;omega)) (by rw[←HE.out.2.2];exact HV.out) HG.out.2.2.2.2 (HC5.out.only ((Only.refl g w5).set m _) HG.out.2.2.2.2);rw[hl5]at hf;refine hf.mono ?_;rintro e w6 ⟨v,r',rfl,h1,h2,h3⟩;have H:=ak (And.intro h1 (And.intro h2 h3));clear h1 h2 h3 hf hl5 hr hz
  go_wp2_with fail
  go_ret
  exact⟨_,_,rfl,H.out⟩
 ·have d1:decide ((m:Int)>(n:Int))=false:=decide_eq_false (by omega);have d2:decide (n<m)=false:=decide_eq_false hnm;have hr:=HR3.out.cell m (by rw[HLn.out];have:=HG.out.2.1;have:=HE.out;omega);have hz:=blk_frozen HR3.out m;have m1:(0:Int)≤(m:Int):=by omega
  have m2:(m:Int)<(M:Int):=by have:=HE.out;omega
  have HNM:=ak (show n=m by omega);clear hnm
  go_wp2_with fail
  obtain⟨em,en,eM⟩:=HE.out;have hnm:=HNM.out;have e0:x.take n=x:=List.take_of_length_le (by omega);have hV:=L64.sum_eq (L:=L) (m:=m) (c:=K) HD.out.2.2.2.1 HD.out.2.2.2.2 (by omega) em (by have:=HG.out.2.1;omega) (by have:=HK.out;rw[e0,hnm]at this;exact this);have hL5:=HLn.out;have hO5:=HOk1.out;have hR5:=HR3.out;rw[e0,hnm]at hL5 hO5 hR5;generalize L64.seg L 0 (L64.addT x y 0) 0 m=L2 at*;have hl5:(L2.set m (K:Int)).length=L.length:=by rw[List.length_set];exact hL5
  have hf:=fin_is (w:=w3.setCell ⟨g,m,none⟩ (.int .u64 (K:Int))) (wb:=w) (M:=M) (n:=L64.val x+L64.val y) (hR5.set m (K:Int)) (by rw[hl5];exact HG.out.2.1) (by rw[hl5];exact HG.out.2.2.1) (L64.ok_set hO5 m (by omega) (by have:=HKl.out;omega)) (by rw[←eM];exact hV) HG.out.2.2.2.2 (HC3.out.only ((Only.refl g w3).set m _) HG.out.2.2.2.2);rw[hl5]at hf;refine hf.mono ?_;rintro e w6 ⟨v,r',rfl,h1,h2,h3⟩;have H:=ak (And.intro h1 (And.intro h2 h3));clear h1 h2 h3 hf hl5 hr hz hV em en eM hnm e0 hL5 hO5 hR5
  go_wp2_with fail
  go_ret
  exact⟨_,_,rfl,H.out⟩
set_option maxRecDepth 100000 in
theorem natAdd_nil(z vx vy:Value)(r rx:Option Nat)(x:List Int)(w:World)(hz:Dst w z r)(hx:Opd w vx rx x)(hy: ∃A c,vy= .slice A 0 c)(hm:x.length≤900)(hox:L64.Ok x):
 Calls Tryz.prog 80 #[z,vx,vy] w fun e w'=>∃v r',e= .returned v∧Row w' v r' x∧New w r r'∧Chg r w w':=by
 obtain⟨A,c,rfl⟩:=hy;by_cases h0:0<x.length
 ·have HQ:=ak (set_is z vx r rx x w hz hx hm hox);obtain⟨p,cx,rfl,-,-,-,-,-,-⟩:=hx.open_ h0;have hb1:decide ((x.length:Int)<0)=false:=decide_eq_false (by omega);have hb2:((x.length:Int)==0)=false:=beq_eq_false_iff_ne.2 (by omega);clear hz hx h0 hm hox
  go_enter Tryz.func80,Tryz.ntmps80
  go_wp2_with fail
  refine(HQ.out).mono ?_;rintro e w1 ⟨v,r',rfl,h1,h2,h3⟩;have H:=ak (And.intro h1 (And.intro h2 h3));clear h1 h2 h3 HQ
  go_wp2_with fail
  go_ret
  exact⟨_,_,rfl,H.out⟩
 ·obtain rfl:x= []:=List.length_eq_zero_iff.1 (by omega);obtain⟨A2,c2,rfl⟩:=hx.slice;have HC:=ak (Chg.refl r w);rcases hz with⟨rfl,rfl⟩|⟨g,m,L,rfl,hR,hm,hL,hok,rfl⟩
  ·clear hx h0 hm hox
   go_enter Tryz.func80,Tryz.ntmps80
   go_wp2_with fail
   go_ret
   exact⟨_,none,rfl,.inl ⟨rfl,rfl,rfl⟩,.inl rfl,HC.out⟩
  ·have HF:=ak (Row.of hR (Nat.zero_le _) hL hok);have h1:(0:Int)≤(L.length:Int):=by omega
   clear hR hm hL hok hx h0 hox
   go_enter Tryz.func80,Tryz.ntmps80
   go_wp2_with fail
   go_ret
   exact⟨_,some g,rfl,HF.out,.inl rfl,HC.out⟩
theorem natAdd_le(z vx vy:Value)(r rx ry:Option Nat)(a b:Nat)(w:World)(hz:Dst w z r)(hx:Opd w vx rx (L64.lim a))(hy:Opd w vy ry (L64.lim b))(hyx:(L64.lim b).length≤(L64.lim a).length)(hm:(L64.lim a).length≤900):
 Calls Tryz.prog 80 #[z,vx,vy] w fun e w'=>∃v r',e= .returned v∧Row w' v r' (L64.lim (a+b))∧New w r r'∧Chg r w w':=by
 by_cases h0:0<(L64.lim b).length
 ·have:=natAdd_ge z vx vy r rx ry _ _ w hz hx hy h0 hyx hm (L64.ok_lim a) (L64.ok_lim b);rw[L64.val_lim,L64.val_lim]at this;exact this
 ·have hb:L64.lim b= []:=List.length_eq_zero_iff.1 (by omega);obtain rfl:b=0:=L64.lim_eq_nil.1 hb;rw[hb]at hy;exact natAdd_nil z vx vy r rx _ w hz hx hy.slice hm (L64.ok_lim a)
theorem natAdd_is(z vx vy:Value)(r rx ry:Option Nat)(a b:Nat)(w:World)(hz:Dst w z r)(hx:Opd w vx rx (L64.lim a))(hy:Opd w vy ry (L64.lim b))(ha:(L64.lim a).length≤900)(hb:(L64.lim b).length≤900):
 Calls Tryz.prog 80 #[z,vx,vy] w fun e w'=>∃v r',e= .returned v∧Row w' v r' (L64.lim (a+b))∧New w r r'∧Chg r w w':=by
 by_cases h:(L64.lim b).length≤(L64.lim a).length
 ·exact natAdd_le z vx vy r rx ry a b w hz hx hy h ha
 ·have HQ:=ak (natAdd_le z vy vx r ry rx b a w hz hy hx (by omega) hb);rw[Nat.add_comm b a]at HQ;obtain⟨A1,c1,rfl⟩:=hx.slice;obtain⟨A2,c2,rfl⟩:=hy.slice;generalize (L64.lim a).length=m at*;generalize (L64.lim b).length=n at*;have d1:decide ((m:Int)<(n:Int))=true:=decide_eq_true (by omega);have d2:decide (m<n)=true:=decide_eq_true (by omega);clear hz hx hy ha hb h
  go_enter Tryz.func80,Tryz.ntmps80
  go_wp2_with fail
  refine(HQ.out).mono ?_;rintro e w1 ⟨v,r',rfl,h1,h2,h3⟩;have H:=ak (And.intro h1 (And.intro h2 h3));clear h1 h2 h3 HQ
  go_wp2_with fail
  go_ret
  exact⟨_,_,rfl,H.out⟩
end Go.Proofs.YthlakefgobflnaaGreatDoor.G
