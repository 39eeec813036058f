/- CONTRACTS: a number without sign shifted to the right, in place. CONTRACTS: products of numbers without sign, written in place. CONTRACTS: nat.mul, nat.sqr, written over an operand. -/
import Derived.Test.YthlakefgobflnaaGreatDoorBbc
import Derived.Test.YthlakefgobflnaaGreatDoorBax
namespace Go.Proofs.YthlakefgobflnaaGreatDoor.L64
set_option linter.unusedVariables false
theorem drop_div{x:List Int}(hx:Ok x){q:Nat}(hq:q≤x.length):val (x.drop q)=val x/18446744073709551616^q:=by
 have h:=val_split x q;have hl:=val_lt (ok_take hx q);rw[Nat.min_eq_left hq]at h;rw[List.length_take,Nat.min_eq_left hq]at hl;rw[h,Nat.add_mul_div_left _ _ (Nat.pow_pos (by omega)),Nat.div_eq_of_lt hl,Nat.zero_add]
theorem big_shift{x:List Int}(hx:Ok x){q s:Nat}(hq:x.length≤q)(hs:64*q≤s):val x/2^s=0:=by
 refine Nat.div_eq_of_lt (Nat.lt_of_lt_of_le (val_lt hx) ?_);rw[show(18446744073709551616:Nat)=2^64 from rfl,←Nat.pow_mul];exact Nat.pow_le_pow_right (by omega) (by omega)
end Go.Proofs.YthlakefgobflnaaGreatDoor.L64
namespace Go.Proofs.YthlakefgobflnaaGreatDoor.G
open Go.RowKit Go.Proofs.YthlakefgobflnaaGreatDoorW.PrintWords Go.Proofs.YthlakefgobflnaaGreatDoorW.PrintLast Go.Proofs.YthlakefgobflnaaGreatDoorW.PrintMore Go.Proofs.YthlakefgobflnaaGreatDoor.S
set_option linter.unusedVariables false
set_option linter.unusedSimpArgs false
set_option maxRecDepth 100000 in
theorem natRsh_nil(z vx:Value)(r:Option Nat)(m s:Nat)(w:World)(hz:Dst w z r)(hx: ∃A c,vx= .slice A m c)(hs:0<s)(hs2:s≤6400)(hm:m≤s/64):
 Calls Tryz.prog 79 #[z,vx,.int .u64 (s:Int)] w fun e w'=>∃v r',e= .returned v∧Row w' v r' []∧New w r r'∧Chg r w w':=by
 obtain⟨A,c,rfl⟩:=hx;have HC:=ak (Chg.refl r w);have c0:((s:Int)==0)=false:=beq_eq_false_iff_ne.2 (by omega);obtain⟨q,eq⟩: ∃q,s/64=q:=⟨_,rfl⟩
 rw[eq]at hm;have q1:(s:Int)/64=(q:Int):=by omega
 obtain⟨d,hd⟩: ∃d:Int,(m:Int)-(q:Int)=d:=⟨_,rfl⟩
 have Q3:=ak (show wrap64 ((m:Int)-(q:Int))=d by rw[Lm.w64 (by omega) (by omega)];exact hd);have Q5:=ak (show IntKind.u64.wrap (q:Int)=(q:Int)from Lm.wu64 (by omega) (by omega));have Q6:=ak (show wrap64 (q:Int)=(q:Int)from Lm.w64 (by omega) (by omega));have c1:decide (d≤0)=true:=decide_eq_true (by omega);clear hs hs2 hm eq hd;rcases hz with⟨rfl,rfl⟩|⟨g,m,L,rfl,hR,hm,hL,hok,rfl⟩
 ·have q3:=Q3.out;have q5:=Q5.out;have q6:=Q6.out
  go_enter Tryz.func79,Tryz.ntmps79
  go_wp2_with fail
  go_ret
  exact⟨_,none,rfl,.inl ⟨rfl,rfl,rfl⟩,.inl rfl,HC.out⟩
 ·have HF:=ak (Row.of hR (Nat.zero_le _) hL hok);have h1:(0:Int)≤(L.length:Int):=by omega
  clear hR hm hL hok;have q3:=Q3.out;have q5:=Q5.out;have q6:=Q6.out
  go_enter Tryz.func79,Tryz.ntmps79
  go_wp2_with fail
  go_ret
  exact⟨_,some g,rfl,HF.out,.inl rfl,HC.out⟩
set_option maxRecDepth 100000 in
set_option maxHeartbeats 1000000 in
theorem natRsh_pos(z vx:Value)(r rx:Option Nat)(x:List Int)(s:Nat)(w:World)(hz:Dst w z r)(hx:Opd w vx rx x)(hm:x.length≤800)(hs:0<s)(hs2:s≤6400)(hq:s/64<x.length)(hox:L64.Ok x):
 Calls Tryz.prog 79 #[z,vx,.int .u64 (s:Int)] w fun e w'=>∃v r',e= .returned v∧Row w' v r' (L64.lim (L64.val x/2^s))∧New w r r'∧Chg r w w':=by
 have HX:=ak hx;obtain⟨p,cx,rfl,rfl,-,-,hcx,-,-⟩:=hx.open_ (by omega);obtain⟨m,em⟩: ∃m,x.length=m:=⟨_,rfl⟩
 obtain⟨q,eq⟩: ∃q,s/64=q:=⟨_,rfl⟩
 obtain⟨t,et⟩: ∃t,s%64=t:=⟨_,rfl⟩
 obtain⟨n,en⟩: ∃n,m-q=n:=⟨_,rfl⟩
 rw[em]at hcx;rw[eq,em]at hq;have HM:=ak (makeD_is z r n w hz (by omega) (by omega));have c0:((s:Int)==0)=false:=beq_eq_false_iff_ne.2 (by omega);have c1:decide ((n:Int)≤0)=false:=decide_eq_false (by omega);have c1': ¬(n=0):=by omega
 have q1:(s:Int)/64=(q:Int):=by omega
 have q2:(s:Int)%64=(t:Int):=by omega
 have Q3:=ak (show wrap64 ((m:Int)-(q:Int))=(n:Int) by rw[Lm.w64 (by omega) (by omega)];omega);have Q5:=ak (show IntKind.u64.wrap (q:Int)=(q:Int)from Lm.wu64 (by omega) (by omega));have Q6:=ak (show wrap64 (q:Int)=(q:Int)from Lm.w64 (by omega) (by omega));have Q7:=ak (show IntKind.u64.wrap (t:Int)=(t:Int)from Lm.wu64 (by omega) (by omega));have Q8:=ak (show wrap64 ((m:Int)-(n:Int))=(q:Int) by rw[Lm.w64 (by omega) (by omega)];omega);have q9:(0:Int)≤(q:Int):=by omega
 have q10:(q:Int)≤(m:Int):=by omega
 have q12:(m:Int)≤(cx:Int):=by omega
 have q13: ¬(cx=q):=by omega
 have HD:=ak (And.intro hm (And.intro hs (And.intro hs2 (And.intro hq (And.intro hcx hox)))));have HE:=ak (And.intro em (And.intro eq (And.intro et en)));have q11:m-q=n:=en;rw[em];clear hz hx hm hs hs2 hq hox em eq et en hcx;have q3:=Q3.out;have q5:=Q5.out;have q6:=Q6.out
 go_enter Tryz.func79,Tryz.ntmps79
 go_wp2_with fail
 with_reducible refine(HM.out).mono ?_
 rintro e w1 ⟨g,L,rfl,hm,hb⟩;have HX1:=ak (HX.out.below hb);have HC1:=ak ((Chg.refl r w).below hb);have HG:=ak hm;clear hm hb HX HM q3 q5 q6;obtain⟨em,eq,et,en⟩:=HE.out;obtain⟨hd0,hd1,hd2,hd3,hcx,hox⟩:=HD.out;obtain⟨hR,hg1,hg2,hoL,hrg⟩:=HG.out;obtain⟨p',cx',e1,e2,hrx,hobx,hlx,-,hfx⟩:=HX1.out.open_ (by omega);obtain rfl:p=p':=Option.some.inj e2;obtain rfl:cx=cx':=by injection e1
 have hld:(x.drop q).length=n:=by rw[List.length_drop];omega
 have hrd:=hrx.drop q;rw[Nat.zero_add]at hrd
 have hfin: ∀(T:List Int) (w2:World),T.length=n→L64.Ok T→L64.val T=L64.val x/2^s→RowAt w2 g (T++L.drop n)→Only g w1 w2→
  Calls Tryz.prog 51 #[.slice (some ⟨g,0,none⟩) n L.length] w2 fun e w'=>∃v r',e= .returned v∧Row w' v r' (L64.lim (L64.val x/2^s))∧New w r r'∧Chg r w w':=by
  intro T w2 hT hoT hv hR2 hO2;have hll:(T++L.drop n).length=L.length:=by rw[List.length_append,List.length_drop];omega
  have hf:=fin_is (wb:=w) (r:=r) (n:=L64.val x/2^s) (M:=n) hR2 (by rw[hll];exact hg1) (by rw[hll];exact hg2) (L64.ok_append hoT (L64.ok_drop hoL n)) (by rw[←hT,List.take_left];exact hv) hrg (HC1.out.only hO2 hrg);rw[hll]at hf;exact hf
 have hdd:=L64.drop_div hox (q:=q) (by omega);have hdv: ∀u,L64.val x/2^(64*q+u)=L64.val (x.drop q)/2^u:=fun u=>by rw[hdd,L64.pow_split,Nat.div_div_eq_div_mul]
 by_cases ht:t=0
 ·have c2:((t:Int)==0)=true:=beq_iff_eq.2 (by omega);have hcp:=fun ty=>copyW (w:=w1) (o:=0) L.length (cx-q) n ty 53 Tryz.underlying53 hR (by omega) hrd hld
  obtain⟨hR2,hO2⟩:=hR.lay (x.drop q) L 0 (by omega);rw[List.take_zero,List.nil_append,Nat.zero_add,hld]at hR2;have HF:=ak (hfin (x.drop q) _ hld (L64.ok_drop hox q) (by rw[show s=64*q+0 by omega,hdv,Nat.pow_zero,Nat.div_one]) hR2 hO2);clear em eq et en hd0 hd1 hd2 hd3 hcx hox hR hg1 hg2 hoL hrg e1 e2 hrx hobx hlx hfx hR2 hO2 hld hrd hfin hdd hdv;generalize w1.setCells g 0 (u64s (x.drop q))=w2 at*;have q3:=Q3.out;have q7:=Q7.out;have q8:=Q8.out
  go_wp2_with fail
  refine HF.out.mono ?_;rintro e w6 ⟨v,r',rfl,h1,h2,h3⟩;have H:=ak (And.intro h1 (And.intro h2 h3));clear h1 h2 h3 HF q3 q7 q8
  go_wp2_with fail
  go_ret
  exact⟨_,_,rfl,H.out⟩
 ·have c2:((t:Int)==0)=false:=beq_eq_false_iff_ne.2 (by omega);have hl1:=rshVU_is g L.length (cx-q) t (64-t) ⟨p,q,none⟩ L (x.drop q) w1 hR (fun e=>by subst e;have:=hfx L hR;show q+_≤_;omega) (by omega) hg2 hrd hobx.lt (L64.ok_drop hox q) (by omega) (by omega) (by omega) (by omega);have hsh:=shrR_is t (64-t) (by omega) (x.drop q) L (by omega) (x.drop q).length (Nat.le_refl _);have htl:=shrT_len t (64-t) (x.drop q);have hval:=L64.shrT_val t (64-t) (by omega) (x.drop q);have htk:=L64.shrT_ok t (64-t) (by omega) (x.drop q) (L64.ok_drop hox q);rw[List.take_of_length_le (by omega)]at hsh;rw[hsh,hld]at hl1;rw[hld]at htl;generalize L64.shrT t (64-t) (x.drop q)=T at*;have HQ:=ak hl1;have HF:=ak (fun w2=>hfin T w2 htl htk (by rw[hval,show s=64*q+t by omega,hdv]));clear em eq et en hd0 hd1 hd2 hd3 hcx hox hR hg1 hg2 hoL hrg e1 e2 hrx hobx hlx hfx hld hrd hfin hdd hdv hl1 hsh htl hval htk;have q3:=Q3.out;have q7:=Q7.out;have q8:=Q8.out
  go_wp2_with fail
  refine HQ.out.mono ?_;rintro e w2 ⟨⟨v,rfl⟩,hR2,hO2⟩;have HF2:=ak (HF.out w2 hR2 hO2);clear hR2 hO2 HF HQ
  go_wp2_with fail
  refine HF2.out.mono ?_;rintro e w6 ⟨v,r',rfl,h1,h2,h3⟩;have H:=ak (And.intro h1 (And.intro h2 h3));clear h1 h2 h3 HF2 q3 q7 q8
  go_wp2_with fail
  go_ret
  exact⟨_,_,rfl,H.out⟩
theorem natRsh_is(z vx:Value)(r rx:Option Nat)(a s:Nat)(w:World)(hz:Dst w z r)(hx:Opd w vx rx (L64.lim a))(hm:(L64.lim a).length≤800)(hs:0<s)(hs2:s≤6400):
 Calls Tryz.prog 79 #[z,vx,.int .u64 (s:Int)] w fun e w'=>∃v r',e= .returned v∧Row w' v r' (L64.lim (a/2^s))∧New w r r'∧Chg r w w':=by
 by_cases h0:s/64<(L64.lim a).length
 ·have:=natRsh_pos z vx r rx _ s w hz hx hm hs hs2 h0 (L64.ok_lim a);rw[L64.val_lim]at this;exact this
 ·have:=L64.big_shift (L64.ok_lim a) (q:=s/64) (s:=s) (by omega) (by omega);rw[L64.val_lim]at this;rw[this,L64.lim_zero];exact natRsh_nil z vx r _ s w hz hx.slice hs hs2 (by omega)
end Go.Proofs.YthlakefgobflnaaGreatDoor.G
namespace Go.Proofs.YthlakefgobflnaaGreatDoor.G
open Go.RowKit Go.Proofs.YthlakefgobflnaaGreatDoorW.PrintWords Go.Proofs.YthlakefgobflnaaGreatDoorW.PrintLast Go.Proofs.YthlakefgobflnaaGreatDoorW.PrintMore Go.Proofs.YthlakefgobflnaaGreatDoor.S
set_option linter.unusedVariables false
set_option linter.unusedSimpArgs false
theorem step_mulV(A P y X c x r:Nat)(h:A+P*c=X*y+r):A+P*((x*y+c)%18446744073709551616)+P*18446744073709551616*((x*y+c)/18446744073709551616)=(X+P*x)*y+r:=by
 have e:=Nat.div_add_mod (x*y+c) 18446744073709551616;generalize (x*y+c)%18446744073709551616=m at*;generalize (x*y+c)/18446744073709551616=q at*;have e2:P*(18446744073709551616*q+m)=P*(x*y+c):=by rw[e]
 rw[Nat.mul_add,Nat.mul_add,←Nat.mul_assoc]at e2;rw[Nat.add_mul,Nat.mul_assoc P x y];omega
theorem mulV_val'(x:List Int)(y r:Nat)(L:List Int)(hL:x.length≤L.length)(i:Nat)(h:i≤x.length):L64.val ((mulV x y r L i).1.take i)+18446744073709551616^i*(mulV x y r L i).2=L64.val (x.take i)*y+r:=by
 induction i with
 |zero=>simp[mulV,L64.val]
 |succ i ih=>
  have ih:=ih (by omega);have hl:=mulV_len x y r L i;have e:((mulV x y r L (i+1)).1).take (i+1)=(mulV x y r L i).1.take i++ [((((x.getD i 0).toNat*y+(mulV x y r L i).2)%18446744073709551616:Nat):Int)]:=by
   rw[mulV,List.take_add_one,List.take_set_of_le (Nat.le_refl _),List.getElem?_set_self (by omega)];rfl
  rw[e,L64.val_snoc,List.length_take,Nat.min_eq_left (by omega),L64.val_take,Nat.pow_succ,Int.toNat_natCast];exact step_mulV _ _ _ _ _ _ _ ih
theorem mulV_read{w w':World}{g y r i p:Nat}{L x:List Int}(hR:RowAt w g L)(hx:Rd w ⟨p,0,none⟩ x)(hxL:x.length≤L.length)(hR':RowAt w' g (mulV x y r L i).1)(ho:Only g w w')(hp:p<w.heap.size)(hi:i<x.length):w'.cell? ⟨p,i,none⟩=some (.int .u64 (x.getD i 0)):=by
 have h0:=hx.2 i hi;rw[←h0];show _=w.cell? ⟨p,0+i,none⟩;rw[Nat.zero_add];by_cases e:p=g
 ·subst e;rw[hR.cell _ (by omega),hR'.cell _ (by rw[mulV_len];omega),Lm.mulV_out _ _ _ _ _ _ (Nat.le_refl _)]
 ·exact World.cell?_of_block (a:=⟨p,i,none⟩) (ho.block p hp e)
set_option maxRecDepth 100000 in
theorem mulAddVWW_g_in(g cz cx p:Nat)(L x:List Int)(y r:Nat)(w:World)(hB:RowAt w g L)(hL:x.length≤L.length)(hm:L.length≤1000000)
 (hC:Rd w ⟨p,0,none⟩ x) (hp:p<w.heap.size) (hx:L64.Ok x) (hy:y<18446744073709551616) (hr:r<18446744073709551616):
 Calls Tryz.prog 158 #[.slice (some ⟨g,0,none⟩) x.length cz,.slice (some ⟨p,0,none⟩) x.length cx,.int .u64 (y:Int),.int .u64 (r:Int)] w fun e w'=>e= .returned (.int .u64 ((mulV x y r L x.length).2:Int))∧RowAt w' g (mulV x y r L x.length).1∧Only g w w':=by
 have HR:=ak hB;have HS:=ak (Only.refl g w);have HL:=ak (And.intro hL hm);have HC:=ak (fun w' i (hi:i<x.length) h1 h2=>mulV_read (w':=w') (y:=y) (r:=r) (i:=i) hB hC hL h1 h2 hp hi);have HX:=ak hx;have HY:=ak hy;have HRr:=ak hr;clear hB hL hm hC hx hy hr hp
 go_enter Tryz.func158,Tryz.ntmps158
 go_wp2
 go_loopg [8,19] (x.length) (fun kq v8 v19 w'=>∃(i:Nat),v8= .int .u64 ((mulV x y r L i).2:Int)∧v19= .int .i64 (i:Int)∧Aside0 (i+kq=x.length)∧Aside0 (RowAt w' g (mulV x y r L i).1)∧Aside0 (Only g w w'))
 case atStart=>exact⟨0,rfl,rfl,⟨Nat.zero_add _⟩,HR,HS⟩
 case round=>
  obtain⟨i,rfl,rfl,HI,HRi,HSi⟩:=hrel;clear HR HS;by_cases c:i<x.length
  ·cases gk with
   |zero=>exact absurd HI.out (by omega)
   |succ k1=>
    have hxi:=HC.out _ i c HRi.out HSi.out;obtain⟨X,hX⟩: ∃X:Nat,x.getD i 0=(X:Int):=⟨(x.getD i 0).toNat,by have:=L64.ok_get HX.out i;omega⟩
    have hXl:=word_lt HX.out i;have hst:mulV x y r L (i+1)=((mulV x y r L i).1.set i (((X*y+(mulV x y r L i).2)%18446744073709551616:Nat):Int),(X*y+(mulV x y r L i).2)/18446744073709551616):=by rw[mulV,hX,Int.toNat_natCast]
    have hcl:=mulV_lt L HX.out HY.out HRr.out i;have hln:=mulV_len x y r L i;have HLi:=ak (show i<(mulV x y r L i).1.length by rw[hln];have:=HL.out;omega);rw[hX]at hxi;rw[hX,Int.toNat_natCast]at hXl;obtain⟨T,hT⟩: ∃T,mulV x y r L i=T:=⟨_,rfl⟩
    rw[hT]at hst hcl HRi HLi⊢;obtain⟨Li,ci⟩:=T;have HST:=ak hst;have HMu:=ak (fun w0=>mulAddWWW_is X y ci hXl HY.out hcl w0);have c0:decide ((i:Int)<(x.length:Int))=true:=decide_eq_true (by omega);have c1:decide (i<x.length)=true:=decide_eq_true c;have i1:(0:Int)≤(i:Int):=by omega
    have i2:(i:Int)<(x.length:Int):=by omega
    clear hst hX hXl hln hT hcl
    go_wp2_with fail
    refine(HMu.out _).mono ?_;rintro e w2 ⟨rfl,hb⟩;have HR2:=ak (HRi.out.below hb);have HS2:=ak (HSi.out.below' hb);clear hb HMu hxi HRi HSi;obtain⟨q,hq⟩: ∃q:Nat,(X*y+ci)/18446744073709551616=q:=⟨_,rfl⟩
    obtain⟨m,hm⟩: ∃m:Int,(((X*y+ci)%18446744073709551616:Nat):Int)=m:=⟨_,rfl⟩
    have h2:=HST.out;rw[hq,hm]at h2⊢;have HST2:=ak h2;have hr:=HR2.out.cell i HLi.out;have hz:=blk_frozen HR2.out i;clear hq hm h2 HST
    go_wp2_with fail
    go_roundg k1
    case measure=>omega
    case rel=>exact⟨i+1,(by rw[HST2.out]),(by first|rfl|(rw[w64_succ i (by have:=HL.out;omega)])),⟨by have:=HI.out;omega⟩,⟨by rw[HST2.out];exact HR2.out.set i m⟩,⟨HS2.out.set i _⟩⟩
  ·have hi:i=x.length:=by have:=HI.out;omega
   subst hi
   go_wp2_with fail
   go_ret
   exact⟨rfl,HRi.out,HSi.out⟩
set_option maxRecDepth 100000 in
theorem mulAddVWW_in(g cz cx p:Nat)(L x:List Int)(y r:Nat)(w:World)(hB:RowAt w g L)(hL:x.length≤L.length)(hm:L.length≤1000000)
 (hC:Rd w ⟨p,0,none⟩ x) (hp:p<w.heap.size) (hx:L64.Ok x) (hy:y<18446744073709551616) (hr:r<18446744073709551616):
 Calls Tryz.prog 144 #[.slice (some ⟨g,0,none⟩) x.length cz,.slice (some ⟨p,0,none⟩) x.length cx,.int .u64 (y:Int),.int .u64 (r:Int)] w fun e w'=>e= .returned (.int .u64 ((mulV x y r L x.length).2:Int))∧RowAt w' g (mulV x y r L x.length).1∧Only g w w':=by
 have HQ:=ak (mulAddVWW_g_in g cz cx p L x y r w hB hL hm hC hp hx hy hr);clear hB hL hm hC hx hy hr hp;generalize mulV x y r L x.length=T at*;obtain⟨L',c⟩:=T
 go_enter Tryz.func144,Tryz.ntmps144
 go_wp2_with fail
 refine(HQ.out).mono ?_;rintro e w' ⟨rfl,hR,hb⟩;have HR:=ak hR;have HB:=ak hb;clear hR hb HQ
 go_wp2_with fail
 go_ret
 exact⟨rfl,HR.out,HB.out⟩
set_option maxRecDepth 100000 in
theorem mulAddWW_in(z vx:Value)(r rx:Option Nat)(x:List Int)(y:Nat)(w:World)(hz:Dst w z r)(hx:Opd w vx rx x)(h0:0<x.length)(hm:x.length≤800)(hox:L64.Ok x)(hy0:0<y)(hy:y<18446744073709551616):
 Calls Tryz.prog 127 #[z,vx,.int .u64 (y:Int),.int .u64 0] w fun e w'=>∃v r',e= .returned v∧Row w' v r' (L64.lim (L64.val x*y))∧New w r r'∧Chg r w w':=by
 have HX:=ak hx;obtain⟨p,cx,rfl,rfl,-,-,hcx,-,-⟩:=hx.open_ h0;obtain⟨m,em⟩: ∃m,x.length=m:=⟨_,rfl⟩
 obtain⟨M,eM⟩: ∃M,m+1=M:=⟨_,rfl⟩
 have HM:=ak (makeD_is z r M w hz (by omega) (by omega));have hw:wrap64 ((m:Int)+1)=(M:Int):=by unfold wrap64;omega
 have hb0:((m:Int)==0)=false:=beq_eq_false_iff_ne.2 (by omega);have hb1:((y:Int)==0)=false:=beq_eq_false_iff_ne.2 (by omega);have HD:=ak (And.intro h0 (And.intro hm (And.intro hox (And.intro hy0 hy))));have HE:=ak (And.intro em eM);rw[em];clear hz hx h0 hm hox hy0 hy em eM hcx
 go_enter Tryz.func127,Tryz.ntmps127
 go_wp2_with fail
 with_reducible refine(HM.out).mono ?_
 rintro e w1 ⟨g,L,rfl,hm,hb⟩;have HX1:=ak (HX.out.below hb);have HC1:=ak ((Chg.refl r w).below hb);have HG:=ak hm;clear hm hb HX HM hw;obtain⟨em,eM⟩:=HE.out;obtain⟨hd0,hd1,hox,hy0,hy⟩:=HD.out;obtain⟨hR,hg1,hg2,hoL,hrg⟩:=HG.out;obtain⟨p',cx',e1,e2,hrx,hobx,hlx,-,hfx⟩:=HX1.out.open_ (by omega);obtain rfl:p=p':=Option.some.inj e2;obtain rfl:cx=cx':=by injection e1
 have hq:=mulAddVWW_in g L.length cx p L x y 0 w1 hR (by omega) (by omega) hrx hobx.lt hox hy (by omega);have hv:=mulV_val' x y 0 L (by omega) x.length (Nat.le_refl _);have hl:=mulV_len x y 0 L x.length;have hok:=Lm.mulV_ok x y 0 hoL x.length;have hcl:=mulV_lt L hox hy (show 0<18446744073709551616 by omega) x.length;rw[List.take_length,Nat.add_zero]at hv;rw[em]at hq hv hl hok hcl;generalize mulV x y 0 L m=T at*;obtain⟨L2,c⟩:=T;simp only[]at hq hv hl hok hcl;have HQ:=ak hq;have HF:=ak (fun w2 (hR2:RowAt w2 g L2) (hO2:Only g w1 w2)=>(show(∃u,w2.cell? ⟨g,m,none⟩=some (.int .u64 u))∧w2.frozen? ⟨g,m,none⟩=false∧Calls Tryz.prog 51 #[.slice (some ⟨g,0,none⟩) M L.length] (w2.setCell ⟨g,m,none⟩ (.int .u64 (c:Int))) fun e w'=>∃v r',e= .returned v∧Row w' v r' (L64.lim (L64.val x*y))∧New w r r'∧Chg r w w' from by
  have hls:(L2.set m (c:Int)).length=L.length:=by rw[List.length_set,hl]
  have hsp:L2=L2.take m++L2.drop m:=(List.take_append_drop _ _).symm;have hf:=fin_is (wb:=w) (r:=r) (n:=L64.val x*y) (M:=M) (hR2.set m (c:Int)) (by rw[hls];exact hg1) (by rw[hls];exact hg2) (L64.ok_set hok m (by omega) (by omega)) (by
   rw[←eM,hsp,L64.set_end (by rw[List.length_take];omega) (by rw[List.length_drop];omega),L64.val_snoc,List.length_take,Nat.min_eq_left (by omega),Int.toNat_natCast];exact hv) hrg ((HC1.out.only hO2 hrg).only ((Only.refl g _).set m _) hrg)
  rw[hls]at hf;exact⟨⟨_,hR2.cell m (by omega)⟩,blk_frozen hR2 m,hf⟩))
 have n1:(0:Int)≤(m:Int):=by omega
 have n2:(m:Int)≤(L.length:Int):=by omega
 have n3:(m:Int)<(M:Int):=by omega
 clear em eM hd0 hd1 hox hy0 hy hR hg1 hg2 hoL hrg e1 e2 hrx hobx hlx hfx hq hv hl hok hcl
 go_wp2_with fail
 refine HQ.out.mono ?_;rintro e w2 ⟨rfl,hR2,hO2⟩;obtain⟨⟨u,hr⟩,hz,hf⟩:=HF.out w2 hR2 hO2;have HF2:=ak hf;clear hR2 hO2 hf HF HQ
 go_wp2_with fail
 refine HF2.out.mono ?_;rintro e w6 ⟨v,r',rfl,h1,h2,h3⟩;have H:=ak (And.intro h1 (And.intro h2 h3));clear h1 h2 h3 HF2 hr hz
 go_wp2_with fail
 go_ret
 exact⟨_,_,rfl,H.out⟩
end Go.Proofs.YthlakefgobflnaaGreatDoor.G
namespace Go.Proofs.YthlakefgobflnaaGreatDoor.G
open Go.RowKit Go.Proofs.YthlakefgobflnaaGreatDoorW.PrintWords Go.Proofs.YthlakefgobflnaaGreatDoorW.PrintLast Go.Proofs.YthlakefgobflnaaGreatDoorW.PrintMore Go.Proofs.YthlakefgobflnaaGreatDoor.S
set_option linter.unusedVariables false
set_option linter.unusedSimpArgs false
theorem eql_at(g d p d2:Nat){w:World}(hR:Ob w g)(hob:Ob w p)(hd:p=g→d=d2): ∀w':World,w'.heap=w.heap→
 (binOp .eql 112 (.pointer (some ⟨g,d,none⟩)) (.pointer (some ⟨p,d2,none⟩))).run Tryz.prog w'= .ok (.bool (decide (p=g))) w':=by
 intro w' e;obtain⟨j,hj,hjs⟩:=infoW;obtain⟨_,_,hR⟩:=hR;obtain⟨_,_,hob⟩:=hob;by_cases h:p=g
 ·obtain rfl:=hd h;subst h;rw[show decide (p=p)=true from decide_eq_true rfl];exact run_eql_ptr_same (w:=w') (⟨p,d,none⟩:Addr) Tryz.underlying112 hj
 ·rw[decide_eq_false h];exact run_eql_ptr_other (w:=w') (a:=⟨g,d,none⟩) (b:=⟨p,d2,none⟩) Tryz.underlying112 hj (by omega) (fun e=>h (congrArg Addr.block e).symm) (by rw[e];exact hR) (by rw[e];exact hob)
set_option maxRecDepth 100000 in
theorem alias_is(g p n1 n2 c1 c2:Nat)(b:Bool)(w:World)(h1:0<c1)(h2:0<c2)(hc1:c1≤9223372036854775807)(hc2:c2≤9223372036854775807)(hg:Ob w g)(hp:Ob w p)(hpg:p=g→c1=c2)(hb:decide (p=g)=b):
 Calls Tryz.prog 54 #[.slice (some ⟨g,0,none⟩) n1 c1,.slice (some ⟨p,0,none⟩) n2 c2] w fun e w'=>e= .returned (.bool b)∧Below w.heap.size w w':=by
 have HB:=ak (Below.refl w.heap.size w);have HN:=ak (eql_at g (c1-1) p (c2-1) hg hp (fun e=>by rw[hpg e]));rw[hb]at HN;obtain⟨d1,e1⟩: ∃d,c1-1=d:=⟨_,rfl⟩
 obtain⟨d2,e2⟩: ∃d,c2-1=d:=⟨_,rfl⟩
 rw[e1,e2]at HN;have Q1:=ak (show wrap64 ((c1:Int)-1)=(d1:Int) by rw[Lm.w64 (by omega) (by omega)];omega);have Q2:=ak (show wrap64 ((c2:Int)-1)=(d2:Int) by rw[Lm.w64 (by omega) (by omega)];omega);have Q3:=ak (show IntKind.i64.wrap ((c1:Int)-1)=(d1:Int) by rw[Go.IntWalk.i64_in _ ⟨by omega,by omega⟩];omega);have Q4:=ak (show IntKind.i64.wrap ((c2:Int)-1)=(d2:Int) by rw[Go.IntWalk.i64_in _ ⟨by omega,by omega⟩];omega);have a1:decide ((c1:Int)>0)=true:=decide_eq_true (by omega);have a2:decide ((c2:Int)>0)=true:=decide_eq_true (by omega);have a3:decide (0<c1)=true:=decide_eq_true h1;have a4:decide (0<c2)=true:=decide_eq_true h2;have b1:(0:Int)≤(c1:Int):=by omega
 have b2:(0:Int)≤(c2:Int):=by omega
 have b3:(0:Int)≤(d1:Int):=by omega
 have b4:(0:Int)≤(d2:Int):=by omega
 have b5:(d1:Int)<(c1:Int):=by omega
 have b6:(d2:Int)<(c2:Int):=by omega
 clear hg hp hpg hb e1 e2 hc1 hc2;have q1:=Q1.out;have q2:=Q2.out;have q3:=Q3.out;have q4:=Q4.out
 go_enter Tryz.func54,Tryz.ntmps54
 go_wp2_with fail
 go_region_held3 (fun w'=>(binOp .eql 112 (.pointer (some ⟨g,d1,none⟩)) (.pointer (some ⟨p,d2,none⟩))).run Tryz.prog w'= .ok (.bool b) w') (first|exact HN.out _ rfl|go_keep) (fail)
 go_wp2_with fail
 go_ret
 exact⟨rfl,below_drew HB.out⟩
theorem C_of_rd{w:World}{p:Nat}{l:List Int}(h:Rd w ⟨p,0,none⟩ l)(hl:l.length≤1000000):Kd.C (Kd.int .u64) w (some ⟨p,0,none⟩) l.length l:=
 ⟨rfl,by omega,fun _=>⟨_,rfl,fun j q hj=>⟨[.int .u64 q],rfl,rfl,fun i u hu=>by
  obtain⟨hjl,hq⟩:=List.getElem?_eq_some_iff.1 hj;cases i with
  |zero=>
   have h1:=h.2 j hjl;have ea:(⟨p,0,none⟩:Addr).add (j*(Kd.int .u64).sz+0)=⟨p,0+j,none⟩:=by
    show(⟨p,0,none⟩:Addr).add (j*1+0)=_;rw[Nat.mul_one,Nat.add_zero];unfold Addr.add
    split<;>simp_all
   rw[ea];have hu':Value.int .u64 q=u:=by simpa using hu
   rw[←hu',←hq];show w.cell? ⟨p,0+j,none⟩=_;rw[h1,List.getD_eq_getElem?_getD,List.getElem?_eq_getElem hjl];rfl
  |succ i=>simp at hu⟩⟩⟩
def Thr(w:World):Prop:=w.cell? ⟨1,0,none⟩=some (.int .i64 12)∧w.cell? ⟨2,0,none⟩=some (.int .i64 80)∧w.cell? ⟨3,0,none⟩=some (.int .i64 40)
theorem Thr.below{w w':World}(h:Thr w)(hb:Below w.heap.size w w'):Thr w':=
 ⟨(hb.cell (World.block_lt_of_cell? w _ h.1)).trans h.1,(hb.cell (World.block_lt_of_cell? w _ h.2.1)).trans h.2.1,(hb.cell (World.block_lt_of_cell? w _ h.2.2)).trans h.2.2⟩
set_option maxRecDepth 100000 in
theorem natMul_nil(z vx vy:Value)(r rx ry:Option Nat)(x y:List Int)(w:World)(hz:Dst w z r)(hx:Opd w vx rx x)(hy:Opd w vy ry y)(hr:r=none)(h0:1<y.length)(hy40:y.length<40)(hyx:y.length≤x.length)(hm:x.length≤800)(hox:L64.Ok x)(hoy:L64.Ok y)(ht:Thr w):
 Calls Tryz.prog 109 #[z,.pointer none,vx,vy] w fun e w'=>∃v r',e= .returned v∧Row w' v r' (L64.lim (L64.val x*L64.val y))∧New w r r'∧Chg r w w':=by
 have HB:=ak (Below.refl w.heap.size w);obtain⟨p,cx,rfl,rfl,hrx,hobx,hcx,hcx2,hfx⟩:=hx.open_ (by omega);obtain⟨q,cy,rfl,rfl,hry,hoby,hcy,hcy2,hfy⟩:=hy.open_ (by omega);obtain⟨rfl,rfl⟩:z= .slice none 0 0∧r=none:=by
  subst hr;rcases hz with h|⟨g,m,L,rfl,hR,hm,hL,hok,h⟩
  ·exact h
  ·cases h
 clear hr;obtain⟨m,em⟩: ∃m,x.length=m:=⟨_,rfl⟩
 obtain⟨n,en⟩: ∃n,y.length=n:=⟨_,rfl⟩
 obtain⟨N,eN⟩: ∃N,m+n=N:=⟨_,rfl⟩
 have Q:=ak (show wrap64 ((m:Int)+(n:Int))=(N:Int) by rw[Lm.w64 (by omega) (by omega)];omega);have h1:decide ((m:Int)<(n:Int))=false:=decide_eq_false (by omega);have h1':decide (m<n)=false:=decide_eq_false (by omega);have h2:((m:Int)==0)=false:=beq_eq_false_iff_ne.2 (by omega);have h3:((n:Int)==0)=false:=beq_eq_false_iff_ne.2 (by omega);have h4:((n:Int)==1)=false:=beq_eq_false_iff_ne.2 (by omega);have h5:decide ((n:Int)<40)=true:=decide_eq_true (by omega);have h5':decide (n<40)=true:=decide_eq_true (by omega);have HMk:=ak (fun w0=>make_is N (by omega) (by omega) w0);have HCx:=ak (C_of_rd hrx (by omega));have HCy:=ak (C_of_rd hry (by omega));have HMu:=ak (fun g c w0 hR hs hg hL hm=>basicMul_is w g c c N x y (some ⟨p,0,none⟩) (some ⟨q,0,none⟩) cx cy w0 hR hs hg (by omega) hL hL hm (by omega) HCx.out hox HCy.out hoy);have HVa:=ak (fun c hc=>Lm.bmul_all hox hoy c hc);have HLn:=ak (fun c=>(bmul_len x y (List.replicate c 0) y.length).trans List.length_replicate);have HOk:=ak (fun c=>bmul_ok hox hoy (L64.ok_zeros c) y.length);have HTl:=ak (fun w1 (hb:Below w.heap.size w w1)=>ht.below hb);rw[em,en,eN]at HVa;rw[em,en]at HMu;rw[en]at HLn HOk;rw[em,en];clear hz hx hy h0 hy40 hyx hm hox hoy ht hrx hobx hcx hcx2 hfx hry hoby hcy hcy2 hfy em en eN HCx HCy;have hq:=Q.out
 go_enter Tryz.func109,Tryz.ntmps109
 go_wp2_with fail
 refine(alias_nil _ _ _ _).mono ?_;rintro e w1 ⟨rfl,hb⟩;have HB1:=ak (below_step HB.out hb);clear hb
 go_wp2_with fail
 refine(alias_nil _ _ _ _).mono ?_;rintro e w2 ⟨rfl,hb⟩;have HB2:=ak (below_step HB1.out hb);clear hb
 go_wp2_with fail
 with_reducible refine(HMk.out _).mono ?_
 rintro e w3 ⟨g3,c,rfl,hg,hMc,hc2,hR,hb⟩;have HG:=ak (And.intro (Nat.le_trans HB2.out.size hg) (And.intro hMc hc2));have HR3:=ak hR;have HB3:=ak (below_step HB2.out hb);clear hg hMc hc2 hR hb hq;obtain⟨-,-,hv⟩:=HTl.out _ HB3.out
 go_wp2_with fail
 refine(HMu.out g3 c w3 HR3.out HB3.out HG.out.1 HG.out.2.1 (by have:=HG.out.2.2;omega)).mono ?_;rintro e w4 ⟨rfl,hR,hb⟩;have HR4:=ak hR;have HB4:=ak hb;clear hR hb hv
 go_wp2_with fail
 obtain⟨-,hval⟩:=HVa.out c HG.out.2.1;have hll:=HLn.out c;have hf:=fin_is (wb:=w) (r:=none) (n:=L64.val x*L64.val y) (M:=N) HR4.out (by rw[hll];exact HG.out.2.1) (by rw[hll];have:=HG.out.2.2;omega) (HOk.out c) hval (.inr HG.out.1) (Chg.of _ HB4.out);rw[hll]at hf;refine hf.mono ?_;rintro e w5 ⟨v,r',rfl,h1,h2,h3⟩;have H:=ak (And.intro h1 (And.intro h2 h3));clear h1 h2 h3 hf hll hval
 go_wp2_with fail
 go_ret
 exact⟨_,_,rfl,H.out⟩
set_option maxRecDepth 100000 in
theorem natMul_x(z vx vy:Value)(r rx ry:Option Nat)(x y:List Int)(w:World)(hz:Dst w z r)(hx:Opd w vx rx x)(hy:Opd w vy ry y)(hr:rx=r)(h0:1<y.length)(hy40:y.length<40)(hyx:y.length≤x.length)(hm:x.length≤800)(hox:L64.Ok x)(hoy:L64.Ok y)(ht:Thr w):
 Calls Tryz.prog 109 #[z,.pointer none,vx,vy] w fun e w'=>∃v r',e= .returned v∧Row w' v r' (L64.lim (L64.val x*L64.val y))∧New w r r'∧Chg r w w':=by
 have HB:=ak (Below.refl w.heap.size w);obtain⟨p,cx,rfl,rfl,hrx,hobx,hcx,hcx2,hfx⟩:=hx.open_ (by omega);obtain⟨q,cy,rfl,rfl,hry,hoby,hcy,hcy2,hfy⟩:=hy.open_ (by omega);obtain⟨k,L,rfl,hRz,hkL,rfl⟩: ∃k L,z= .slice (some ⟨p,0,none⟩) k L.length∧RowAt w p L∧k≤L.length∧r=some p:=by
  rcases hz with⟨_,h⟩|⟨g,k,L,rfl,hR,hk,hL,hok,h⟩
  ·rw[h]at hr;cases hr
  ·rw[h]at hr;obtain rfl:=Option.some.inj hr;exact⟨k,L,rfl,hR,hk,h⟩
 have HAl:=ak (alias_is p p k x.length L.length cx true w (by have:=hfx L hRz;omega) (by omega) (by have:=hfx L hRz;omega) (by omega) hRz.ob hobx (fun _=>hfx L hRz) (decide_eq_true rfl));clear hr hRz hkL;obtain⟨m,em⟩: ∃m,x.length=m:=⟨_,rfl⟩
 obtain⟨n,en⟩: ∃n,y.length=n:=⟨_,rfl⟩
 obtain⟨N,eN⟩: ∃N,m+n=N:=⟨_,rfl⟩
 have Q:=ak (show wrap64 ((m:Int)+(n:Int))=(N:Int) by rw[Lm.w64 (by omega) (by omega)];omega);have h1:decide ((m:Int)<(n:Int))=false:=decide_eq_false (by omega);have h1':decide (m<n)=false:=decide_eq_false (by omega);have h2:((m:Int)==0)=false:=beq_eq_false_iff_ne.2 (by omega);have h3:((n:Int)==0)=false:=beq_eq_false_iff_ne.2 (by omega);have h4:((n:Int)==1)=false:=beq_eq_false_iff_ne.2 (by omega);have h5:decide ((n:Int)<40)=true:=decide_eq_true (by omega);have h5':decide (n<40)=true:=decide_eq_true (by omega);have HMk:=ak (fun w0=>make_is N (by omega) (by omega) w0);have HCx:=ak (C_of_rd hrx (by omega));have HCy:=ak (C_of_rd hry (by omega));have HMu:=ak (fun g c w0 hR hs hg hL hm=>basicMul_is w g c c N x y (some ⟨p,0,none⟩) (some ⟨q,0,none⟩) cx cy w0 hR hs hg (by omega) hL hL hm (by omega) HCx.out hox HCy.out hoy);have HVa:=ak (fun c hc=>Lm.bmul_all hox hoy c hc);have HLn:=ak (fun c=>(bmul_len x y (List.replicate c 0) y.length).trans List.length_replicate);have HOk:=ak (fun c=>bmul_ok hox hoy (L64.ok_zeros c) y.length);have HTl:=ak (fun w1 (hb:Below w.heap.size w w1)=>ht.below hb);rw[em,en,eN]at HVa;rw[em,en]at HMu;rw[en]at HLn HOk;rw[em]at HAl;rw[em,en];clear hz hx hy h0 hy40 hyx hm hox hoy ht hrx hobx hcx hcx2 hfx hry hoby hcy hcy2 hfy em en eN HCx HCy;have hq:=Q.out
 go_enter Tryz.func109,Tryz.ntmps109
 go_wp2_with fail
 refine(HAl.out).mono ?_;rintro e w2 ⟨rfl,hb⟩;have HB2:=ak (below_step HB.out hb);clear hb
 go_wp2_with fail
 with_reducible refine(HMk.out _).mono ?_
 rintro e w3 ⟨g3,c,rfl,hg,hMc,hc2,hR,hb⟩;have HG:=ak (And.intro (Nat.le_trans HB2.out.size hg) (And.intro hMc hc2));have HR3:=ak hR;have HB3:=ak (below_step HB2.out hb);clear hg hMc hc2 hR hb hq;obtain⟨-,-,hv⟩:=HTl.out _ HB3.out
 go_wp2_with fail
 refine(HMu.out g3 c w3 HR3.out HB3.out HG.out.1 HG.out.2.1 (by have:=HG.out.2.2;omega)).mono ?_;rintro e w4 ⟨rfl,hR,hb⟩;have HR4:=ak hR;have HB4:=ak hb;clear hR hb hv
 go_wp2_with fail
 obtain⟨-,hval⟩:=HVa.out c HG.out.2.1;have hll:=HLn.out c;have hf:=fin_is (wb:=w) (r:=(some p)) (n:=L64.val x*L64.val y) (M:=N) HR4.out (by rw[hll];exact HG.out.2.1) (by rw[hll];have:=HG.out.2.2;omega) (HOk.out c) hval (.inr HG.out.1) (Chg.of _ HB4.out);rw[hll]at hf;refine hf.mono ?_;rintro e w5 ⟨v,r',rfl,h1,h2,h3⟩;have H:=ak (And.intro h1 (And.intro h2 h3));clear h1 h2 h3 hf hll hval
 go_wp2_with fail
 go_ret
 exact⟨_,_,rfl,H.out⟩
set_option maxRecDepth 100000 in
theorem natMul_y(z vx vy:Value)(r rx ry:Option Nat)(x y:List Int)(w:World)(hz:Dst w z r)(hx:Opd w vx rx x)(hy:Opd w vy ry y)(hr:ry=r)(hne:rx≠r)(h0:1<y.length)(hy40:y.length<40)(hyx:y.length≤x.length)(hm:x.length≤800)(hox:L64.Ok x)(hoy:L64.Ok y)(ht:Thr w):
 Calls Tryz.prog 109 #[z,.pointer none,vx,vy] w fun e w'=>∃v r',e= .returned v∧Row w' v r' (L64.lim (L64.val x*L64.val y))∧New w r r'∧Chg r w w':=by
 have HB:=ak (Below.refl w.heap.size w);obtain⟨p,cx,rfl,rfl,hrx,hobx,hcx,hcx2,hfx⟩:=hx.open_ (by omega);obtain⟨q,cy,rfl,rfl,hry,hoby,hcy,hcy2,hfy⟩:=hy.open_ (by omega);obtain⟨k,L,rfl,hRz,hkL,rfl⟩: ∃k L,z= .slice (some ⟨q,0,none⟩) k L.length∧RowAt w q L∧k≤L.length∧r=some q:=by
  rcases hz with⟨_,h⟩|⟨g,k,L,rfl,hR,hk,hL,hok,h⟩
  ·rw[h]at hr;cases hr
  ·rw[h]at hr;obtain rfl:=Option.some.inj hr;exact⟨k,L,rfl,hR,hk,h⟩
 have hpq:p≠q:=fun e=>hne (by rw[e])
 have HAl:=ak (alias_is q p k x.length L.length cx false w (by have:=hfy L hRz;omega) (by omega) (by have:=hfy L hRz;omega) (by omega) hRz.ob hobx (fun e=>absurd e hpq) (decide_eq_false hpq));have HAl2:=ak (fun w1 (hb:Below w.heap.size w w1)=>alias_is q q k y.length L.length cy true w1 (by have:=hfy L hRz;omega) (by omega) (by have:=hfy L hRz;omega) (by omega) (hRz.below hb).ob (hRz.below hb).ob (fun _=>hfy L hRz) (decide_eq_true rfl));clear hr hRz hkL hne hpq;obtain⟨m,em⟩: ∃m,x.length=m:=⟨_,rfl⟩
 obtain⟨n,en⟩: ∃n,y.length=n:=⟨_,rfl⟩
 obtain⟨N,eN⟩: ∃N,m+n=N:=⟨_,rfl⟩
 have Q:=ak (show wrap64 ((m:Int)+(n:Int))=(N:Int) by rw[Lm.w64 (by omega) (by omega)];omega);have h1:decide ((m:Int)<(n:Int))=false:=decide_eq_false (by omega);have h1':decide (m<n)=false:=decide_eq_false (by omega);have h2:((m:Int)==0)=false:=beq_eq_false_iff_ne.2 (by omega);have h3:((n:Int)==0)=false:=beq_eq_false_iff_ne.2 (by omega);have h4:((n:Int)==1)=false:=beq_eq_false_iff_ne.2 (by omega);have h5:decide ((n:Int)<40)=true:=decide_eq_true (by omega);have h5':decide (n<40)=true:=decide_eq_true (by omega);have HMk:=ak (fun w0=>make_is N (by omega) (by omega) w0);have HCx:=ak (C_of_rd hrx (by omega));have HCy:=ak (C_of_rd hry (by omega));have HMu:=ak (fun g c w0 hR hs hg hL hm=>basicMul_is w g c c N x y (some ⟨p,0,none⟩) (some ⟨q,0,none⟩) cx cy w0 hR hs hg (by omega) hL hL hm (by omega) HCx.out hox HCy.out hoy);have HVa:=ak (fun c hc=>Lm.bmul_all hox hoy c hc);have HLn:=ak (fun c=>(bmul_len x y (List.replicate c 0) y.length).trans List.length_replicate);have HOk:=ak (fun c=>bmul_ok hox hoy (L64.ok_zeros c) y.length);have HTl:=ak (fun w1 (hb:Below w.heap.size w w1)=>ht.below hb);rw[em,en,eN]at HVa;rw[em,en]at HMu;rw[en]at HLn HOk;rw[em]at HAl;rw[en]at HAl2;rw[em,en];clear hz hx hy h0 hy40 hyx hm hox hoy ht hrx hobx hcx hcx2 hfx hry hoby hcy hcy2 hfy em en eN HCx HCy;have hq:=Q.out
 go_enter Tryz.func109,Tryz.ntmps109
 go_wp2_with fail
 refine(HAl.out).mono ?_;rintro e w1 ⟨rfl,hb⟩;have HB1:=ak (below_step HB.out hb);have HA3:=ak (HAl2.out w1 hb);clear hb
 go_wp2_with fail
 refine(HA3.out).mono ?_;rintro e w2 ⟨rfl,hb⟩;have HB2:=ak (below_step HB1.out hb);clear hb
 go_wp2_with fail
 with_reducible refine(HMk.out _).mono ?_
 rintro e w3 ⟨g3,c,rfl,hg,hMc,hc2,hR,hb⟩;have HG:=ak (And.intro (Nat.le_trans HB2.out.size hg) (And.intro hMc hc2));have HR3:=ak hR;have HB3:=ak (below_step HB2.out hb);clear hg hMc hc2 hR hb hq;obtain⟨-,-,hv⟩:=HTl.out _ HB3.out
 go_wp2_with fail
 refine(HMu.out g3 c w3 HR3.out HB3.out HG.out.1 HG.out.2.1 (by have:=HG.out.2.2;omega)).mono ?_;rintro e w4 ⟨rfl,hR,hb⟩;have HR4:=ak hR;have HB4:=ak hb;clear hR hb hv
 go_wp2_with fail
 obtain⟨-,hval⟩:=HVa.out c HG.out.2.1;have hll:=HLn.out c;have hf:=fin_is (wb:=w) (r:=(some q)) (n:=L64.val x*L64.val y) (M:=N) HR4.out (by rw[hll];exact HG.out.2.1) (by rw[hll];have:=HG.out.2.2;omega) (HOk.out c) hval (.inr HG.out.1) (Chg.of _ HB4.out);rw[hll]at hf;refine hf.mono ?_;rintro e w5 ⟨v,r',rfl,h1,h2,h3⟩;have H:=ak (And.intro h1 (And.intro h2 h3));clear h1 h2 h3 hf hll hval
 go_wp2_with fail
 go_ret
 exact⟨_,_,rfl,H.out⟩
end Go.Proofs.YthlakefgobflnaaGreatDoor.G
