/- CONTRACTS: two numbers without sign compared (nat.cmp). -/
import Derived.Test.YthlakefgobflnaaGreatDoorBbj
namespace Go.Proofs.YthlakefgobflnaaGreatDoor.G
open Go.RowKit Go.Proofs.YthlakefgobflnaaGreatDoorW.PrintWords Go.Proofs.YthlakefgobflnaaGreatDoorW.PrintLast Go.Proofs.YthlakefgobflnaaGreatDoorW.PrintMore Go.Proofs.YthlakefgobflnaaGreatDoor.S
set_option linter.unusedVariables false
set_option linter.unusedSimpArgs false
def cmpN(a b:Nat):Int:=if a<b then-1 else if b<a then 1 else 0
theorem val_at{x:List Int}{i:Nat}(hi:i<x.length):L64.val x=L64.val (x.take i)+18446744073709551616^i*((x.getD i 0).toNat+18446744073709551616*L64.val (x.drop (i+1))):=by
 have h:=L64.val_split x i;rw[Nat.min_eq_left (by omega),L64.val_drop hi]at h;exact h
theorem cmp_word{x y:List Int}(hx:L64.Ok x){i:Nat}(h1:i<x.length)(h2:i<y.length)(hd:L64.val (x.drop (i+1))=L64.val (y.drop (i+1)))(h:(x.getD i 0).toNat<(y.getD i 0).toNat):L64.val x<L64.val y:=by
 rw[val_at h1,val_at h2,hd];have hl:=L64.val_lt (L64.ok_take hx i);rw[List.length_take,Nat.min_eq_left (by omega)]at hl;generalize (x.getD i 0).toNat=X at*;generalize (y.getD i 0).toNat=Y at*;generalize L64.val (y.drop (i+1))=D at*;generalize 18446744073709551616^i=P at*;have:P*(X+18446744073709551616*D+1)≤P*(Y+18446744073709551616*D):=Nat.mul_le_mul_left _ (by omega);rw[Nat.mul_add P _ 1,Nat.mul_one]at this;omega
theorem cmp_len{a b:Nat}(h:(L64.lim a).length<(L64.lim b).length):a<b:=by
 rcases Nat.lt_or_ge a b with h1|h1
 ·exact h1
 ·have:=len_mono h1;omega
set_option maxRecDepth 100000 in
theorem natCmp_len(m n:Nat)(A1 A2:Option Addr)(c1 c2:Nat)(w:World)(h:m≠n∨m=0):
 Calls Tryz.prog 38 #[.slice A1 m c1,.slice A2 n c2] w fun e w'=>e= .returned (.int .i64 (cmpN m n))∧Below w.heap.size w w':=by
 have HB:=ak (Below.refl w.heap.size w);rcases Nat.lt_trichotomy m n with h1|h1|h1
 ·have e:cmpN m n= -1:=if_pos h1;have d0:((m:Int) != (n:Int))=true:=bne_iff_ne.2 (by omega);have d1:decide ((m:Int)<(n:Int))=true:=decide_eq_true (by omega);have d2:decide (m<n)=true:=decide_eq_true h1;have HE:=ak e;clear h h1 e
  go_enter Tryz.func38,Tryz.ntmps38
  go_wp2_with fail
  go_ret
  exact⟨by rw[HE.out];rfl,HB.out⟩
 ·obtain rfl:m=0:=by omega
  subst h1
  go_enter Tryz.func38,Tryz.ntmps38
  go_wp2_with fail
  go_ret
  exact⟨rfl,HB.out⟩
 ·have e:cmpN m n=1:=by unfold cmpN;rw[if_neg (by omega),if_pos h1]
  have d0:((m:Int) != (n:Int))=true:=bne_iff_ne.2 (by omega);have d1:decide ((m:Int)<(n:Int))=false:=decide_eq_false (by omega);have d2:decide (m<n)=false:=decide_eq_false (by omega);have d3:decide ((m:Int)>(n:Int))=true:=decide_eq_true (by omega);have d4:decide (n<m)=true:=decide_eq_true h1;have HE:=ak e;clear h h1 e
  go_enter Tryz.func38,Tryz.ntmps38
  go_wp2_with fail
  go_ret
  exact⟨by rw[HE.out];rfl,HB.out⟩
set_option maxRecDepth 100000 in
set_option maxHeartbeats 1000000 in
theorem natCmp_same(p q:Nat)(x y:List Int)(c1 c2:Nat)(w:World)(hx:Rd w ⟨p,0,none⟩ x)(hy:Rd w ⟨q,0,none⟩ y)(hp:p<w.heap.size)(hq:q<w.heap.size)(hl:y.length=x.length)(h0:0<x.length)(hm:x.length≤100000)(hox:L64.Ok x)(hoy:L64.Ok y):
 Calls Tryz.prog 38 #[.slice (some ⟨p,0,none⟩) x.length c1,.slice (some ⟨q,0,none⟩) y.length c2] w fun e w'=>e= .returned (.int .i64 (cmpN (L64.val x) (L64.val y)))∧Below w.heap.size w w':=by
 have HB:=ak (Below.refl w.heap.size w);obtain⟨m,hxm⟩: ∃m,x.length=m:=⟨_,rfl⟩
 have HRx:=ak (fun w' i (hi:i<m) (hb:Below w.heap.size w w')=>show w'.cell? ⟨p,i,none⟩=some (.int .u64 (((x.getD i 0).toNat:Nat):Int)) by
  have h:=hx.2 i (by omega);rw[←L64.getN hox i,←h];show _=w.cell? ⟨p,0+i,none⟩;rw[Nat.zero_add];exact hb.cell hp)
 have HRy:=ak (fun w' i (hi:i<m) (hb:Below w.heap.size w w')=>show w'.cell? ⟨q,i,none⟩=some (.int .u64 (((y.getD i 0).toNat:Nat):Int)) by
  have h:=hy.2 i (by omega);rw[←L64.getN hoy i,←h];show _=w.cell? ⟨q,0+i,none⟩;rw[Nat.zero_add];exact hb.cell hq)
 have HC1:=ak (fun i (hi:i<m) hd h=>cmp_word (x:=x) (y:=y) hox (i:=i) (by omega) (by omega) hd h);have HC2:=ak (fun i (hi:i<m) hd h=>cmp_word (x:=y) (y:=x) hoy (i:=i) (by omega) (by omega) hd h);have HC3:=ak (fun(hd:L64.val (x.drop 1)=L64.val (y.drop 1)) (h:(x.getD 0 0).toNat=(y.getD 0 0).toNat)=>show L64.val x=L64.val y by
  rw[val_at (x:=x) (i:=0) (by omega),val_at (x:=y) (i:=0) (by omega),hd,h];rfl)
 have HDr:=ak (fun i (hi:i<m) (hd:L64.val (x.drop (i+1))=L64.val (y.drop (i+1))) (h:(x.getD i 0).toNat=(y.getD i 0).toNat)=>show L64.val (x.drop i)=L64.val (y.drop i) by rw[L64.val_drop (l:=x) (i:=i) (by omega),L64.val_drop (l:=y) (i:=i) (by omega),hd,h]);have HEnd:=ak (show L64.val (x.drop m)=L64.val (y.drop m) by rw[L64.val_drop_nil (by omega),L64.val_drop_nil (by omega)]);have HD:=ak (And.intro h0 (And.intro hm hxm));have d0:((m:Int) != (m:Int))=false:=by simp
 have d1:((m:Int)==0)=false:=beq_eq_false_iff_ne.2 (by omega);have d2: ¬(m=0):=by omega
 have e1:wrap64 ((m:Int)-1)=((m-1:Nat):Int):=by rw[Lm.w64 (by omega) (by omega)];omega
 rw[hl,hxm];clear hx hy hp hq hl h0 hm hox hoy hxm
 go_enter Tryz.func38,Tryz.ntmps38
 go_wp2_with fail
 go_loopg [7] m (fun kq v7 w'=>∃(i:Nat),v7= .int .i64 (i:Int)∧Aside0 (i≤kq∧i<m)∧Aside0 (L64.val (x.drop (i+1))=L64.val (y.drop (i+1)))∧Aside0 (Below w.heap.size w w'))
 case atStart=>
  refine⟨m-1,(by first|rfl|rw[e1]),⟨by have:=HD.out;omega⟩,⟨?_⟩,HB⟩;rw[show m-1+1=m by have:=HD.out;omega];exact HEnd.out
 case round=>
  obtain⟨i,rfl,HI,HDd,HB⟩:=hrel;clear e1;have hx1:=HRx.out wr i HI.out.2 HB.out;have hy1:=HRy.out wr i HI.out.2 HB.out;have hc1:=HC1.out i HI.out.2 HDd.out;have hc2:=HC2.out i HI.out.2 HDd.out.symm;have hdr:=HDr.out i HI.out.2 HDd.out;have i1:(0:Int)≤(i:Int):=by omega
  have i2:(i:Int)<(m:Int):=by have:=HI.out;omega
  have hend: ∀wq,Below w.heap.size w wq→(i=0∨(x.getD i 0).toNat≠(y.getD i 0).toNat)→cmpN (L64.val x) (L64.val y)=cmpN (x.getD i 0).toNat (y.getD i 0).toNat:=by
   intro wq _ h;rcases Nat.lt_trichotomy (x.getD i 0).toNat (y.getD i 0).toNat with h1|h1|h1
   ·unfold cmpN;rw[if_pos h1,if_pos (hc1 h1)]
   ·have h2:i=0:=h.elim id (fun h2=>absurd h1 h2);subst h2;rw[HC3.out HDd.out h1,h1];unfold cmpN;rw[if_neg (by omega),if_neg (by omega),if_neg (by omega),if_neg (by omega)]
   ·have h3:=hc2 h1;unfold cmpN;rw[if_neg (by omega),if_pos h3,if_neg (by omega),if_pos h1]
  have HN:=ak hend;have HDi:=ak hdr;generalize (x.getD i 0).toNat=X at*;generalize (y.getD i 0).toNat=Y at*;clear hc1 hc2 hend hdr;by_cases hc:0<i∧X=Y
  ·obtain⟨hi0,rfl⟩:=hc;cases gk with
   |zero=>exact absurd HI.out (by omega)
   |succ k1=>
    have c0:decide ((i:Int)>0)=true:=decide_eq_true (by omega);have c1:decide (0<i)=true:=decide_eq_true hi0;have c2:((X:Int)==(X:Int))=true:=by simp
    obtain⟨j,hj⟩: ∃j,i-1=j:=⟨_,rfl⟩
    have e2:wrap64 ((i:Int)-1)=(j:Int):=by rw[Lm.w64 (by omega) (by have:=HI.out;have:=HD.out;omega)];omega
    have HJ:=ak (And.intro hj hi0);have HE2:=ak e2;clear hj hi0
    go_wp2_with fail
    go_region_held3 (fun w'=>w'.cell? ⟨p,i,none⟩=some (.int .u64 (X:Int))∧w'.cell? ⟨q,i,none⟩=some (.int .u64 (X:Int))) (first|exact⟨hx1,hy1⟩|go_keep) (fail)
    go_wp2_with fail
    go_roundg k1
    case measure=>omega
    case rel=>exact⟨j,(by first|rfl|rw[HE2.out]),⟨by have:=HI.out;have:=HJ.out;omega⟩,⟨by have:=HJ.out;rw[show j+1=i by omega];exact HDi.out (by first|rfl|trivial)⟩,⟨below_drew HB.out⟩⟩
  ·have HF:=ak (HN.out wr HB.out (by omega));clear HN HDi;by_cases hi0:0<i
   ·have hXY:X≠Y:=fun e=>hc ⟨hi0,e⟩
    have c0:decide ((i:Int)>0)=true:=decide_eq_true (by omega);have c1:decide (0<i)=true:=decide_eq_true hi0;have c2:((X:Int)==(Y:Int))=false:=beq_eq_false_iff_ne.2 (by omega);clear hc hXY
    go_wp2_with fail
    go_region_held3 (fun w'=>w'.cell? ⟨p,i,none⟩=some (.int .u64 (X:Int))∧w'.cell? ⟨q,i,none⟩=some (.int .u64 (Y:Int))) (first|exact⟨hx1,hy1⟩|go_keep) (fail)
    go_wp2_with fail
    rcases Nat.lt_trichotomy X Y with h1|h1|h1
    ·have f0:decide ((X:Int)<(Y:Int))=true:=decide_eq_true (by omega);have f1:decide (X<Y)=true:=decide_eq_true (by omega);have HE:=ak (HF.out.trans (show cmpN X Y= -1 from if_pos h1));clear h1
     go_region_held3 (fun w'=>w'.cell? ⟨p,i,none⟩=some (.int .u64 (X:Int))∧w'.cell? ⟨q,i,none⟩=some (.int .u64 (Y:Int))) (first|exact⟨hx1,hy1⟩|go_keep) (fail)
     go_wp2_with fail
     go_ret
     exact⟨by rw[HE.out];rfl,by first|exact below_drew (below_drew (below_drew HB.out))|exact below_drew (below_drew HB.out)⟩
    ·have f0:decide ((X:Int)<(Y:Int))=false:=decide_eq_false (by omega);have f1:decide (X<Y)=false:=decide_eq_false (by omega);have f2:decide ((X:Int)>(Y:Int))=false:=decide_eq_false (by omega);have f3:decide (Y<X)=false:=decide_eq_false (by omega);have HE:=ak (HF.out.trans (show cmpN X Y=0 from by unfold cmpN;rw[if_neg (by omega),if_neg (by omega)]));clear h1
     go_region_held3 (fun w'=>w'.cell? ⟨p,i,none⟩=some (.int .u64 (X:Int))∧w'.cell? ⟨q,i,none⟩=some (.int .u64 (Y:Int))) (first|exact⟨hx1,hy1⟩|go_keep) (fail)
     go_wp2_with fail
     go_region_held3 (fun w'=>w'.cell? ⟨p,i,none⟩=some (.int .u64 (X:Int))∧w'.cell? ⟨q,i,none⟩=some (.int .u64 (Y:Int))) (first|exact⟨hx1,hy1⟩|go_keep) (fail)
     go_wp2_with fail
     go_ret
     exact⟨by rw[HE.out];rfl,by first|exact below_drew (below_drew (below_drew HB.out))|exact below_drew (below_drew HB.out)⟩
    ·have f0:decide ((X:Int)<(Y:Int))=false:=decide_eq_false (by omega);have f1:decide (X<Y)=false:=decide_eq_false (by omega);have f2:decide ((X:Int)>(Y:Int))=true:=decide_eq_true (by omega);have f3:decide (Y<X)=true:=decide_eq_true (by omega);have HE:=ak (HF.out.trans (show cmpN X Y=1 from by unfold cmpN;rw[if_neg (by omega),if_pos h1]));clear h1
     go_region_held3 (fun w'=>w'.cell? ⟨p,i,none⟩=some (.int .u64 (X:Int))∧w'.cell? ⟨q,i,none⟩=some (.int .u64 (Y:Int))) (first|exact⟨hx1,hy1⟩|go_keep) (fail)
     go_wp2_with fail
     go_region_held3 (fun w'=>w'.cell? ⟨p,i,none⟩=some (.int .u64 (X:Int))∧w'.cell? ⟨q,i,none⟩=some (.int .u64 (Y:Int))) (first|exact⟨hx1,hy1⟩|go_keep) (fail)
     go_wp2_with fail
     go_ret
     exact⟨by rw[HE.out];rfl,by first|exact below_drew (below_drew (below_drew HB.out))|exact below_drew (below_drew HB.out)⟩
   ·have c0:decide ((i:Int)>0)=false:=decide_eq_false (by omega);have c1:decide (0<i)=false:=decide_eq_false hi0;clear hc
    go_wp2_with fail
    refine sta (fun w'=>w'.cell? ⟨p,i,none⟩=some (.int .u64 (X:Int))∧w'.cell? ⟨q,i,none⟩=some (.int .u64 (Y:Int))) [] ⟨hx1,hy1⟩ (fun hHeld=>?_);repeat(first|refine pu 0 ?_|refine un 0 ?_)
    refine done_ (by decide+kernel) ?_;clear hHeld
    go_wp2_with fail
    rcases Nat.lt_trichotomy X Y with h1|h1|h1
    ·have f0:decide ((X:Int)<(Y:Int))=true:=decide_eq_true (by omega);have f1:decide (X<Y)=true:=decide_eq_true (by omega);have HE:=ak (HF.out.trans (show cmpN X Y= -1 from if_pos h1));clear h1
     go_region_held3 (fun w'=>w'.cell? ⟨p,i,none⟩=some (.int .u64 (X:Int))∧w'.cell? ⟨q,i,none⟩=some (.int .u64 (Y:Int))) (first|exact⟨hx1,hy1⟩|go_keep) (fail)
     go_wp2_with fail
     go_ret
     exact⟨by rw[HE.out];rfl,by first|exact below_drew (below_drew (below_drew HB.out))|exact below_drew (below_drew HB.out)⟩
    ·have f0:decide ((X:Int)<(Y:Int))=false:=decide_eq_false (by omega);have f1:decide (X<Y)=false:=decide_eq_false (by omega);have f2:decide ((X:Int)>(Y:Int))=false:=decide_eq_false (by omega);have f3:decide (Y<X)=false:=decide_eq_false (by omega);have HE:=ak (HF.out.trans (show cmpN X Y=0 from by unfold cmpN;rw[if_neg (by omega),if_neg (by omega)]));clear h1
     go_region_held3 (fun w'=>w'.cell? ⟨p,i,none⟩=some (.int .u64 (X:Int))∧w'.cell? ⟨q,i,none⟩=some (.int .u64 (Y:Int))) (first|exact⟨hx1,hy1⟩|go_keep) (fail)
     go_wp2_with fail
     go_region_held3 (fun w'=>w'.cell? ⟨p,i,none⟩=some (.int .u64 (X:Int))∧w'.cell? ⟨q,i,none⟩=some (.int .u64 (Y:Int))) (first|exact⟨hx1,hy1⟩|go_keep) (fail)
     go_wp2_with fail
     go_ret
     exact⟨by rw[HE.out];rfl,by first|exact below_drew (below_drew (below_drew HB.out))|exact below_drew (below_drew HB.out)⟩
    ·have f0:decide ((X:Int)<(Y:Int))=false:=decide_eq_false (by omega);have f1:decide (X<Y)=false:=decide_eq_false (by omega);have f2:decide ((X:Int)>(Y:Int))=true:=decide_eq_true (by omega);have f3:decide (Y<X)=true:=decide_eq_true (by omega);have HE:=ak (HF.out.trans (show cmpN X Y=1 from by unfold cmpN;rw[if_neg (by omega),if_pos h1]));clear h1
     go_region_held3 (fun w'=>w'.cell? ⟨p,i,none⟩=some (.int .u64 (X:Int))∧w'.cell? ⟨q,i,none⟩=some (.int .u64 (Y:Int))) (first|exact⟨hx1,hy1⟩|go_keep) (fail)
     go_wp2_with fail
     go_region_held3 (fun w'=>w'.cell? ⟨p,i,none⟩=some (.int .u64 (X:Int))∧w'.cell? ⟨q,i,none⟩=some (.int .u64 (Y:Int))) (first|exact⟨hx1,hy1⟩|go_keep) (fail)
     go_wp2_with fail
     go_ret
     exact⟨by rw[HE.out];rfl,by first|exact below_drew (below_drew (below_drew HB.out))|exact below_drew (below_drew HB.out)⟩
theorem natCmp_is(vx vy:Value)(rx ry:Option Nat)(a b:Nat)(w:World)(hx:Opd w vx rx (L64.lim a))(hy:Opd w vy ry (L64.lim b))(hm:(L64.lim a).length≤900):
 Calls Tryz.prog 38 #[vx,vy] w fun e w'=>e= .returned (.int .i64 (cmpN a b))∧Below w.heap.size w w':=by
 by_cases h:(L64.lim a).length≠(L64.lim b).length∨(L64.lim a).length=0
 ·obtain⟨A1,c1,rfl⟩:=hx.slice;obtain⟨A2,c2,rfl⟩:=hy.slice;have e:cmpN (L64.lim a).length (L64.lim b).length=cmpN a b:=by
   rcases Nat.lt_trichotomy (L64.lim a).length (L64.lim b).length with h1|h1|h1
   ·unfold cmpN;rw[if_pos h1,if_pos (cmp_len h1)]
   ·have ha:(L64.lim a).length=0:=h.elim (fun h2=>absurd h1 h2) id;obtain rfl:a=0:=L64.lim_eq_nil.1 (List.length_eq_zero_iff.1 ha);obtain rfl:b=0:=L64.lim_eq_nil.1 (List.length_eq_zero_iff.1 (by omega));unfold cmpN;rw[if_neg (by omega),if_neg (by omega),if_neg (by omega),if_neg (by omega)]
   ·have h2:=cmp_len h1;unfold cmpN;rw[if_neg (by omega),if_pos h1,if_neg (by omega),if_pos h2]
  have:=natCmp_len (L64.lim a).length (L64.lim b).length A1 A2 c1 c2 w h;rw[e]at this;exact this
 ·obtain⟨p,cx,rfl,-,hrx,hobx,-,-,-⟩:=hx.open_ (by omega);obtain⟨q,cy,rfl,-,hry,hoby,-,-,-⟩:=hy.open_ (by omega);have:=natCmp_same p q (L64.lim a) (L64.lim b) cx cy w hrx hry hobx.lt hoby.lt (by omega) (by omega) (by omega) (L64.ok_lim a) (L64.ok_lim b);rw[L64.val_lim,L64.val_lim]at this;exact this
end Go.Proofs.YthlakefgobflnaaGreatDoor.G
