/- CONTRACTS: the difference of two numbers without sign, written in place. ROWS SHIFTED IN PLACE: what they hold, as numbers. CONTRACTS: a number without sign shifted, in place. -/
import Derived.Test.YthlakefgobflnaaGreatDoorBbb
import Derived.Test.YthlakefgobflnaaGreatDoorBay
import Derived.Lib.SliceRun
namespace Go.Proofs.YthlakefgobflnaaGreatDoor.L64
set_option linter.unusedVariables false
theorem dif_core(A D X1 X2 Y P Q K c:Nat)(v1:A+Y+0=X1+P*K)(v2:D+0+K=X2+Q*c)(hlt:A+P*D<P*Q)(hle:Y≤X1+P*X2):c=0∧A+P*D=X1+P*X2-Y:=by
 have e1:P*(D+K)=P*(X2+Q*c):=by rw[←v2,Nat.add_zero]
 rw[Nat.mul_add,Nat.mul_add]at e1;have h0:c=0:=by
  rcases Nat.eq_zero_or_pos c with h|h
  ·exact h
  ·exfalso
   have:P*Q≤P*(Q*c):=Nat.mul_le_mul_left _ (Nat.le_mul_of_pos_right _ h);omega
 subst h0;rw[Nat.mul_zero,Nat.mul_zero]at e1;exact⟨rfl,by omega⟩
theorem dif_ge{x y L:List Int}{n m k K c:Nat}(hx:Ok x)(hy:Ok y)(hn:y.length=n)(hm:x.length=m)(hk:n+k=m)(hL:m≤L.length)(hle:val y≤val x)(hK:subK (x.take n) y 0 n=K)(hc:subK (x.drop n) [] K k=c):
 c=0∧val ((seg (seg L 0 (subT (x.take n) y 0) 0 n) n (subT (x.drop n) [] K) 0 k).take m)=val x-val y:=by
 have l1:(x.take n).length=n:=by rw[List.length_take];omega
 have l2:(x.drop n).length=k:=by rw[List.length_drop];omega
 have l3:(subT (x.take n) y 0).length=n:=by rw[subT,mk_len,l1]
 have l4:(subT (x.drop n) [] K).length=k:=by rw[subT,mk_len,l2]
 have hK1:K≤1:=by rw[←hK];exact subK_le _ _ (by omega) n
 have v1:=subT_val_all (ok_take hx n) hy (c:=0) (by omega) (by omega);have v2:=subT_val_all (ok_drop hx n) ok_nil hK1 (by simp);rw[l1,hK]at v1;rw[l2,hc,show val []=0 from rfl]at v2;have b1:=val_lt (subT_ok (x.take n) y 0);have b2:=val_lt (subT_ok (x.drop n) [] K);rw[l3]at b1;rw[l4]at b2;have v3:=val_split x n;rw[Nat.min_eq_left (by omega)]at v3;rw[seg_two l3 l4 (by omega),←List.append_assoc,List.take_append_of_le_length (by rw[List.length_append];omega),List.take_of_length_le (by rw[List.length_append];omega),val_append,l3,v3];rw[v3]at hle;generalize val (subT (x.take n) y 0)=A at*;generalize val (subT (x.drop n) [] K)=D at*;generalize val (x.take n)=X1 at*;generalize val (x.drop n)=X2 at*;generalize val y=Y at*;generalize 18446744073709551616^n=P at*;generalize 18446744073709551616^k=Q at*;refine dif_core A D X1 X2 Y P Q K c v1 v2 ?_ hle;have:P*(D+1)≤P*Q:=Nat.mul_le_mul_left _ b2;rw[Nat.mul_add]at this;omega
theorem dif_eq{x y L:List Int}{m c:Nat}(hx:Ok x)(hy:Ok y)(hn:y.length=m)(hm:x.length=m)(hL:m≤L.length)(hle:val y≤val x)(hc:subK x y 0 m=c):
 c=0∧val ((seg L 0 (subT x y 0) 0 m).take m)=val x-val y:=by
 have l3:(subT x y 0).length=m:=by rw[subT,mk_len,hm]
 have v1:=subT_val_all hx hy (c:=0) (by omega) (by omega);have b1:=val_lt (subT_ok x y 0);rw[hm,hc]at v1;rw[l3]at b1;rw[seg_all _ l3.symm,List.take_zero,List.nil_append,List.take_append_of_le_length (by omega),List.take_of_length_le (by omega)];generalize val (subT x y 0)=A at*;generalize val x=X at*;generalize val y=Y at*;generalize 18446744073709551616^m=P at*;rcases Nat.eq_zero_or_pos c with h|h
 ·subst h;exact⟨rfl,by omega⟩
 ·exfalso
  have:P≤P*c:=Nat.le_mul_of_pos_right _ h;omega
end Go.Proofs.YthlakefgobflnaaGreatDoor.L64
namespace Go.Proofs.YthlakefgobflnaaGreatDoor.G
open Go.RowKit Go.Proofs.YthlakefgobflnaaGreatDoorW.PrintWords Go.Proofs.YthlakefgobflnaaGreatDoorW.PrintLast Go.Proofs.YthlakefgobflnaaGreatDoorW.PrintMore Go.Proofs.YthlakefgobflnaaGreatDoor.S
set_option linter.unusedVariables false
set_option linter.unusedSimpArgs false
set_option maxRecDepth 100000 in
theorem natSub_ge(z vx vy:Value)(r rx ry:Option Nat)(x y:List Int)(w:World)(hz:Dst w z r)(hx:Opd w vx rx x)(hy:Opd w vy ry y)(h0:0<y.length)(hyx:y.length≤x.length)(hm:x.length≤900)(hox:L64.Ok x)(hoy:L64.Ok y)(hle:L64.val y≤L64.val x):
 Calls Tryz.prog 77 #[z,vx,vy] w fun e w'=>∃v r',e= .returned v∧Row w' v r' (L64.lim (L64.val x-L64.val y))∧New w r r'∧Chg r w w':=by
 have HX:=ak hx;have HY:=ak hy;obtain⟨p,cx,rfl,rfl,-,-,hcx,-,-⟩:=hx.open_ (by omega);obtain⟨q,cy,rfl,rfl,-,-,hcy,-,-⟩:=hy.open_ h0;obtain⟨m,em⟩: ∃m,x.length=m:=⟨_,rfl⟩
 obtain⟨n,en⟩: ∃n,y.length=n:=⟨_,rfl⟩
 have HM:=ak (makeD_is z r m w hz (by omega) (by omega));have HLe:=ak hle;have hb1:decide ((m:Int)<(n:Int))=false:=decide_eq_false (by omega);have hb1':decide (m<n)=false:=decide_eq_false (by omega);have hb2:((m:Int)==0)=false:=beq_eq_false_iff_ne.2 (by omega);have hb3:((n:Int)==0)=false:=beq_eq_false_iff_ne.2 (by omega);have HD:=ak (And.intro h0 (And.intro hyx (And.intro hm (And.intro hox hoy))));have HE:=ak (And.intro em en);have n1:(0:Int)≤(n:Int):=by omega
 have n2:(n:Int)≤(cx:Int):=by omega
 have n3:(n:Int)≤(cy:Int):=by omega
 have n4:(n:Int)≤(m:Int):=by omega
 have n5:(m:Int)≤(cx:Int):=by omega
 rw[em,en];clear hz hx hy h0 hyx hm hox hoy em en hcx hcy hle
 go_enter Tryz.func77,Tryz.ntmps77
 go_wp2_with fail
 refine(HM.out).mono ?_;rintro e w1 ⟨g,L,rfl,hm,hb⟩;have HX1:=ak (HX.out.below hb);have HY1:=ak (HY.out.below hb);have HC1:=ak ((Chg.refl r w).below hb);have HG:=ak hm;have n6:(n:Int)≤(L.length:Int):=by have:=HG.out.2.1;have:=HE.out;have:=HD.out;omega
 have n7:(m:Int)≤(L.length:Int):=by have:=HG.out.2.1;have:=HE.out;have:=HD.out;omega
 clear hm hb HX HY HM
 go_wp2_with fail
 go_still_tail 9,(by kernel_rfl)
 change wpList _ _ _ _ _ w1.drew;have HX2:=ak (HX1.out.move (w':=w1.drew) (fun _ _=>rfl));have HY2:=ak (HY1.out.move (w':=w1.drew) (fun _ _=>rfl));have HC2:=ak HC1.out.drew;have HR2:=ak HG.out.1.drew;generalize w1.drew=w2 at*;clear HX1 HY1 HC1;obtain⟨hd0,hd1,hd2,hox,hoy⟩:=HD.out;obtain⟨em,en⟩:=HE.out;obtain⟨-,hg1,hg2,hoL,hrg⟩:=HG.out;obtain⟨p',cx',e1,e2,hrx,hobx,hlx,-,hfx⟩:=HX2.out.open_ (by omega);obtain rfl:p=p':=Option.some.inj e2;obtain rfl:cx=cx':=by injection e1
 obtain⟨q',cy',e3,e4,hry,hoby,hly,-,hfy⟩:=HY2.out.open_ (by omega);obtain rfl:q=q':=Option.some.inj e4;obtain rfl:cy=cy':=by injection e3
 have l1:(x.take n).length=n:=by rw[List.length_take];omega
 have l2:(x.drop n).length=m-n:=by rw[List.length_drop];omega
 have l3:(L64.subT (x.take n) y 0).length=n:=by rw[L64.subT,L64.mk_len,l1]
 have HQ:=ak (subVV_is g L.length cx cy ⟨p,0,none⟩ ⟨q,0,none⟩ L (x.take n) y w2 HR2.out (by omega) hg2 (by omega) (hrx.take n) hobx.lt (fun e=>by subst e;have:=hfx L HR2.out;show 0+_≤_;omega) (L64.ok_take hox n) hry hoby.lt (fun e=>by subst e;have:=hfy L HR2.out;show 0+_≤_;omega) hoy);rw[l1,en]at HQ
 have HS:=ak (fun w3 (hR3:RowAt w3 g (L64.seg L 0 (L64.subT (x.take n) y 0) 0 n)) (hO3:Only g w2 w3)=>(show Rd w3 ⟨p,n,none⟩ (x.drop n)∧Ob w3 p from
  ⟨hrx.only n hobx.lt HR2.out hR3 (L64.seg_len (by omega) (by omega) (by omega)) (by omega) hO3 (fun k hk=>by rw[L64.seg_getD (by omega) (by omega) (by omega),if_neg (by omega)]),hobx.only hO3 hR3⟩))
 have HLn:=ak (show(L64.seg L 0 (L64.subT (x.take n) y 0) 0 n).length=L.length from L64.seg_len (by omega) (by omega) (by omega));have HOk1:=ak (L64.seg_ok 0 0 n hoL (L64.subT_ok (x.take n) y 0));have HKl:=ak (L64.subK_le (x.take n) y (c:=0) (by omega) n);have HL1:=ak l1;have HL2:=ak l2;clear hd0 hd1 hd2 hox hoy em en hg1 hg2 hoL hrg e1 e2 hrx hobx hlx hfx e3 e4 hry hoby hly hfy l1 l2 l3 HX2 HY2;obtain⟨K,hK⟩: ∃K,L64.subK (x.take n) y 0 n=K:=⟨_,rfl⟩
 rw[hK]at HQ HKl;have HK:=ak hK;clear hK
 go_wp2_with fail
 refine(HQ.out).mono ?_;rintro e w3 ⟨rfl,hR3,hO3⟩;have HR3:=ak hR3;have HC3:=ak (HC2.out.only hO3 HG.out.2.2.2.2);have HS3:=ak (HS.out w3 hR3 hO3);clear hR3 hO3 HQ HS HR2 HC2;by_cases hnm:n<m
 ·have d1:decide ((m:Int)>(n:Int))=true:=decide_eq_true (by omega);have d2:decide (n<m)=true:=decide_eq_true hnm;have hne1: ¬(L.length=n):=by have:=HG.out.2.1;have:=HE.out;omega
  have hne2: ¬(cx=n):=by omega
  obtain⟨k,hk⟩: ∃k,m-n=k:=⟨_,rfl⟩
  have hll:=HL2.out;rw[hk]at hll;obtain⟨c,hc⟩: ∃c,L64.subK (x.drop n) [] K k=c:=⟨_,rfl⟩
  have HQ:=ak (fun w4 (e:w4=w3.drew)=>(subVW_is g n (L.length-n) (cx-n) p K _ (x.drop n) w4 (by subst e;exact HR3.out.drew) (by rw[HLn.out,hll];have:=HG.out.2.1;have:=HE.out;omega) (by rw[HLn.out];exact HG.out.2.2.1) (by omega) (by subst e;exact HS3.out.1) (by subst e;exact HS3.out.2) (L64.ok_drop HD.out.2.2.2.1 n) HKl.out (by have:=HG.out.2.1;have:=HE.out;omega) (by omega)));rw[hll,hc]at HQ;have HV:=ak (L64.dif_ge (L:=L) (k:=k) HD.out.2.2.2.1 HD.out.2.2.2.2 HE.out.2 HE.out.1 (by omega) (by have:=HG.out.2.1;have:=HE.out;omega) HLe.out HK.out hc);have l4:(L64.subT (x.drop n) [] K).length=k:=by rw[L64.subT,L64.mk_len,hll]
  have HLn2:=ak (show(L64.seg (L64.seg L 0 (L64.subT (x.take n) y 0) 0 n) n (L64.subT (x.drop n) [] K) 0 k).length=L.length from(L64.seg_len (by rw[HLn.out];have:=HG.out.2.1;have:=HE.out;omega) (by omega) (by omega)).trans HLn.out);have HOk2:=ak (L64.seg_ok n 0 k HOk1.out (L64.subT_ok (x.drop n) [] K));obtain rfl:c=0:=HV.out.1;generalize L64.seg (L64.seg L 0 (L64.subT (x.take n) y 0) 0 n) n (L64.subT (x.drop n) [] K) 0 k=L2 at*;have HNM:=ak hnm;have HKk:=ak hk;clear hk hc hll l4 hnm
  go_wp2_with fail
  go_still_tail 7,(by kernel_rfl)
  change wpList _ _ _ _ _ w3.drew;rw[HKk.out]
  go_wp2_with fail
  refine(HQ.out _ rfl).mono ?_;rintro e w5 ⟨rfl,hR5,hO5⟩;have HR5:=ak hR5;have HC5:=ak (HC3.out.drew.only hO5 HG.out.2.2.2.2);clear hR5 hO5 HQ HC3 HR3
  go_wp2_with fail
  have hf:=fin_is (w:=w5) (wb:=w) (M:=m) (n:=L64.val x-L64.val y) HR5.out (by rw[HLn2.out];exact HG.out.2.1) (by rw[HLn2.out];exact HG.out.2.2.1) HOk2.out HV.out.2 HG.out.2.2.2.2 HC5.out;rw[HLn2.out]at hf;refine hf.mono ?_;rintro e w6 ⟨v,r',rfl,h1,h2,h3⟩;have H:=ak (And.intro h1 (And.intro h2 h3));clear h1 h2 h3 hf
  go_wp2_with fail
  go_ret
  exact⟨_,_,rfl,H.out⟩
 ·have d1:decide ((m:Int)>(n:Int))=false:=decide_eq_false (by omega);have d2:decide (n<m)=false:=decide_eq_false hnm;obtain⟨em,en⟩:=HE.out;obtain rfl:n=m:=by omega
  have e0:x.take n=x:=List.take_of_length_le (by omega);have hV:=L64.dif_eq (L:=L) (m:=n) (c:=K) HD.out.2.2.2.1 HD.out.2.2.2.2 (by omega) em (by have:=HG.out.2.1;omega) HLe.out (by have:=HK.out;rw[e0]at this;exact this);obtain rfl:K=0:=hV.1;have HV:=ak hV.2;have hL5:=HLn.out;have hO5:=HOk1.out;have hR5:=HR3.out;rw[e0]at hL5 hO5 hR5;have HX5:=ak (And.intro hL5 (And.intro hO5 hR5));clear hV em en e0 hL5 hO5 hR5 hnm HS3 HR3 HLn HOk1 HK;generalize L64.seg L 0 (L64.subT x y 0) 0 n=L2 at*
  go_wp2_with fail
  have hf:=fin_is (w:=w3) (wb:=w) (M:=n) (n:=L64.val x-L64.val y) HX5.out.2.2 (by rw[HX5.out.1];exact HG.out.2.1) (by rw[HX5.out.1];exact HG.out.2.2.1) HX5.out.2.1 HV.out HG.out.2.2.2.2 HC3.out;rw[HX5.out.1]at hf;refine hf.mono ?_;rintro e w6 ⟨v,r',rfl,h1,h2,h3⟩;have H:=ak (And.intro h1 (And.intro h2 h3));clear h1 h2 h3 hf
  go_wp2_with fail
  go_ret
  exact⟨_,_,rfl,H.out⟩
set_option maxRecDepth 100000 in
theorem natSub_nil(z vx vy:Value)(r rx:Option Nat)(x:List Int)(w:World)(hz:Dst w z r)(hx:Opd w vx rx x)(hy: ∃A c,vy= .slice A 0 c)(hm:x.length≤900)(hox:L64.Ok x):
 Calls Tryz.prog 77 #[z,vx,vy] w fun e w'=>∃v r',e= .returned v∧Row w' v r' x∧New w r r'∧Chg r w w':=by
 obtain⟨A,c,rfl⟩:=hy;by_cases h0:0<x.length
 ·have HQ:=ak (set_is z vx r rx x w hz hx hm hox);obtain⟨p,cx,rfl,-,-,-,-,-,-⟩:=hx.open_ h0;have hb1:decide ((x.length:Int)<0)=false:=decide_eq_false (by omega);have hb2:((x.length:Int)==0)=false:=beq_eq_false_iff_ne.2 (by omega);clear hz hx h0 hm hox
  go_enter Tryz.func77,Tryz.ntmps77
  go_wp2_with fail
  refine(HQ.out).mono ?_;rintro e w1 ⟨v,r',rfl,h1,h2,h3⟩;have H:=ak (And.intro h1 (And.intro h2 h3));clear h1 h2 h3 HQ
  go_wp2_with fail
  go_ret
  exact⟨_,_,rfl,H.out⟩
 ·obtain rfl:x= []:=List.length_eq_zero_iff.1 (by omega);obtain⟨A2,c2,rfl⟩:=hx.slice;have HC:=ak (Chg.refl r w);rcases hz with⟨rfl,rfl⟩|⟨g,m,L,rfl,hR,hm,hL,hok,rfl⟩
  ·clear hx h0 hm hox
   go_enter Tryz.func77,Tryz.ntmps77
   go_wp2_with fail
   go_ret
   exact⟨_,none,rfl,.inl ⟨rfl,rfl,rfl⟩,.inl rfl,HC.out⟩
  ·have HF:=ak (Row.of hR (Nat.zero_le _) hL hok);have h1:(0:Int)≤(L.length:Int):=by omega
   clear hR hm hL hok hx h0 hox
   go_enter Tryz.func77,Tryz.ntmps77
   go_wp2_with fail
   go_ret
   exact⟨_,some g,rfl,HF.out,.inl rfl,HC.out⟩
theorem natSub_is(z vx vy:Value)(r rx ry:Option Nat)(a b:Nat)(w:World)(hz:Dst w z r)(hx:Opd w vx rx (L64.lim a))(hy:Opd w vy ry (L64.lim b))(hm:(L64.lim a).length≤900)(hle:b≤a):
 Calls Tryz.prog 77 #[z,vx,vy] w fun e w'=>∃v r',e= .returned v∧Row w' v r' (L64.lim (a-b))∧New w r r'∧Chg r w w':=by
 by_cases h0:0<(L64.lim b).length
 ·have:=natSub_ge z vx vy r rx ry _ _ w hz hx hy h0 (L64.len_le (Nat.lt_of_le_of_lt hle (L64.lt_of_len (Nat.le_refl _)))) hm (L64.ok_lim a) (L64.ok_lim b) (by rw[L64.val_lim,L64.val_lim];exact hle);rw[L64.val_lim,L64.val_lim]at this;exact this
 ·have hb:L64.lim b= []:=List.length_eq_zero_iff.1 (by omega);obtain rfl:b=0:=L64.lim_eq_nil.1 hb;rw[hb]at hy;exact natSub_nil z vx vy r rx _ w hz hx hy.slice hm (L64.ok_lim a)
end Go.Proofs.YthlakefgobflnaaGreatDoor.G
namespace Go.Proofs.YthlakefgobflnaaGreatDoor.G
set_option linter.unusedVariables false
theorem shrT_len(s t:Nat)(l:List Int):(L64.shrT s t l).length=l.length:=by
 induction l with
 |nil=>rfl
 |cons a l ih=>simp only[L64.shrT,List.length_cons,ih]
theorem shrT_get(s t:Nat)(hst:s+t=64): ∀(x:List Int) (i:Nat),i<x.length→(L64.shrT s t x).getD i 0=((shrW x s i:Nat):Int)
 | [],i,h=>absurd h (by simp)
 |a::l,0,h=>by
  have e:64-s=t:=by omega
  simp only[L64.shrT,List.getD_cons_zero];unfold shrW;rw[e];cases l with
  |nil=>simp
  |cons b l=>simp
 |a::l,i+1,h=>by
  have ih:=shrT_get s t hst l i (by simp at h;omega);simp only[L64.shrT,List.getD_cons_succ];rw[ih];unfold shrW;simp only[List.getD_cons_succ,List.length_cons,Nat.add_lt_add_iff_right]
theorem shrR_is(s t:Nat)(hst:s+t=64)(x L:List Int)(hx:x.length≤L.length)(r:Nat)(hr:r≤x.length):shrR x s L r=(L64.shrT s t x).take r++L.drop r:=by
 induction r with
 |zero=>simp[shrR]
 |succ r ih=>
  have h1:=ih (by omega);have h2:=shrT_get s t hst x r (by omega);have h3:=shrT_len s t x;unfold shrR;rw[h1,←h2];apply List.ext_getElem?;intro i;rw[List.getElem?_set];have hlen:((L64.shrT s t x).take r).length=r:=by rw[List.length_take];omega
  by_cases hi:r=i
  ·subst hi;rw[if_pos rfl,if_pos (by rw[List.length_append,hlen,List.length_drop];omega),List.getElem?_append_left (by rw[List.length_take];omega),List.getElem?_take_of_lt (by omega),List.getD_eq_getElem?_getD,List.getElem?_eq_getElem (by omega)];rfl
  ·rw[if_neg hi];rcases Nat.lt_or_ge i r with h|h
   ·rw[List.getElem?_append_left (by omega),List.getElem?_append_left (by rw[List.length_take];omega),List.getElem?_take_of_lt h,List.getElem?_take_of_lt (by omega)]
   ·rw[List.getElem?_append_right (by omega),List.getElem?_append_right (by rw[List.length_take];omega),hlen,List.length_take,List.getElem?_drop,List.getElem?_drop]
    congr 1
    omega
theorem shlT_len(s t:Nat): ∀(l:List Int) (c:Nat),(L64.shlT s t c l).length=l.length
 | [],c=>rfl
 |a::l,c=>by simp only[L64.shlT,List.length_cons,shlT_len s t l]
theorem shlT_get(s t:Nat): ∀(x:List Int) (c i:Nat),i<x.length→(L64.shlT s t c x).getD i 0=(((x.getD i 0).toNat*2^s%18446744073709551616+(if i=0 then c else(x.getD (i-1) 0).toNat/2^t):Nat):Int)
 | [],c,i,h=>absurd h (by simp)
 |a::l,c,0,h=>by
  simp only[L64.shlT,List.getD_cons_zero,if_pos]
 |a::l,c,i+1,h=>by
  have ih:=shlT_get s t l (a.toNat/2^t) i (by simp at h;omega);simp only[L64.shlT,List.getD_cons_succ];have hn: ¬(i+1=0):=by omega
  rw[ih,if_neg hn];cases i with
  |zero=>simp
  |succ i=>simp
theorem shlR_is(s t:Nat)(hst:s+t=64)(x L:List Int)(d:Nat)(hx:d+x.length≤L.length)(r:Nat)(hr:r≤x.length):shlR x s d L r=L.take (d+(x.length-r))++((L64.shlT s t 0 x).drop (x.length-r)++L.drop (d+x.length)):=by
 have h3:=shlT_len s t x 0;induction r with
 |zero=>
  rw[shlR,Nat.sub_zero,List.drop_eq_nil_of_le (by omega),List.nil_append,List.take_append_drop]
 |succ r ih=>
  have h1:=ih (by omega);obtain⟨q,hq⟩: ∃q,x.length-(r+1)=q:=⟨_,rfl⟩
  have hq1:x.length-r=q+1:=by omega
  have hq2:x.length-1-r=q:=by omega
  have h2:=shlT_get s t x 0 q (by omega);have e:64-s=t:=by omega
  have h4:((shlW x s q:Nat):Int)=(L64.shlT s t 0 x).getD q 0:=by rw[h2,shlW,e]
  rw[shlR,h1,hq,hq1,hq2,h4];generalize L64.shlT s t 0 x=T at*;have hl1:(L.take (d+(q+1))).length=d+(q+1):=by rw[List.length_take];omega
  have hl2:(L.take (d+q)).length=d+q:=by rw[List.length_take];omega
  rw[List.set_append_left _ _ (by omega)];have e1:(L.take (d+(q+1))).set (d+q) (T.getD q 0)=L.take (d+q)++ [T.getD q 0]:=by
   apply List.ext_getElem?;intro i;rw[List.getElem?_set];by_cases hi:d+q=i
   ·subst hi;rw[if_pos rfl,if_pos (by omega),List.getElem?_append_right (by omega),hl2,Nat.sub_self];rfl
   ·rw[if_neg hi];rcases Nat.lt_or_ge i (d+q)with h|h
    ·rw[List.getElem?_append_left (by omega),List.getElem?_take_of_lt (by omega),List.getElem?_take_of_lt h]
    ·rw[List.getElem?_eq_none (by omega),List.getElem?_eq_none (by rw[List.length_append,hl2,List.length_singleton];omega)]
  have e2:T.drop q=T.getD q 0::T.drop (q+1):=by
   rw[List.drop_eq_getElem_cons (by omega),List.getD_eq_getElem?_getD,List.getElem?_eq_getElem (by omega)];rfl
  rw[e1,e2,List.append_assoc];rfl
theorem shlC_is(t:Nat): ∀(x:List Int) (c:Nat),0<x.length→L64.shlC t c x=(x.getD (x.length-1) 0).toNat/2^t
 | [],c,h=>absurd h (by simp)
 | [a],c,h=>rfl
 |a::b::l,c,h=>by
  have ih:=shlC_is t (b::l) (a.toNat/2^t) (by simp);rw[L64.shlC,ih];rfl
end Go.Proofs.YthlakefgobflnaaGreatDoor.G
namespace Go.Proofs.YthlakefgobflnaaGreatDoor.L64
set_option linter.unusedVariables false
theorem lsh_val{L T:List Int}{q m n:Nat}(c:Nat)(hT:T.length=m)(hn:q+m=n)(hL:n<L.length):(List.replicate q 0++((L.take q++(T++L.drop (q+m))).set n (c:Int)).drop q).take (n+1)=List.replicate q 0++(T++ [(c:Int)]):=by
 subst hT hn;have h1:(L.take q).length=q:=by rw[List.length_take];omega
 rw[List.set_append_right _ _ (by omega),h1,List.drop_append,List.drop_eq_nil_of_le (by omega),List.nil_append,h1,Nat.sub_self,List.drop_zero,List.take_append,List.take_of_length_le (by rw[List.length_replicate];omega),List.length_replicate,show q+T.length+1-q=T.length+1 by omega,show q+T.length-q=T.length by omega,
  set_end rfl (by rw[List.length_drop];omega)]
theorem lsh_num{T:List Int}(q m c:Nat)(hT:T.length=m):val (List.replicate q 0++(T++ [(c:Int)]))=18446744073709551616^q*(val T+c*18446744073709551616^m):=by
 rw[val_append,val_append,val_zeros,List.length_replicate,hT,Nat.zero_add];show _*(_+_*((c:Int).toNat+18446744073709551616*0))=_;rw[Int.toNat_natCast,Nat.mul_zero,Nat.add_zero,Nat.mul_comm c]
theorem pow_split(q t:Nat):2^(64*q+t)=18446744073709551616^q*2^t:=by
 rw[Nat.pow_add,Nat.pow_mul]
theorem shlT_ok(s t:Nat)(hst:s+t=64): ∀(l:List Int) (c:Nat),Ok l→c<2^s→Ok (shlT s t c l)
 | [],c,_,_=>ok_nil
 |a::l,c,h,hc=>fun x hx=>by
  have ha:=h a (by simp);have e:18446744073709551616=2^s*2^t:=by rw[←Nat.pow_add,hst]
  have hq:a.toNat/2^t<2^s:=Nat.div_lt_of_lt_mul (by rw[Nat.mul_comm,←e];omega);simp only[shlT,List.mem_cons]at hx;rcases hx with rfl|hx
  ·have h1:a.toNat*2^s%18446744073709551616+c<18446744073709551616:=by
    have h2:a.toNat*2^s%18446744073709551616=a.toNat%2^t*2^s:=by rw[e,Nat.mul_comm (2^s) (2^t),Nat.mul_mod_mul_right]
    have h3:=Nat.mod_lt a.toNat (show 0<2^t from Nat.pow_pos (by omega));have h4:(a.toNat%2^t+1)*2^s≤2^t*2^s:=Nat.mul_le_mul_right _ h3;rw[Nat.add_mul,Nat.mul_comm (2^t) (2^s),←e]at h4;omega
   generalize a.toNat*2^s%18446744073709551616+c=z at*;omega
  ·exact shlT_ok s t hst l _ (fun y hy=>h y (by simp[hy])) hq x hx
theorem shrT_ok(s t:Nat)(hst:s+t=64): ∀(l:List Int),Ok l→Ok (shrT s t l)
 | [],_=>ok_nil
 |a::l,h=>fun x hx=>by
  have ha:=h a (by simp);have e:18446744073709551616=2^s*2^t:=by rw[←Nat.pow_add,hst]
  have hq:a.toNat/2^s<2^t:=Nat.div_lt_of_lt_mul (by rw[←e];omega);simp only[shrT,List.mem_cons]at hx;rcases hx with rfl|hx
  ·have h1:a.toNat/2^s+(l.headD 0).toNat*2^t%18446744073709551616<18446744073709551616:=by
    have h2:(l.headD 0).toNat*2^t%18446744073709551616=(l.headD 0).toNat%2^s*2^t:=by rw[e,Nat.mul_mod_mul_right]
    have h3:=Nat.mod_lt (l.headD 0).toNat (show 0<2^s from Nat.pow_pos (by omega));have h4:((l.headD 0).toNat%2^s+1)*2^t≤2^s*2^t:=Nat.mul_le_mul_right _ h3;rw[Nat.add_mul,←e]at h4;omega
   generalize a.toNat/2^s+(l.headD 0).toNat*2^t%18446744073709551616=z at*;omega
  ·exact shrT_ok s t hst l (fun y hy=>h y (by simp[hy])) x hx
end Go.Proofs.YthlakefgobflnaaGreatDoor.L64
namespace Go.Proofs.YthlakefgobflnaaGreatDoor.G
open Go.RowKit Go.Proofs.YthlakefgobflnaaGreatDoorW.PrintWords Go.Proofs.YthlakefgobflnaaGreatDoorW.PrintLast Go.Proofs.YthlakefgobflnaaGreatDoorW.PrintMore Go.Proofs.YthlakefgobflnaaGreatDoor.S
set_option linter.unusedVariables false
set_option linter.unusedSimpArgs false
theorem clearW{w:World}{g:Nat}{L:List Int}(h:RowAt w g L)(n cz:Nat)(hn:n≤L.length)(ty:TypeId):
 (Builtin.clear_ #[53] ty #[.slice (some ⟨g,0,none⟩) n cz]).run Tryz.prog w= .ok (.tuple #[]) (w.setCells g 0 (u64s (List.replicate n 0))):=by
 have e:u64s (List.replicate n 0)=List.replicate n (.int .u64 0):=by rw[u64s,List.map_replicate]
 rw[e];by_cases h0:0<n
 ·refine Lib.run_clear_slice w 53 81 ty (.int .u64 0) Tryz.underlying53 zero_word rfl rfl g 0 n cz h0 (fun j hj=>?_) (fun j hj=>?_)
  ·rw[Nat.zero_add,h.cell j (by omega)];rfl
  ·rw[Nat.zero_add];exact blk_frozen h j
 ·obtain rfl:n=0:=by omega
  obtain⟨j,hj,hs⟩:=infoW;have hz:=zero_word w;simp[Builtin.clear_,run_underlying Tryz.underlying53,sizeOf,typeInfo,hj,hs,hz,World.setCells,storeCells]
set_option maxRecDepth 100000 in
theorem natLsh_nil(z vx:Value)(r:Option Nat)(s:Nat)(w:World)(hz:Dst w z r)(hx: ∃A c,vx= .slice A 0 c)(hs:0<s):
 Calls Tryz.prog 39 #[z,vx,.int .u64 (s:Int)] w fun e w'=>∃v r',e= .returned v∧Row w' v r' []∧New w r r'∧Chg r w w':=by
 obtain⟨A,c,rfl⟩:=hx;have HC:=ak (Chg.refl r w);have c0:((s:Int)==0)=false:=beq_eq_false_iff_ne.2 (by omega);rcases hz with⟨rfl,rfl⟩|⟨g,m,L,rfl,hR,hm,hL,hok,rfl⟩
 ·clear hs
  go_enter Tryz.func39,Tryz.ntmps39
  go_wp2_with fail
  go_ret
  exact⟨_,none,rfl,.inl ⟨rfl,rfl,rfl⟩,.inl rfl,HC.out⟩
 ·have HF:=ak (Row.of hR (Nat.zero_le _) hL hok);have h1:(0:Int)≤(L.length:Int):=by omega
  clear hR hm hL hok hs
  go_enter Tryz.func39,Tryz.ntmps39
  go_wp2_with fail
  go_ret
  exact⟨_,some g,rfl,HF.out,.inl rfl,HC.out⟩
theorem lsh_fin{w2 wb:World}{r:Option Nat}{g q m n M c V s:Nat}{L T:List Int}(hR2:RowAt w2 g (L.take q++(T++L.drop (q+m))))(hT:T.length=m)(hn:q+m=n)(hM:n+1=M)(hL:M≤L.length)(hL2:L.length≤100000)(hoL:L64.Ok L)(hoT:L64.Ok T)(hc:c<18446744073709551616)
 (hv:18446744073709551616^q*(L64.val T+c*18446744073709551616^m)=V*2^s) (hC:Chg r wb w2) (hrg:r=some g∨wb.heap.size≤g):
 ∃w4,(∃u,w2.cell? ⟨g,n,none⟩=some (.int .u64 u))∧w2.frozen? ⟨g,n,none⟩=false∧
  (∀ty,(Builtin.clear_ #[53] ty #[.slice (some ⟨g,0,none⟩) q L.length]).run Tryz.prog (w2.setCell ⟨g,n,none⟩ (.int .u64 (c:Int)))= .ok (.tuple #[]) w4)∧
  Calls Tryz.prog 51 #[.slice (some ⟨g,0,none⟩) M L.length] w4 fun e w'=>∃v r',e= .returned v∧Row w' v r' (L64.lim (V*2^s))∧New wb r r'∧Chg r wb w':=by
 have hll:(L.take q++(T++L.drop (q+m))).length=L.length:=by simp only[List.length_append,List.length_take,List.length_drop];omega
 have hR3:=hR2.set n (c:Int);have hl3:((L.take q++(T++L.drop (q+m))).set n (c:Int)).length=L.length:=by rw[List.length_set,hll]
 obtain⟨hR4,hO4⟩:=hR3.lay (List.replicate q 0) _ 0 (by rw[hl3,List.length_replicate];omega);rw[List.length_replicate,List.take_zero,List.nil_append,Nat.zero_add]at hR4;have hll4:(List.replicate q 0++((L.take q++(T++L.drop (q+m))).set n (c:Int)).drop q).length=L.length:=by
  rw[List.length_append,List.length_replicate,List.length_drop,hl3];omega
 have hf:=fin_is (wb:=wb) (r:=r) (n:=V*2^s) (M:=M) hR4 (by rw[hll4];exact hL) (by rw[hll4];exact hL2) (L64.ok_append (L64.ok_zeros q) (L64.ok_drop (L64.ok_set (L64.ok_append (L64.ok_take hoL q) (L64.ok_append hoT (L64.ok_drop hoL _))) n (by omega) (by omega)) q))
  (by rw[←hM,L64.lsh_val c hT hn (by omega),L64.lsh_num q m c hT];exact hv) hrg ((hC.only ((Only.refl g _).set n _) hrg).only hO4 hrg)
 rw[hll4]at hf;exact⟨_,⟨_,hR2.cell n (by rw[hll];omega)⟩,blk_frozen hR2 n,fun ty=>clearW hR3 q L.length (by rw[hl3];omega) ty,hf⟩
set_option maxRecDepth 100000 in
set_option maxHeartbeats 1000000 in
theorem natLsh_pos(z vx:Value)(r rx:Option Nat)(x:List Int)(s:Nat)(w:World)(hz:Dst w z r)(hx:Opd w vx rx x)(h0:0<x.length)(hm:x.length≤800)(hs:0<s)(hs2:s≤6400)(hox:L64.Ok x):
 Calls Tryz.prog 39 #[z,vx,.int .u64 (s:Int)] w fun e w'=>∃v r',e= .returned v∧Row w' v r' (L64.lim (L64.val x*2^s))∧New w r r'∧Chg r w w':=by
 have HX:=ak hx;obtain⟨p,cx,rfl,rfl,-,-,hcx,-,-⟩:=hx.open_ h0;obtain⟨m,em⟩: ∃m,x.length=m:=⟨_,rfl⟩
 obtain⟨q,eq⟩: ∃q,s/64=q:=⟨_,rfl⟩
 obtain⟨t,et⟩: ∃t,s%64=t:=⟨_,rfl⟩
 obtain⟨n,en⟩: ∃n,m+q=n:=⟨_,rfl⟩
 obtain⟨M,eM⟩: ∃M,n+1=M:=⟨_,rfl⟩
 have HM:=ak (makeD_is z r M w hz (by omega) (by omega));have c0:((s:Int)==0)=false:=beq_eq_false_iff_ne.2 (by omega);have c1:((m:Int)==0)=false:=beq_eq_false_iff_ne.2 (by omega);have q1:(s:Int)/64=(q:Int):=by omega
 have q2:(s:Int)%64=(t:Int):=by omega
 have Q3:=ak (show wrap64 ((m:Int)+(q:Int))=(n:Int) by rw[Lm.w64 (by omega) (by omega)];omega);have Q4:=ak (show wrap64 ((n:Int)+1)=(M:Int) by rw[Lm.w64 (by omega) (by omega)];omega);have Q5:=ak (show IntKind.u64.wrap (q:Int)=(q:Int)from Lm.wu64 (by omega) (by omega));have Q6:=ak (show wrap64 (q:Int)=(q:Int)from Lm.w64 (by omega) (by omega));have Q7:=ak (show IntKind.u64.wrap (t:Int)=(t:Int)from Lm.wu64 (by omega) (by omega));have Q8:=ak (show wrap64 ((n:Int)-(m:Int))=(q:Int) by rw[Lm.w64 (by omega) (by omega)];omega);have q9:(0:Int)≤(q:Int):=by omega
 have q10:(q:Int)≤(n:Int):=by omega
 have q11:n-q=m:=by omega
 have HD:=ak (And.intro h0 (And.intro hm (And.intro hs (And.intro hs2 hox))));have HE:=ak (And.intro em (And.intro eq (And.intro et (And.intro en eM))));rw[em];clear hz hx h0 hm hs hs2 hox em eq et en eM hcx;have q3:=Q3.out;have q4:=Q4.out;have q5:=Q5.out;have q6:=Q6.out
 go_enter Tryz.func39,Tryz.ntmps39
 go_wp2_with fail
 with_reducible refine(HM.out).mono ?_
 rintro e w1 ⟨g,L,rfl,hm,hb⟩;have HX1:=ak (HX.out.below hb);have HC1:=ak ((Chg.refl r w).below hb);have HG:=ak hm;clear hm hb HX HM q3 q4 q5 q6;have n1:(n:Int)≤(L.length:Int):=by have:=HG.out.2.1;have:=HE.out;omega
 have n2: ¬(L.length=q):=by have:=HG.out.2.1;have:=HE.out;omega
 have n3:(0:Int)≤(n:Int):=by omega
 have n4:(n:Int)<(M:Int):=by have:=HE.out;omega
 have n5:(q:Int)≤(L.length:Int):=by omega
 obtain⟨em,eq,et,en,eM⟩:=HE.out;obtain⟨hd0,hd1,hd2,hd3,hox⟩:=HD.out;obtain⟨hR,hg1,hg2,hoL,hrg⟩:=HG.out;obtain⟨p',cx',e1,e2,hrx,hobx,hlx,-,hfx⟩:=HX1.out.open_ (by omega);obtain rfl:p=p':=Option.some.inj e2;obtain rfl:cx=cx':=by injection e1
 by_cases ht:t=0
 ·have c2:((t:Int)==0)=true:=beq_iff_eq.2 (by omega);have hcp:=fun ty=>copyW (w:=w1) (o:=q) (L.length-q) cx m ty 53 Tryz.underlying53 hR (by omega) hrx em
  obtain⟨hR2,hO2⟩:=hR.lay x L q (by omega);rw[em]at hR2;obtain⟨w4,⟨u,hr⟩,hz,hcl,hf⟩:=lsh_fin (wb:=w) (r:=r) (c:=0) (V:=L64.val x) (s:=s) hR2 em (by omega) eM (by omega) hg2 hoL hox (by omega) (by
   rw[Nat.zero_mul,Nat.add_zero,Nat.mul_comm]
   congr 1
   rw[show s=64*q+0 by omega,L64.pow_split,Nat.pow_zero,Nat.mul_one]) (HC1.out.only hO2 hrg) hrg
  rw[show(((0:Nat):Int))=0 from rfl]at hcl;have HF:=ak hf;clear em eq et en eM hd0 hd1 hd2 hd3 hox hR hg1 hg2 hoL hrg e1 e2 hrx hobx hlx hfx hR2 hO2 hf;generalize w1.setCells g q (u64s x)=w2 at*;have q3:=Q3.out;have q4:=Q4.out;have q7:=Q7.out;have q8:=Q8.out
  go_wp2_with fail
  refine HF.out.mono ?_;rintro e w6 ⟨v,r',rfl,h1,h2,h3⟩;have H:=ak (And.intro h1 (And.intro h2 h3));clear h1 h2 h3 HF hr hz q3 q4 q7 q8
  go_wp2_with fail
  go_ret
  exact⟨_,_,rfl,H.out⟩
 ·have c2:((t:Int)==0)=false:=beq_eq_false_iff_ne.2 (by omega);have hl1:=lshVU_is g q (L.length-q) cx t (64-t) ⟨p,0,none⟩ L x w1 hR (by omega) hg2 hrx (.inr (Nat.zero_le _)) hobx.lt hox (by omega) (by omega) (by omega) (by omega);have hsh:=shlR_is t (64-t) (by omega) x L q (by omega) x.length (Nat.le_refl _);rw[Nat.sub_self,Nat.add_zero,List.drop_zero]at hsh;rw[hsh,←shlC_is (64-t) x 0 (by omega),em]at hl1;have hval:=L64.shlT_val t (64-t) (by omega) x 0;have htl:=shlT_len t (64-t) x 0;have htk:=L64.shlT_ok t (64-t) (by omega) x 0 hox (Nat.pow_pos (by omega));have hcb:L64.shlC (64-t) 0 x<18446744073709551616:=by
   rw[shlC_is (64-t) x 0 (by omega)];exact Nat.lt_of_le_of_lt (Nat.div_le_self _ _) (L64.ok_getN hox _)
  rw[em]at hval htl;generalize L64.shlT t (64-t) 0 x=T at*;generalize L64.shlC (64-t) 0 x=c at*;have HQ:=ak hl1;have HF:=ak (fun w2 (hR2:RowAt w2 g (L.take q++(T++L.drop (q+m)))) (hO2:Only g w1 w2)=>lsh_fin (wb:=w) (r:=r) (c:=c) (V:=L64.val x) (s:=s) hR2 htl (by omega) eM (by omega) hg2 hoL htk hcb (by
   rw[hval,Nat.add_zero,show s=64*q+t by omega,L64.pow_split,Nat.mul_left_comm]) (HC1.out.only hO2 hrg) hrg)
  clear em eq et en eM hd0 hd1 hd2 hd3 hox hR hg1 hg2 hoL hrg e1 e2 hrx hobx hlx hfx hl1 hsh hval htl htk hcb;have q3:=Q3.out;have q4:=Q4.out;have q7:=Q7.out;have q8:=Q8.out
  go_wp2_with fail
  refine HQ.out.mono ?_;rintro e w2 ⟨rfl,hR2,hO2⟩;obtain⟨w4,⟨u,hr⟩,hz,hcl,hf⟩:=HF.out w2 hR2 hO2;have HF2:=ak hf;clear hR2 hO2 hf HF HQ
  go_wp2_with fail
  refine HF2.out.mono ?_;rintro e w6 ⟨v,r',rfl,h1,h2,h3⟩;have H:=ak (And.intro h1 (And.intro h2 h3));clear h1 h2 h3 HF2 hr hz q3 q4 q7 q8
  go_wp2_with fail
  go_ret
  exact⟨_,_,rfl,H.out⟩
theorem natLsh_is(z vx:Value)(r rx:Option Nat)(a s:Nat)(w:World)(hz:Dst w z r)(hx:Opd w vx rx (L64.lim a))(hm:(L64.lim a).length≤800)(hs:0<s)(hs2:s≤6400):
 Calls Tryz.prog 39 #[z,vx,.int .u64 (s:Int)] w fun e w'=>∃v r',e= .returned v∧Row w' v r' (L64.lim (a*2^s))∧New w r r'∧Chg r w w':=by
 by_cases h0:0<(L64.lim a).length
 ·have:=natLsh_pos z vx r rx _ s w hz hx h0 hm hs hs2 (L64.ok_lim a);rw[L64.val_lim]at this;exact this
 ·have ha:L64.lim a= []:=List.length_eq_zero_iff.1 (by omega);obtain rfl:a=0:=L64.lim_eq_nil.1 ha;rw[ha]at hx;rw[Nat.zero_mul,L64.lim_zero];exact natLsh_nil z vx r s w hz hx.slice hs
end Go.Proofs.YthlakefgobflnaaGreatDoor.G
