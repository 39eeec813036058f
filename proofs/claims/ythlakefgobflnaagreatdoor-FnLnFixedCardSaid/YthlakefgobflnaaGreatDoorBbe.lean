/- CONTRACTS: nat.mul and nat.sqr in all their cases. CONTRACTS: the package's and math/bits' count of a word's bits. -/
import Derived.Test.YthlakefgobflnaaGreatDoorBbd
import Derived.Test.YthlakefgobflnaaGreatDoorBag
import Derived.Lib.BitFns
import Derived.Lib.Strings
import Derived.Lib.Slices
import Derived.Lib.Small
import Derived.Lib.Walk
import Derived.Outline
namespace Go.Proofs.YthlakefgobflnaaGreatDoor.G
open Go.RowKit Go.Proofs.YthlakefgobflnaaGreatDoorW.PrintWords Go.Proofs.YthlakefgobflnaaGreatDoorW.PrintLast Go.Proofs.YthlakefgobflnaaGreatDoorW.PrintMore Go.Proofs.YthlakefgobflnaaGreatDoor.S
set_option linter.unusedVariables false
set_option linter.unusedSimpArgs false
theorem lim_pos_val{b:Nat}(h:(L64.lim b).length=1):0<b∧b<18446744073709551616∧L64.lim b= [(b:Int)]:=by
 have hb:b≠0:=fun h0=>by subst h0;rw[L64.lim_zero]at h;cases h
 have hl:b<18446744073709551616^1:=L64.lt_of_len (by omega);rw[Nat.pow_one]at hl;refine⟨by omega,hl,?_⟩;rw[L64.lim_pos hb,Nat.mod_eq_of_lt hl,Nat.div_eq_of_lt hl,L64.lim_zero]
set_option maxRecDepth 100000 in
theorem natMul_zero_in(z vx vy:Value)(r:Option Nat)(m:Nat)(w:World)(hz:Dst w z r)(hx: ∃A c,vx= .slice A m c)(hy: ∃A c,vy= .slice A 0 c):
 Calls Tryz.prog 109 #[z,.pointer none,vx,vy] w fun e w'=>∃v r',e= .returned v∧Row w' v r' []∧New w r r'∧Chg r w w':=by
 obtain⟨A1,c1,rfl⟩:=hx;obtain⟨A2,c2,rfl⟩:=hy;have HC:=ak (Chg.refl r w);have hb:decide ((m:Int)<0)=false:=decide_eq_false (by omega);rcases hz with⟨rfl,rfl⟩|⟨g,k,L,rfl,hR,hk,hL,hok,rfl⟩
 ·by_cases hm:m=0
  ·have h1:((m:Int)==0)=true:=beq_iff_eq.2 (by omega);clear hm
   go_enter Tryz.func109,Tryz.ntmps109
   go_wp2_with fail
   go_ret
   exact⟨_,none,rfl,.inl ⟨rfl,rfl,rfl⟩,.inl rfl,HC.out⟩
  ·have h1:((m:Int)==0)=false:=beq_eq_false_iff_ne.2 (by omega);clear hm
   go_enter Tryz.func109,Tryz.ntmps109
   go_wp2_with fail
   go_ret
   exact⟨_,none,rfl,.inl ⟨rfl,rfl,rfl⟩,.inl rfl,HC.out⟩
 ·have HF:=ak (Row.of hR (Nat.zero_le _) hL hok);have h9:(0:Int)≤(L.length:Int):=by omega
  clear hR hk hL hok;by_cases hm:m=0
  ·have h1:((m:Int)==0)=true:=beq_iff_eq.2 (by omega);clear hm
   go_enter Tryz.func109,Tryz.ntmps109
   go_wp2_with fail
   go_ret
   exact⟨_,some g,rfl,HF.out,.inl rfl,HC.out⟩
  ·have h1:((m:Int)==0)=false:=beq_eq_false_iff_ne.2 (by omega);clear hm
   go_enter Tryz.func109,Tryz.ntmps109
   go_wp2_with fail
   go_ret
   exact⟨_,some g,rfl,HF.out,.inl rfl,HC.out⟩
set_option maxRecDepth 100000 in
theorem natMul_one_in(z vx vy:Value)(r rx ry:Option Nat)(x:List Int)(b:Nat)(w:World)(hz:Dst w z r)(hx:Opd w vx rx x)(hy:Opd w vy ry (L64.lim b))(hb1:(L64.lim b).length=1)(h0:0<x.length)(hm:x.length≤800)(hox:L64.Ok x):
 Calls Tryz.prog 109 #[z,.pointer none,vx,vy] w fun e w'=>∃v r',e= .returned v∧Row w' v r' (L64.lim (L64.val x*b))∧New w r r'∧Chg r w w':=by
 obtain⟨hb0,hb2,hbl⟩:=lim_pos_val hb1;have HQ:=ak (mulAddWW_in z vx r rx x b w hz hx h0 hm hox hb0 hb2);obtain⟨A,cx,rfl⟩:=hx.slice;obtain⟨q,cy,rfl,-,hry,-,-,-,-⟩:=hy.open_ (by omega);have hc:w.cell? ⟨q,0,none⟩=some (.int .u64 (b:Int)):=by
  have:=hry.2 0 (by omega);rw[hbl]at this;exact this
 rw[hb1];have h1:decide ((x.length:Int)<1)=false:=decide_eq_false (by omega);have h2:((x.length:Int)==0)=false:=beq_eq_false_iff_ne.2 (by omega);clear hz hx hy hb1 h0 hm hox hb0 hb2 hbl hry
 go_enter Tryz.func109,Tryz.ntmps109
 go_wp2_with fail
 refine(HQ.out).mono ?_;rintro e w1 ⟨v,r',rfl,h1,h2,h3⟩;have H:=ak (And.intro h1 (And.intro h2 h3));clear h1 h2 h3 HQ
 go_wp2_with fail
 go_ret
 exact⟨_,_,rfl,H.out⟩
theorem natMul_le(z vx vy:Value)(r rx ry:Option Nat)(a b:Nat)(w:World)(hz:Dst w z r)(hx:Opd w vx rx (L64.lim a))(hy:Opd w vy ry (L64.lim b))(hr:r=none∨rx=r∨ry=r)(hyx:(L64.lim b).length≤(L64.lim a).length)(hm:(L64.lim a).length<40)(ht:Thr w):
 Calls Tryz.prog 109 #[z,.pointer none,vx,vy] w fun e w'=>∃v r',e= .returned v∧Row w' v r' (L64.lim (a*b))∧New w r r'∧Chg r w w':=by
 rcases Nat.lt_trichotomy (L64.lim b).length 1 with h|h|h
 ·have hb:L64.lim b= []:=List.length_eq_zero_iff.1 (by omega);obtain rfl:b=0:=L64.lim_eq_nil.1 hb;rw[hb]at hy;rw[Nat.mul_zero,L64.lim_zero];exact natMul_zero_in z vx vy r _ w hz hx.slice hy.slice
 ·have:=natMul_one_in z vx vy r rx ry _ b w hz hx hy h (by omega) (by omega) (L64.ok_lim a);rw[L64.val_lim]at this;exact this
 ·have k:Calls Tryz.prog 109 #[z,.pointer none,vx,vy] w fun e w'=>∃v r',e= .returned v∧Row w' v r' (L64.lim (L64.val (L64.lim a)*L64.val (L64.lim b)))∧New w r r'∧Chg r w w':=by
   by_cases h1:r=none
   ·exact natMul_nil z vx vy r rx ry _ _ w hz hx hy h1 h (by omega) hyx (by omega) (L64.ok_lim a) (L64.ok_lim b) ht
   ·by_cases h2:rx=r
    ·exact natMul_x z vx vy r rx ry _ _ w hz hx hy h2 h (by omega) hyx (by omega) (L64.ok_lim a) (L64.ok_lim b) ht
    ·exact natMul_y z vx vy r rx ry _ _ w hz hx hy ((hr.resolve_left h1).resolve_left h2) h2 h (by omega) hyx (by omega) (L64.ok_lim a) (L64.ok_lim b) ht
  rw[L64.val_lim,L64.val_lim]at k;exact k
theorem natMul_in(z vx vy:Value)(r rx ry:Option Nat)(a b:Nat)(w:World)(hz:Dst w z r)(hx:Opd w vx rx (L64.lim a))(hy:Opd w vy ry (L64.lim b))(hr:r=none∨rx=r∨ry=r)(ha:(L64.lim a).length<40)(hb:(L64.lim b).length<40)(ht:Thr w):
 Calls Tryz.prog 109 #[z,.pointer none,vx,vy] w fun e w'=>∃v r',e= .returned v∧Row w' v r' (L64.lim (a*b))∧New w r r'∧Chg r w w':=by
 by_cases h:(L64.lim b).length≤(L64.lim a).length
 ·exact natMul_le z vx vy r rx ry a b w hz hx hy hr h ha ht
 ·have HQ:=ak (natMul_le z vy vx r ry rx b a w hz hy hx (hr.imp_right Or.symm) (by omega) hb ht);rw[Nat.mul_comm b a]at HQ;obtain⟨A1,c1,rfl⟩:=hx.slice;obtain⟨A2,c2,rfl⟩:=hy.slice;generalize (L64.lim a).length=m at*;generalize (L64.lim b).length=n at*;have d1:decide ((m:Int)<(n:Int))=true:=decide_eq_true (by omega);have d2:decide (m<n)=true:=decide_eq_true (by omega);clear hz hx hy ha hb h ht hr
  go_enter Tryz.func109,Tryz.ntmps109
  go_wp2_with fail
  refine(HQ.out).mono ?_;rintro e w1 ⟨v,r',rfl,h1,h2,h3⟩;have H:=ak (And.intro h1 (And.intro h2 h3));clear h1 h2 h3 HQ
  go_wp2_with fail
  go_ret
  exact⟨_,_,rfl,H.out⟩
set_option maxRecDepth 100000 in
theorem mulWW_is(X Y:Nat)(hx:X<18446744073709551616)(hy:Y<18446744073709551616)(w:World):
 Calls Tryz.prog 123 #[.int .u64 (X:Int),.int .u64 (Y:Int)] w fun e w'=>e= .returned (.tuple #[.int .u64 ((X*Y/18446744073709551616:Nat):Int),.int .u64 ((X*Y%18446744073709551616:Nat):Int)])∧Below w.heap.size w w':=by
 have HB:=ak (Below.refl w.heap.size w);have HM:=ak (fun w0=>bits_Mul.calls (X:Int) (Y:Int) _ _ w0 (Lm.mul64_f X Y hx hy));generalize ((X*Y/18446744073709551616:Nat):Int)=u at*;generalize ((X*Y%18446744073709551616:Nat):Int)=v at*;clear hx hy
 go_enter Tryz.func123,Tryz.ntmps123
 go_wp2_with fail
 refine(HM.out _).mono ?_;rintro e w1 ⟨rfl,hd⟩;have HB1:=ak (below_step HB.out (Drawn0.below hd));clear hd HB
 go_wp2_with fail
 go_ret2
 exact⟨rfl,HB1.out⟩
set_option maxRecDepth 100000 in
theorem sqr_one(vx:Value)(r:Option Nat)(a:Nat)(w:World)(hx:Row w vx r (L64.lim a))(h1:(L64.lim a).length=1):
 Calls Tryz.prog 108 #[vx,.pointer none,vx] w fun e w'=>∃v r',e= .returned v∧Row w' v r' (L64.lim (a*a))∧New w r r'∧Chg r w w':=by
 obtain⟨ha0,ha2,hal⟩:=lim_pos_val h1;have HM:=ak (makeD_is vx r 2 w hx.dst (by omega) (by omega));obtain⟨q,cy,rfl,-,hry,-,-,-,-⟩:=hx.opd.open_ (by omega);have hc:w.cell? ⟨q,0,none⟩=some (.int .u64 (a:Int)):=by
  have:=hry.2 0 (by omega);rw[hal]at this;exact this
 have HW:=ak (fun w0=>mulWW_is a a ha2 ha2 w0);obtain⟨u,hu⟩: ∃u:Nat,a*a/18446744073709551616=u:=⟨_,rfl⟩
 obtain⟨v,hv⟩: ∃v:Nat,a*a%18446744073709551616=v:=⟨_,rfl⟩
 have hp:a*a≤18446744073709551615*18446744073709551615:=Nat.mul_le_mul (by omega) (by omega);have HV:=ak (show v+18446744073709551616*u=a*a∧u<18446744073709551616∧v<18446744073709551616 by
  generalize a*a=P at*;omega)
 rw[hu,hv]at HW;rw[h1]at HM⊢;clear hx h1 ha0 ha2 hal hry hu hv hp
 go_enter Tryz.func108,Tryz.ntmps108
 go_wp2_with fail
 refine(HM.out).mono ?_;rintro e w1 ⟨g,L,rfl,hm,hb⟩;have HC1:=ak ((Chg.refl r w).below hb);have HG:=ak hm;clear hm hb HM hc
 go_wp2_with fail
 refine(HW.out _).mono ?_;rintro e w2 ⟨rfl,hb⟩;have HC2:=ak (HC1.out.below hb);obtain⟨hR,hg1,hg2,hoL,hrg⟩:=HG.out;have hR2:=hR.below hb;have hr1:=hR2.cell 1 (by omega);have hz1:=blk_frozen hR2 1;have hr0:=(hR2.set 1 (u:Int)).cell 0 (by rw[List.length_set];omega);have hz0:=blk_frozen (hR2.set 1 (u:Int)) 0;have hR4:=(hR2.set 1 (u:Int)).set 0 (v:Int);have hls:((L.set 1 (u:Int)).set 0 (v:Int)).length=L.length:=by rw[List.length_set,List.length_set]
 have hf:=fin_is (wb:=w) (r:=r) (n:=a*a) (M:=2) hR4 (by rw[hls];exact hg1) (by rw[hls];exact hg2) (L64.ok_set (L64.ok_set hoL 1 (by omega) (by have:=HV.out;omega)) 0 (by omega) (by have:=HV.out;omega)) (by
  match L,hg1 with
  |x0::x1::L',_=>
   show(v:Int).toNat+18446744073709551616*((u:Int).toNat+18446744073709551616*0)=_;have:=HV.out.1;rw[Int.toNat_natCast,Int.toNat_natCast];omega) hrg ((HC2.out.only ((Only.refl g _).set 1 _) hrg).only ((Only.refl g _).set 0 _) hrg)
 rw[hls]at hf;have HF:=ak hf;generalize L.getD 1 0=l1 at*;generalize (L.set 1 (u:Int)).getD 0 0=l0 at*;clear hb hR hg1 hg2 hoL hrg hR2 hR4 hls hf HW
 go_wp2_with fail
 refine HF.out.mono ?_;rintro e w6 ⟨v,r',rfl,h1,h2,h3⟩;have H:=ak (And.intro h1 (And.intro h2 h3));clear h1 h2 h3 HF hr1 hz1 hr0 hz0
 go_wp2_with fail
 go_ret
 exact⟨_,_,rfl,H.out⟩
set_option maxRecDepth 100000 in
theorem sqr_zero(vx:Value)(r:Option Nat)(w:World)(hx:Row w vx r []):
 Calls Tryz.prog 108 #[vx,.pointer none,vx] w fun e w'=>∃v r',e= .returned v∧Row w' v r' []∧New w r r'∧Chg r w w':=by
 have HC:=ak (Chg.refl r w);rcases hx with⟨rfl,rfl,-⟩|⟨g,L,rfl,hR,hl,hL,hok,rfl⟩
 ·go_enter Tryz.func108,Tryz.ntmps108
  go_wp2_with fail
  go_ret
  exact⟨_,none,rfl,.inl ⟨rfl,rfl,rfl⟩,.inl rfl,HC.out⟩
 ·have HF:=ak (Row.of hR (Nat.zero_le _) hL hok);have h9:(0:Int)≤(L.length:Int):=by omega
  clear hR hl hL hok
  go_enter Tryz.func108,Tryz.ntmps108
  go_wp2_with fail
  go_ret
  exact⟨_,some g,rfl,HF.out,.inl rfl,HC.out⟩
set_option maxRecDepth 100000 in
theorem sqr_many(vx:Value)(r:Option Nat)(x:List Int)(w:World)(hx:Row w vx r x)(h0:1<x.length)(h12:x.length<12)(hox:L64.Ok x)(ht:Thr w):
 Calls Tryz.prog 108 #[vx,.pointer none,vx] w fun e w'=>∃v r',e= .returned v∧Row w' v r' (L64.lim (L64.val x*L64.val x))∧New w r r'∧Chg r w w':=by
 have HB:=ak (Below.refl w.heap.size w);obtain⟨p,cx,rfl,rfl,hrx,hobx,hcx,hcx2,hfx⟩:=hx.opd.open_ (by omega);have HAl:=ak (alias_is p p x.length x.length cx cx true w (by omega) (by omega) (by omega) (by omega) hobx hobx (fun _=>rfl) (decide_eq_true rfl));obtain⟨m,em⟩: ∃m,x.length=m:=⟨_,rfl⟩
 obtain⟨N,eN⟩: ∃N,m+m=N:=⟨_,rfl⟩
 have Q:=ak (show wrap64 (2*(m:Int))=(N:Int) by rw[Lm.w64 (by omega) (by omega)];omega);have h2:((m:Int)==0)=false:=beq_eq_false_iff_ne.2 (by omega);have h4:((m:Int)==1)=false:=beq_eq_false_iff_ne.2 (by omega);have h5:decide ((m:Int)<12)=true:=decide_eq_true (by omega);have h5':decide (m<12)=true:=decide_eq_true (by omega);have h6:decide ((m:Int)<80)=true:=decide_eq_true (by omega);have h6':decide (m<80)=true:=decide_eq_true (by omega);have HMk:=ak (fun w0=>make_is N (by omega) (by omega) w0);have HCx:=ak (C_of_rd hrx (by omega));have HMu:=ak (fun g c w0 hR hs hg hL hm=>basicMul_is w g c c N x x (some ⟨p,0,none⟩) (some ⟨p,0,none⟩) cx cx w0 hR hs hg (by omega) hL hL hm (by omega) HCx.out hox HCx.out hox);have HVa:=ak (fun c hc=>Lm.bmul_all hox hox c hc);have HLn:=ak (fun c=>(bmul_len x x (List.replicate c 0) x.length).trans List.length_replicate);have HOk:=ak (fun c=>bmul_ok hox hox (L64.ok_zeros c) x.length);have HTl:=ak (fun w1 (hb:Below w.heap.size w w1)=>ht.below hb);rw[em,eN]at HVa;rw[em]at HMu HLn HOk HAl;rw[em];clear hx h0 h12 hox ht hrx hobx hcx hcx2 hfx em eN HCx;have hq:=Q.out
 go_enter Tryz.func108,Tryz.ntmps108
 go_wp2_with fail
 refine(HAl.out).mono ?_;rintro e w2 ⟨rfl,hb⟩;have HB2:=ak (below_step HB.out hb);clear hb
 go_wp2_with fail
 with_reducible refine(HMk.out _).mono ?_
 rintro e w3 ⟨g3,c,rfl,hg,hMc,hc2,hR,hb⟩;have HG:=ak (And.intro (Nat.le_trans HB2.out.size hg) (And.intro hMc hc2));have HR3:=ak hR;have HB3:=ak (below_step HB2.out hb);clear hg hMc hc2 hR hb hq;obtain⟨hv1,hv2,-⟩:=HTl.out _ HB3.out
 go_wp2_with fail
 refine(HMu.out g3 c w3 HR3.out HB3.out HG.out.1 HG.out.2.1 (by have:=HG.out.2.2;omega)).mono ?_;rintro e w4 ⟨rfl,hR,hb⟩;have HR4:=ak hR;have HB4:=ak hb;clear hR hb hv1 hv2
 go_wp2_with fail
 obtain⟨-,hval⟩:=HVa.out c HG.out.2.1;have hll:=HLn.out c;have hf:=fin_is (wb:=w) (r:=some p) (n:=L64.val x*L64.val x) (M:=N) HR4.out (by rw[hll];exact HG.out.2.1) (by rw[hll];have:=HG.out.2.2;omega) (HOk.out c) hval (.inr HG.out.1) (Chg.of _ HB4.out);rw[hll]at hf;refine hf.mono ?_;rintro e w5 ⟨v,r',rfl,h1,h2,h3⟩;have H:=ak (And.intro h1 (And.intro h2 h3));clear h1 h2 h3 hf hll hval
 go_wp2_with fail
 go_ret
 exact⟨_,_,rfl,H.out⟩
theorem natSqr_is(vx:Value)(r:Option Nat)(a:Nat)(w:World)(hx:Row w vx r (L64.lim a))(h12:(L64.lim a).length<12)(ht:Thr w):
 Calls Tryz.prog 108 #[vx,.pointer none,vx] w fun e w'=>∃v r',e= .returned v∧Row w' v r' (L64.lim (a*a))∧New w r r'∧Chg r w w':=by
 rcases Nat.lt_trichotomy (L64.lim a).length 1 with h|h|h
 ·have ha:L64.lim a= []:=List.length_eq_zero_iff.1 (by omega);obtain rfl:a=0:=L64.lim_eq_nil.1 ha;rw[ha]at hx;rw[Nat.mul_zero,L64.lim_zero];exact sqr_zero vx r w hx
 ·exact sqr_one vx r a w hx h
 ·have:=sqr_many vx r _ w hx h h12 (L64.ok_lim a) ht;rw[L64.val_lim]at this;exact this
end Go.Proofs.YthlakefgobflnaaGreatDoor.G
namespace Go.Proofs.YthlakefgobflnaaGreatDoor.G
open Go.RowKit Go.Proofs.YthlakefgobflnaaGreatDoorW.PrintWords Go.Proofs.YthlakefgobflnaaGreatDoorW.PrintLast Go.Proofs.YthlakefgobflnaaGreatDoorW.PrintMore Go.Proofs.YthlakefgobflnaaGreatDoor.S
set_option linter.unusedVariables false
set_option linter.unusedSimpArgs false
theorem len8_at(y:Int)(h:y.toNat<Lib.len8tab.size):((Lib.len8tab[y.toNat]'h).toNat:Int)=Lib.len8 y:=by
 unfold Lib.len8;rw[getElem?_pos Lib.len8tab y.toNat h];rfl
theorem len_part(k d:Nat)(y x t:Int)(h0:0≤y)(h1:y≤255)(hk:k≤56)(hy:y.toNat=x.toNat/d)(hs:Lib.bitLen x.toNat=k+Lib.bitLen (x.toNat/d))(ht:t=(k:Int)):wrap64 (t+wrap64 (Lib.len8 y))=(Lib.bitLen x.toNat:Int):=by
 rw[Lib.len8_of y h0 h1];have l:=Lib.bitLen_le8' y h0 h1;rw[hy]at l⊢;unfold wrap64;omega
theorem len_last(x:Int)(h0:0≤x)(h1:x≤255):wrap64 (wrap64 (Lib.len8 x))=(Lib.bitLen x.toNat:Int):=by
 rw[Lib.len8_of x h0 h1];have l:=Lib.bitLen_le8' x h0 h1;unfold wrap64;omega
set_option maxRecDepth 100000 in
set_option maxHeartbeats 4000000 in
theorem len64_is(x:Int)(w:World)(h0:0≤x)(h1:x≤18446744073709551615):
 Calls Tryz.prog 107 #[.int .u64 x] w fun e w'=>e= .returned (.int .i64 (Lib.bitLen x.toNat))∧w'=w:=by
 go_enter Tryz.func107,Tryz.ntmps107
 go_wp2
 all_goals have hsz:(Lib.len8tab.size:Int)=256:=by rw[Lib.len8tab_size];rfl
 all_goals try(exfalso;omega)
 all_goals(go_ret;refine⟨congrArg Ending.returned (congrArg (Value.int IntKind.i64) ?_),rfl⟩)
 all_goals rw[len8_at]
 ·exact len_part 56 72057594037927936 (x/4294967296/65536/256) x _ (by omega) (by omega) (by omega) (by omega) (Lib.bitLen_shift56 x.toNat (by omega) (by omega)) rfl
 ·exact len_part 48 281474976710656 (x/4294967296/65536) x _ (by omega) (by omega) (by omega) (by omega) (Lib.bitLen_shift48 x.toNat (by omega) (by omega)) rfl
 ·exact len_part 40 1099511627776 (x/4294967296/256) x _ (by omega) (by omega) (by omega) (by omega) (Lib.bitLen_shift40 x.toNat (by omega) (by omega)) rfl
 ·exact len_part 32 4294967296 (x/4294967296) x _ (by omega) (by omega) (by omega) (by omega) (Lib.bitLen_shift32 x.toNat (by omega) (by omega)) rfl
 ·exact len_part 24 16777216 (x/65536/256) x _ (by omega) (by omega) (by omega) (by omega) (Lib.bitLen_shift24 x.toNat (by omega) (by omega)) rfl
 ·exact len_part 16 65536 (x/65536) x _ (by omega) (by omega) (by omega) (by omega) (Lib.bitLen_shift16 x.toNat (by omega) (by omega)) rfl
 ·exact len_part 8 256 (x/256) x _ (by omega) (by omega) (by omega) (by omega) (Lib.bitLen_shift8 x.toNat (by omega) (by omega)) rfl
 ·exact len_last x (by omega) (by omega)
theorem len_is(x:Int)(w:World)(h0:0≤x)(h1:x≤18446744073709551615):
 Calls Tryz.prog 87 #[.int .u64 x] w fun e w'=>e= .returned (.int .i64 (Lib.bitLen x.toNat))∧w'=w:=by
 have HQ:=ak (fun w0=>len64_is x w0 h0 h1);clear h0 h1
 go_enter Tryz.func87,Tryz.ntmps87
 go_wp2_with fail
 refine(HQ.out _).mono ?_;rintro e w1 ⟨rfl,rfl⟩
 go_wp2_with fail
 go_ret
 exact⟨rfl,rfl⟩
theorem bitLen_le64(x:Nat):Lib.bitLen x≤64:=by
 have: ∀f y,Lib.bitLenAux f y≤f:=by
  intro f;induction f with
  |zero=>intro y;exact Nat.le_refl _
  |succ f ih=>intro y;unfold Lib.bitLenAux;split<;>have:=ih (y/2)<;>omega
 exact this 64 x
theorem lz_is(x:Int)(w:World)(h0:0≤x)(h1:x≤18446744073709551615):
 Calls Tryz.prog 152 #[.int .u64 x] w fun e w'=>e= .returned (.int .i64 ((64-Lib.bitLen x.toNat:Nat):Int))∧w'=w:=by
 have HQ:=ak (fun w0=>len_is x w0 h0 h1);have HE:=ak (show wrap64 (64-(Lib.bitLen x.toNat:Int))=((64-Lib.bitLen x.toNat:Nat):Int) by have:=bitLen_le64 x.toNat;unfold wrap64;omega);clear h0 h1
 go_enter Tryz.func152,Tryz.ntmps152
 go_wp2_with fail
 refine(HQ.out _).mono ?_;rintro e w1 ⟨rfl,rfl⟩
 go_wp2_with fail
 rw[HE.out]
 go_ret
 exact⟨rfl,rfl⟩
theorem nlz_is(x:Int)(w:World)(h0:0≤x)(h1:x≤18446744073709551615):
 Calls Tryz.prog 135 #[.int .u64 x] w fun e w'=>e= .returned (.int .u64 ((64-Lib.bitLen x.toNat:Nat):Int))∧w'=w:=by
 have HQ:=ak (fun w0=>lz_is x w0 h0 h1);clear h0 h1
 go_enter Tryz.func135,Tryz.ntmps135
 go_wp2_with fail
 refine(HQ.out _).mono ?_;rintro e w1 ⟨rfl,rfl⟩
 go_wp2_with fail
 go_ret
 exact⟨rfl,rfl⟩
end Go.Proofs.YthlakefgobflnaaGreatDoor.G
