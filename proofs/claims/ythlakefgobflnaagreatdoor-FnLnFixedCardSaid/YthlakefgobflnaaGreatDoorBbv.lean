/- Proved: 'laws.FnLnFixed' returns true for every input, and leaves its arguments as they were (the natural logarithm of a number of bits is as near to the true one as is told); the card, tied. Conditions: the package's thresholds hold what the given row lists; the given tie ties that to the program's text. THE WALK of the law of LnFixed. -/
import Derived.Test.YthlakefgobflnaaGreatDoorBav
import Derived.Test.YthlakefgobflnaaGreatDoorBbu
import Derived.Test.YthlakefgobflnaaGreatDoorTie
import Derived.Test.YthlakefgobflnaaGreatDoorCards
import Derived.ProofKit
import Derived.OpenShut
import Derived.OpenVars
import Derived.WalkSmall
import Derived.Stop.LaidErr
import Derived.Deep.DeepHandedRow
import Derived.Deep.DeepWitnessRowRef
import Derived.Lib.LaidTab
import Derived.ChangeMaps5
namespace Go.Proofs.YthlakefgobflnaaGreatDoor.R
open Go.Proofs.YthlakefgobflnaaGreatDoor.G Go.RowKit Go.Proofs.YthlakefgobflnaaGreatDoorW.PrintWords Go.Proofs.YthlakefgobflnaaGreatDoorW.PrintLast Go.Proofs.YthlakefgobflnaaGreatDoorW.PrintMore Go.Proofs.YthlakefgobflnaaGreatDoor.S
set_option linter.unusedVariables false
set_option linter.unusedSimpArgs false
open An in
theorem flo_le(z:Int)(P D:Nat)(hD:0<D):(floZ z P D:Rat)*(D:Rat)≤(z:Rat)*(P:Rat):=by
 have h:floZ z P D*(D:Int)≤z*(P:Int):=by
  have:=Int.mul_ediv_add_emod (z*(P:Int)) (D:Int);have h2:=Int.emod_nonneg (z*(P:Int)) (show(D:Int)≠0 by omega);unfold floZ;rw[Int.mul_comm];omega
 have:=Rat.intCast_le_intCast.2 h;rw[Rat.intCast_mul,Rat.intCast_mul,Rat.intCast_natCast,Rat.intCast_natCast]at this;exact this
theorem cei_ge(z:Int)(P D:Nat)(hD:0<D):(z:Rat)*(P:Rat)≤(ceiZ z P D:Rat)*(D:Rat):=by
 have h:z*(P:Int)≤ceiZ z P D*(D:Int):=by
  unfold ceiZ;generalize z*(P:Int)=a;have:=Int.mul_ediv_add_emod (-a) (D:Int);have h2:=Int.emod_nonneg (-a) (show(D:Int)≠0 by omega);rw[Int.neg_mul,Int.mul_comm (-a/(D:Int))];omega
 have:=Rat.intCast_le_intCast.2 h;rw[Rat.intCast_mul,Rat.intCast_mul,Rat.intCast_natCast,Rat.intCast_natCast]at this;exact this
open An in
theorem fit_both(m b pl k:Nat)(R lo hi:Int)(hok:LnOk m b R k)(hm:2^b≤m)(h1:UB ((hi:Rat)/((10^pl:Nat):Rat)) ((m:Rat)/((2^b:Nat):Rat)))(h2:UB (-(lo:Rat)/((10^pl:Nat):Rat)) (((2^b:Nat):Rat)/(m:Rat))):
 ((R:Rat)-((2*(k+1)+23:Nat):Rat))/((2^b:Nat):Rat)*((10^pl:Nat):Rat)<(hi:Rat)∧(lo:Rat)<((R:Rat)+((2*(k+1)+23:Nat):Rat))/((2^b:Nat):Rat)*((10^pl:Nat):Rat):=by
 have hB:=pow2_pos b;have hBr:=npos hB;have hPr:=npos (show 0<10^pl from Nat.pow_pos (by omega));have hmr:=npos (show 0<m by omega);have hX:=div_pos hmr hBr;have e1:1/((m:Rat)/((2^b:Nat):Rat))=((2^b:Nat):Rat)/(m:Rat):=by grind
 have eo:((2*(k+1)+23:Nat):Rat)=2*(k:Rat)+25:=by
  rw[Rat.natCast_add,Rat.natCast_mul,Rat.natCast_add]
  grind
 obtain⟨g1,g2,-,-⟩:=hok;have hBi:0<1/((2^b:Nat):Rat):=div_pos (by decide+kernel) hBr;have q1:UB (((R:Rat)+((2*(k+1)+23:Nat):Rat)-1)/((2^b:Nat):Rat)) ((m:Rat)/((2^b:Nat):Rat)):=by
  refine g1.mono ?_ (by grind);rw[eo];have e:((R:Rat)+(2*(k:Rat)+25)-1)/((2^b:Nat):Rat)=((R:Rat)+2*(k:Rat)+11)/((2^b:Nat):Rat)+13*(1/((2^b:Nat):Rat)):=by grind
  rw[e]
  grind
 have q2:UB ((-(R:Rat)+((2*(k+1)+23:Nat):Rat)-1)/((2^b:Nat):Rat)) (((2^b:Nat):Rat)/(m:Rat)):=by
  refine g2.mono ?_ (by grind);rw[eo];have e:(-(R:Rat)+(2*(k:Rat)+25)-1)/((2^b:Nat):Rat)=(-(R:Rat)+2*(k:Rat)+5)/((2^b:Nat):Rat)+19*(1/((2^b:Nat):Rat)):=by grind
  rw[e]
  grind
 exact spans_fit _ _ _ _ _ _ _ 0 hPr hBr hX h1 (by rw[e1];exact h2) q1 (by rw[e1];exact q2)
open An in
theorem law_low(m b pl k:Nat)(R lo hi:Int)(hok:LnOk m b R k)(hm:2^b≤m)(h1:UB ((hi:Rat)/((10^pl:Nat):Rat)) ((m:Rat)/((2^b:Nat):Rat)))(h2:UB (-(lo:Rat)/((10^pl:Nat):Rat)) (((2^b:Nat):Rat)/(m:Rat))):
 besideZ lo hi (floZ (R+ -((2*(k+1)+23:Nat):Int)) (10^pl) (2^b)) (ceiZ (R+ -((2*(k+1)+23:Nat):Int)) (10^pl) (2^b))≠ -1:=by
 have hB:=pow2_pos b;have hBr:=npos hB;have h3:=(fit_both m b pl k R lo hi hok hm h1 h2).1;have h4:=flo_le (R+ -((2*(k+1)+23:Nat):Int)) (10^pl) (2^b) hB;rw[Rat.intCast_add,Rat.intCast_neg,Rat.intCast_natCast]at h4;have h5:(floZ (R+ -((2*(k+1)+23:Nat):Int)) (10^pl) (2^b):Rat)<(hi:Rat):=by
  rcases rlt (floZ (R+ -((2*(k+1)+23:Nat):Int)) (10^pl) (2^b):Rat) (hi:Rat)with h|h
  ·exact h
  ·exfalso
   have h6:=Rat.mul_le_mul_of_nonneg_right h (Rat.le_of_lt hBr);have h7:=Rat.mul_lt_mul_of_pos_right h3 hBr;have e:((R:Rat)-((2*(k+1)+23:Nat):Rat))/((2^b:Nat):Rat)*((10^pl:Nat):Rat)*((2^b:Nat):Rat)=((R:Rat)+ -((2*(k+1)+23:Nat):Rat))*((10^pl:Nat):Rat):=by grind
   rw[e]at h7
   grind
 have h8:=Rat.intCast_lt_intCast.1 h5;unfold besideZ;rw[if_neg (by omega)]
 split<;>omega
open An in
theorem law_high(m b pl k:Nat)(R lo hi:Int)(hok:LnOk m b R k)(hm:2^b≤m)(h1:UB ((hi:Rat)/((10^pl:Nat):Rat)) ((m:Rat)/((2^b:Nat):Rat)))(h2:UB (-(lo:Rat)/((10^pl:Nat):Rat)) (((2^b:Nat):Rat)/(m:Rat))):
 besideZ lo hi (floZ (R+((2*(k+1)+23:Nat):Int)) (10^pl) (2^b)) (ceiZ (R+((2*(k+1)+23:Nat):Int)) (10^pl) (2^b))≠1:=by
 have hB:=pow2_pos b;have hBr:=npos hB;have h3:=(fit_both m b pl k R lo hi hok hm h1 h2).2;have h4:=cei_ge (R+((2*(k+1)+23:Nat):Int)) (10^pl) (2^b) hB;rw[Rat.intCast_add,Rat.intCast_natCast]at h4;have h5:(lo:Rat)<(ceiZ (R+((2*(k+1)+23:Nat):Int)) (10^pl) (2^b):Rat):=by
  rcases rlt (lo:Rat) (ceiZ (R+((2*(k+1)+23:Nat):Int)) (10^pl) (2^b):Rat)with h|h
  ·exact h
  ·exfalso
   have h6:=Rat.mul_le_mul_of_nonneg_right h (Rat.le_of_lt hBr);have h7:=Rat.mul_lt_mul_of_pos_right h3 hBr;have e:((R:Rat)+((2*(k+1)+23:Nat):Rat))/((2^b:Nat):Rat)*((10^pl:Nat):Rat)*((2^b:Nat):Rat)=((R:Rat)+((2*(k+1)+23:Nat):Rat))*((10^pl:Nat):Rat):=by grind
   rw[e]at h7
   grind
 have h8:=Rat.intCast_lt_intCast.1 h5;unfold besideZ
 split
 ·omega
 ·rw[if_neg (by omega)];omega
theorem len_bits{n K q:Nat}(h:n≤2^K)(hK:K<29*q):len n≤q:=by
 refine Lm.len_le (Nat.lt_of_le_of_lt h (Nat.lt_of_lt_of_le (Nat.pow_lt_pow_right (by omega) hK) ?_));rw[Nat.pow_mul];exact Nat.pow_le_pow_left (by decide) q
theorem len8{m b:Nat}(h:8*m≤2^(b+4))(hb:b≤200):len (8*m)≤88+1:=Nat.le_trans (len_bits (q:=8) h (by omega)) (by omega)
theorem lenR{x R b:Nat}(h:x≤R+1000)(hR:R≤2^(b+9))(hb:b≤200):len x≤100:=by
 have h1:2^(b+9)*1024=2^(b+19):=by rw[show b+19=b+9+10 by omega,Nat.pow_add _ (b+9)]
 have h2:0<2^(b+9):=Nat.pow_pos (by omega);exact Nat.le_trans (len_bits (K:=b+19) (q:=8) (by omega) (by omega)) (by omega)
theorem lawLn_long(s:ByteArray)(b:Int)(w:World)(h:(s.size:Int)>2147483647):
 Calls Tryz.prog 3 #[.string s,.int .i64 b] w fun e w'=>e= .returned (.bool true)∧Below w.heap.size w w':=by
 have hd:decide ((s.size:Int)>2147483647)=true:=decide_eq_true h;have hd2:decide (2147483647<s.size)=true:=decide_eq_true (by omega);have HB:=ak (Below.refl w.heap.size w);clear h
 go_enter Tryz.func3,Tryz.ntmps3
 go_wp2_with fail
 go_ret
 exact⟨rfl,HB.out⟩
set_option maxRecDepth 100000 in
set_option maxHeartbeats 4000000 in
theorem lawLn_walk(s:ByteArray)(bi:Int)(w:World)(hs: ¬(s.size:Int)>2147483647)(ht:Thr w)(hw3:3<w.heap.size):
 Calls Tryz.prog 3 #[.string s,.int .i64 bi] w fun e w'=>e= .returned (.bool true)∧Below w.heap.size w w':=by
 obtain⟨b,hb⟩: ∃b:Nat,20+IntKind.u64.wrap bi%181=(b:Int):=⟨(20+IntKind.u64.wrap bi%181).toNat,by have:=Int.emod_nonneg (IntKind.u64.wrap bi) (show(181:Int)≠0 by omega);omega⟩
 have hb1:20≤b∧b≤200:=by have:=Int.emod_nonneg (IntKind.u64.wrap bi) (show(181:Int)≠0 by omega);have:=Int.emod_lt_of_pos (IntKind.u64.wrap bi) (show(0:Int)<181 by omega);omega
 obtain⟨N,hN,hAr⟩:=arBits_is s (by omega) b (by omega);have HAr:=ak hAr;have HT:=ak (And.intro ht hw3);have HD:=ak (And.intro hb1.1 (And.intro hb1.2 hN));have HBi:=ak hb;have HB:=ak (Below.refl w.heap.size w);have hd:decide ((s.size:Int)>2147483647)=false:=decide_eq_false hs;clear hs ht hw3 hb hb1 hN hAr;have HQ:=ak (show wrap64 (20+wrap64 ((IntKind.u64.wrap bi).tmod 181))=(b:Int) by
  have h0:0≤IntKind.u64.wrap bi:=by simp[IntKind.wrap,IntKind.bits,IntKind.signed];omega
  have h1:=Int.emod_nonneg (IntKind.u64.wrap bi) (show(181:Int)≠0 by omega);have h2:=Int.emod_lt_of_pos (IntKind.u64.wrap bi) (show(0:Int)<181 by omega);rw[Int.tmod_eq_emod_of_nonneg h0,Lm.w64 (i:=IntKind.u64.wrap bi%181) (by omega) (by omega),Lm.w64 (by omega) (by omega),HBi.out])
 have HLen:=ak (fun(j:Nat) (h:j≤2^(b+4))=>show len j≤210 from Nat.le_trans (Lm.len_mono h) (Nat.le_trans (Lm.len_mono (Nat.pow_le_pow_left (show 2≤10 by omega) (b+4))) (Nat.le_trans (len_pow10 (b+4)) (by have:=HD.out;omega))))
 go_enter Tryz.func3,Tryz.ntmps3
 go_wp2_with fail
 clear hd;rw[HQ.out];clear HQ HBi;refine(HAr.out _).mono ?_;rintro e w1 ⟨x,y,rfl,hx,hy,hb⟩;have k0:=below_step HB.out hb;clear HB;have HB:=ak k0;clear k0;have NX:=ak hx;have NY:=ak hy;clear hx hy hb HAr
 go_wp2_with fail
 have hp4:2^b*16=2^(b+4):=by rw[Nat.pow_add]
 have HP4:=ak hp4;clear hp4;refine(natAdd_is N (2^b) _ _ _ NX.out NY.out (Nat.le_trans (HLen.out _ (by have:=HD.out;have:=HP4.out;omega)) (by omega))).mono ?_;rintro e w2 ⟨z,rfl,hz,hb⟩;clear NX;have k0:=below_step HB.out hb;have k1:=NY.out.below hb;clear HB NY;have HB:=ak k0;have NY:=ak k1;clear k0 k1;have NZ:=ak hz;clear hz hb;obtain⟨m,hm⟩: ∃m,N+2^b=m:=⟨_,rfl⟩
 have HM:=ak (show 2^b≤m∧m<2*2^b by have:=HD.out;omega);rw[hm]at NZ;clear hm
 go_wp2_with fail
 refine(natString_is m _ _ NZ.out (Nat.le_trans (HLen.out _ (by have:=HM.out;have:=HP4.out;omega)) (by omega))).mono ?_;rintro e w3 ⟨rfl,hb⟩;have k0:=below_step HB.out hb;have k1:=NY.out.below hb;have k2:=NZ.out.below hb;clear HB NY NZ;have HB:=ak k0;have NY:=ak k1;have NZ:=ak k2;clear k0 k1 k2;clear hb
 go_wp2_with fail
 refine(implLn_is m b w3 (Thr.base HT.out.1 HB.out HT.out.2) (Nat.lt_of_lt_of_le HT.out.2 HB.out.size) HD.out.1 HD.out.2.1 HM.out.1 HM.out.2 (Nat.le_trans (ndig_b (K:=b+4) (by have:=HM.out;have:=HP4.out;omega) (by have:=HD.out;omega)) (by omega))).mono ?_;rintro e w4 ⟨R,k,rfl,hk,hb⟩;have k0:=below_step HB.out hb;have k1:=NY.out.below hb;have k2:=NZ.out.below hb;clear HB NY NZ;have HB:=ak k0;have NY:=ak k1;have NZ:=ak k2;clear k0 k1 k2;have HK:=ak hk;clear hk hb;have HLn8:=ak (show len (8*m)≤89 from(by rw[show(89:Nat)=88+1 from rfl];exact len8 (by have:=HM.out;have:=HP4.out;omega) HD.out.2.1));have HRb:=ak (show R.natAbs≤2^(b+9)from Nat.le_trans HK.out.2.2.2 (by rw[Nat.pow_add,Nat.mul_comm];exact Nat.mul_le_mul_left _ (by omega)));have HR:=ak (show Lm.ndig R.natAbs≤250 from ndig_b HRb.out (by have:=HD.out;omega));have HRo:=ak (fun(x:Int) (h:x.natAbs≤R.natAbs+1000)=>show len x.natAbs≤100 from lenR h HRb.out HD.out.2.1);have HLr:=ak (show len R.natAbs≤220 from Nat.le_trans (Lm.len_mono HRb.out) (Nat.le_trans (Lm.len_mono (Nat.pow_le_pow_left (show 2≤10 by omega) (b+9))) (Nat.le_trans (len_pow10 (b+9)) (by have:=HD.out;omega))))
 go_wp2_with fail
 have he:2*((k:Int)+1)+23=((2*(k+1)+23:Nat):Int):=by omega
 rw[he];clear he;have HL1:=ak (fun pc (hpc:pc≤200)=>lnBeside_is m (2^b) (2^b) pc (R+ -((2*(k+1)+23:Nat):Int)) (-1) (by omega) (Nat.pow_pos (by omega)) HM.out.1 HM.out.2 (Nat.le_trans (HLn8.out) (by omega)) (Nat.pow_pos (by omega)) (HRo.out _ (by have:=HK.out.2.2.1;omega)) (Nat.le_trans (HLen.out _ (by have:=HP4.out;omega)) (by omega)) hpc (fun pl lo hi h1 h2=>law_low m b pl k R lo hi HK.out HM.out.1 h1 h2));have HL2:=ak (fun pc (hpc:pc≤200)=>lnBeside_is m (2^b) (2^b) pc (R+((2*(k+1)+23:Nat):Int)) 1 (by omega) (Nat.pow_pos (by omega)) HM.out.1 HM.out.2 (Nat.le_trans (HLn8.out) (by omega)) (Nat.pow_pos (by omega)) (HRo.out _ (by have:=HK.out.2.2.1;omega)) (Nat.le_trans (HLen.out _ (by have:=HP4.out;omega)) (by omega)) hpc (fun pl lo hi h1 h2=>law_high m b pl k R lo hi HK.out HM.out.1 h1 h2));have HWi:=ak (fun w0 h=>arWithin_is R (2*(k+1)+23) (2^b) y w0 (Nat.le_trans HR.out (by omega)) (Nat.le_trans HLr.out (by omega)) (by have:=HK.out.2.2.1;omega) h);generalize decide (R+ -((2*(k+1)+23:Nat):Int)<0)=d1 at*;generalize decide (R+((2*(k+1)+23:Nat):Int)<0)=d2 at*;generalize R+ -((2*(k+1)+23:Nat):Int)=Lo at*;generalize R+((2*(k+1)+23:Nat):Int)=Hi at*;generalize ((2*(k+1)+23:Nat):Int)=off at*;generalize Lm.text (decide (R<0)) R.natAbs=tx at*;refine(HWi.out _ NY.out).mono ?_;rintro e w5 ⟨r,q,rfl,hr,hq,-,hb⟩;have k0:=below_step HB.out hb;have k1:=NY.out.below hb;have k2:=NZ.out.below hb;clear HB NY NZ;have HB:=ak k0;have NY:=ak k1;have NZ:=ak k2;clear k0 k1 k2;have N1:=ak hr;have N2:=ak hq;clear hr hq hb HWi;obtain⟨A1,c1,rfl,-⟩:=id N1.out;obtain⟨A2,c2,rfl,-⟩:=id N2.out;obtain⟨A3,c3,rfl,-⟩:=id NY.out;obtain⟨A4,c4,rfl,-⟩:=id NZ.out
 go_wp2_with fail
 have HPc:=ak (show wrap64 (wrap64 ((b:Int)/3)+5)=((b/3+5:Nat):Int) by rw[Lm.w64 (i:=(b:Int)/3) (by omega) (by have:=HD.out;omega),Lm.w64 (by omega) (by have:=HD.out;omega)];omega);rw[HPc.out];generalize hW:((w5.alloc _).alloc _).alloc _=W;obtain⟨m0,m1,m2,m3,-⟩:=alloc3 hW;have B1:=ak m1;have B2:=ak m2;have k0:=below_step HB.out m3;have k1:=NY.out.below m3;have k2:=NZ.out.below m3;have k3:=N1.out.below m3;have k4:=N2.out.below m3;clear HB NY NZ N1 N2;have HB:=ak k0;have NY:=ak k1;have NZ:=ak k2;have N1:=ak k3;have N2:=ak k4;clear k0 k1 k2 k3 k4;clear m0 m1 m2 m3 hW;refine(HL1.out (b/3+5) (by have:=HD.out;omega) _ _ _ _ _ NZ.out NY.out N1.out NY.out).mono ?_;rintro e w6 ⟨c,rfl,hc,hb⟩;have k0:=blk_below B1.out hb;have k1:=blk_below B2.out hb;have k2:=below_step HB.out hb;have k3:=NY.out.below hb;have k4:=NZ.out.below hb;have k5:=N2.out.below hb;clear B1 B2 HB NY NZ N2;have B1:=ak k0;have B2:=ak k1;have HB:=ak k2;have NY:=ak k3;have NZ:=ak k4;have N2:=ak k5;clear k0 k1 k2 k3 k4 k5;have hcd:(c != -1)=true:=bne_iff_ne.2 hc;clear hc hb HL1 N1;obtain⟨q0,zq0,q1,zq1,q2,zq2⟩:=rf3 B1.out;obtain⟨p0,zp0,p1,zp1,p2,zp2⟩:=rf3 B2.out
 go_wp2_with fail
 clear hcd p0 p1 p2 q0 q1 q2 zp0 zp1 zp2 zq0 zq1 zq2;rw[HPc.out];refine(HL2.out (b/3+5) (by have:=HD.out;omega) _ _ _ _ _ NZ.out NY.out N2.out NY.out).mono ?_;rintro e w7 ⟨c,rfl,hc,hb⟩;have k0:=below_step HB.out hb;clear HB;have HB:=ak k0;clear k0;have hcd:(c != 1)=true:=bne_iff_ne.2 hc;clear hc hb
 go_wp2_with fail
 go_ret
 exact⟨rfl,HB.out⟩
end Go.Proofs.YthlakefgobflnaaGreatDoor.R
namespace Go.Proofs.YthlakefgobflnaaGreatDoor.fnLnFixed
open Go.ChangeShapes Go.WideShapes Go.ChangeAt Go.RowKit
set_option linter.unusedVariables false
theorem own:ownKnob Tryz.prog.godebug=none:=by kernel_rfl
theorem laidOut:laidOutB Tryz.prog=true:=by kernel_rfl
theorem g4:Tryz.prog.globalNamed "given.example/pub-alexandrine/pub/bigall.divRecursiveThreshold" =some 4:=by kernel_rfl
theorem g3:Tryz.prog.globalNamed "given.example/pub-alexandrine/pub/bigall.karatsubaThreshold" =some 3:=by kernel_rfl
theorem t3:(Tryz.prog.globals[3]?).map (·.type)=some 3:=by kernel_rfl
theorem g1:Tryz.prog.globalNamed "given.example/pub-alexandrine/pub/bigall.basicSqrThreshold" =some 1:=by kernel_rfl
theorem t1:(Tryz.prog.globals[1]?).map (·.type)=some 3:=by kernel_rfl
theorem g2:Tryz.prog.globalNamed "given.example/pub-alexandrine/pub/bigall.karatsubaSqrThreshold" =some 2:=by kernel_rfl
theorem t2:(Tryz.prog.globals[2]?).map (·.type)=some 3:=by kernel_rfl
theorem laid1{W:World}{n:String}{x:DataW Unit}{z0:Int}{g:Nat}{rest:List (String×DataW Unit)}(hg:Tryz.prog.globalNamed n=some g)(ht:(Tryz.prog.globals[g]?).map (·.type)=some 3)(hx0:x= .lit (.int .i64 z0))(h:laidMet Tryz.prog ((n,x)::rest) W):W.cell? ⟨g,0,none⟩=some (.int .i64 z0):=by
 obtain⟨ps,⟨g0,t0,cs0,f0,p0,q0,hg0,ht0,hv0,hd0,_,e0⟩,_,hrows⟩:=h;obtain rfl:=Option.some.inj (hg.symm.trans hg0);obtain rfl:=Option.some.inj (ht.symm.trans ht0);obtain⟨z,hz,hx,_⟩:=DataW.trod_int Tryz.underlying3 hd0;obtain rfl:z0=z:=by
  have:=congrArg Prod.fst hx;subst hx0
  simpa using this
 obtain⟨l0⟩:=cs0;simp at hz;subst hz;have hc:=World.var?_cell hg0 hv0 0
 simpa using hc
theorem laidThr{W:World}(h:laidMet Tryz.prog Rows.fnLnFixedRow.laid W):G.Thr W∧3<W.heap.size:=by
 have h3:=laid1 g3 t3 rfl h.tail;have h1:=laid1 g1 t1 rfl h.tail.tail;have h2:=laid1 g2 t2 rfl h.tail.tail.tail;exact⟨⟨h1,h2,h3⟩,World.block_lt_of_cell? W _ h3⟩
theorem vars4{H:Type}{enc:TypeId×Value→H}{P:Program}{W:World}{sp:Nat→Bool}{a b c d:String}{gs:List (DataW H)}{ps:List MemPlace}(h:DataW.TrodVars enc P W sp [a,b,c,d] gs ps): ∃x y z u,gs= [x,y,z,u]:=by
 match gs,h with
 | [],h=>exact h.elim
 | [x],h=>
  obtain⟨_,_,_,_,_,_,_,_,_,_,h2,_⟩:=h;exact h2.elim
 | [x,y],h=>
  obtain⟨_,_,_,_,_,_,_,_,_,_,h2,_⟩:=h;obtain⟨_,_,_,_,_,_,_,_,_,_,h3,_⟩:=h2;exact h3.elim
 | [x,y,z],h=>
  obtain⟨_,_,_,_,_,_,_,_,_,_,h2,_⟩:=h;obtain⟨_,_,_,_,_,_,_,_,_,_,h3,_⟩:=h2;obtain⟨_,_,_,_,_,_,_,_,_,_,h4,_⟩:=h3;exact h4.elim
 | [x,y,z,u],h=>exact⟨x,y,z,u,rfl⟩
 |x::y::z::u::t::r,h=>
  obtain⟨_,_,_,_,_,_,_,_,_,_,h2,_⟩:=h;obtain⟨_,_,_,_,_,_,_,_,_,_,h3,_⟩:=h2;obtain⟨_,_,_,_,_,_,_,_,_,_,h4,_⟩:=h3;obtain⟨_,_,_,_,_,_,_,_,_,_,h5,_⟩:=h4;exact h5.elim
theorem walk(s:ByteArray)(b:Int)(w:World)(hv:G.Thr w∧3<w.heap.size):Calls Tryz.prog 3 #[.string s,.int .i64 b] w fun e' w'=>e'= .returned (.bool true)∧Below w.heap.size w w':=by
 by_cases hs:(s.size:Int)>2147483647
 ·exact R.lawLn_long s b w hs
 ·exact R.lawLn_walk s b w hs hv.1 hv.2
set_option maxRecDepth 100000 in
theorem contract(H:Type)(enc:TypeId×Value→H)(W:World)(base:Nat)(args:Array Value)(ds gs:List (DataW H))(before:List MemPlace)
 (hval: ∀(j:Nat) t v,Tryz.f3.params[j]?=some t→args[j]?=some v→Value.okWide Tryz.prog W .any base t v)
 (hW:DataW.Whole enc Tryz.prog Tryz.f3.params.toList Rows.fnLnFixedSpec.vars false W args.toList ds gs before) (hL:laidMetH Tryz.prog Rows.fnLnFixedRow.laid W):
 Calls Tryz.prog 3 args W fun e W'=>∃v,e= .returned v∧Rows.fnLnFixedSpec.post enc Tryz.prog Tryz.f3 false true false false W args v W':=by
 have hW':=hW;obtain⟨p,q,hA0,hV,rfl,hfz,hnd⟩:=hW;have hA:DataW.TrodAll enc Tryz.prog W 0 (fun _=>true) true Tryz.f3.params.toList args.toList ds p:=hA0;rw[Tryz.params3]at hA hval;obtain⟨v0,vs0,d0,ds0,p0,q0,hargs,rfl,rfl,h0,r0⟩:=trodAll_cons hA;obtain⟨v1,vs1,d1,ds1,p1,q1,rfl,rfl,rfl,h1,r1⟩:=trodAll_cons r0;obtain⟨rfl,rfl,rfl⟩:=trodAll_nil r1;obtain rfl:args= #[v0,v1]:=by cases args;simp_all
 obtain⟨s,rfl,rfl,rfl,ws⟩:=Go.ChangeMaps.open_string Tryz.underlying9 (hval 0 9 v0 rfl rfl) h0;obtain⟨n,rfl,rfl,rfl,wn⟩:=open_int Tryz.underlying3 (hval 1 3 v1 rfl rfl) h1;clear hA0;refine(walk s n W (laidThr hL)).mono fun e W' ⟨he,bel⟩=>?_
 subst he;have hV3:=Below.trodVars laidOut bel (by kernel_rfl) hV;obtain⟨x,y,z,u,hgs⟩:=vars4 hV;subst hgs;exact⟨_,rfl,_,_,_,[],_,q,hW',trodAll_mk1 (shut_bool Tryz.underlying4 _),(trodAll_cons_mk (Go.ChangeMaps.shut_string Tryz.underlying9 ws) (trodAll_cons_mk (shut_int Tryz.underlying3 wn) trodAll_mk0)),hV3,bel.frame _,fun h=>by cases h⟩
noncomputable def laidWorld (os:Os):World:=
 let w0:=World.holding Tryz.prog os ⟨#[],#[],[]⟩
 { w0 with heap:=(((w0.heap.modify 1 fun
  |.cells _ t frozen=>.cells #[.int .i64 12] t frozen
  |o=>o).modify 2 fun
  |.cells _ t frozen=>.cells #[.int .i64 80] t frozen
  |o=>o).modify 3 fun
  |.cells _ t frozen=>.cells #[.int .i64 40] t frozen
  |o=>o).modify 4 fun
  |.cells _ t frozen=>.cells #[.int .i64 40] t frozen
  |o=>o}
theorem laid_met(os:Os):laidMet Tryz.prog Rows.fnLnFixedRow.laid ((laidWorld os).forCall (fun _ _=>0) ⟨#[],#[.string ⟨#[]⟩,.int .i64 0],[]⟩).memory:=
 laidMet_of_run (ps:= [.cell 4 0,.cell 3 0,.cell 1 0,.cell 2 0]) 8 (by kernel_rfl) (by kernel_rfl) (by kernel_rfl)
theorem reads(os:Os){H:Type}(enc:TypeId×Value→H):DataW.whole enc Tryz.prog ((laidWorld os).forCall (fun _ _=>0) ⟨#[],#[.string ⟨#[]⟩,.int .i64 0],[]⟩).memory Tryz.f3.params.toList Rows.fnLnFixedSpec.vars false #[Value.string ⟨#[]⟩,.int .i64 0].toList 8=
 some ([.lit (.string []),.lit (.int .i64 0)],[.lit (.int .i64 12),.lit (.int .i64 80),.lit (.int .i64 40),.lit (.int .i64 40)],[.cell 1 0,.cell 2 0,.cell 3 0,.cell 4 0]):=by kernel_rfl
set_option maxRecDepth 100000 in
theorem lifted(os:Os)(started:os.Started)(H:Type)(enc:TypeId×Value→H)(F:Stop.Interp):
 ReturnsInHanded {} Tryz.checked os 3 .any ((OpenSpec.ofChange Rows.fnLnFixedSpec).preRow enc Tryz.prog Tryz.f3 Rows.fnLnFixedRow.domain false Rows.fnLnFixedRow.laid) (((OpenSpec.ofChange Rows.fnLnFixedSpec).at F).post enc Tryz.prog Tryz.f3 false true false false):=by
 have hx:=reads os enc
 refine returnsInHanded_of_row (C:=Tryz.checked) (s:=OpenSpec.ofChange Rows.fnLnFixedSpec) own started (by kernel_rfl) Tryz.func3
  (witness_row_atRef (enc:=enc) (C:=Tryz.checked) false (laidWorld os) #[.string ⟨#[]⟩,.int .i64 0] rfl (by kernel_rfl) (by kernel_rfl) (by kernel_rfl)
   (OpenSpec.preRow_of_cond 8 hx (by kernel_rfl) (fun k hk=>by cases hk) (by kernel_rfl) (laid_met os))) ?_
 intro W base args ds gs before hval hW _ _ _ hL _ _;exact contract H enc W base args ds gs before hval hW hL
theorem said:Rows.FnLnFixedSaid:=
 OpenClaim.holds_of_cond 3 Tryz.f3 rfl rfl rfl rfl rfl rfl rfl ⟨rfl,rfl,rfl,rfl,rfl⟩ rfl rfl rfl rfl rfl (by kernel_rfl) Tryz.func3 (by kernel_rfl)
  (of_decide_eq_true (by kernel_rfl)) (by unfold Func.isWrapper;first|(rw[if_pos (by decide+kernel)];kernel_rfl)|(rw[if_neg (by decide+kernel)];exact⟨rfl,rfl⟩))
  (fun os started H enc _ F=>by rw[OpenClaim.pre_eq_preRow];exact lifted os started H enc F)
theorem plain(f:FuncId)(fn:Func)(hf:Tryz.pinned.checked.prog.funcNamed "given.example/pub-alexandrine/laws.FnLnFixed" =some f)(hfn:Tryz.pinned.checked.prog.funcs[f]?=some fn):
 false=Tryz.pinned.checked.prog.looks []∧∀(j:Nat) t,fn.params[j]?=some t→Tryz.pinned.checked.prog.wantsStandIn t=false:=by
 obtain rfl:f=3:=Option.some.inj ((show Tryz.prog.funcNamed "given.example/pub-alexandrine/laws.FnLnFixed" =some 3 by kernel_rfl).symm.trans hf)|>.symm;obtain rfl:fn=Tryz.f3:=(Option.some.inj (Tryz.func3.symm.trans hfn)).symm;refine⟨by kernel_rfl,fun j t ht=>?_⟩;rw[Tryz.params3]at ht;have hm:t=9∨t=3:=by simpa using Array.mem_of_getElem? ht
 rcases hm with rfl|rfl
 ·exact(show Tryz.prog.wantsStandIn 9=false by kernel_rfl)
 ·exact(show Tryz.prog.wantsStandIn 3=false by kernel_rfl)
theorem card:Rows.FnLnFixedCardSaid:=
 Claim7.holds_tied_plain_at .later [] _ _ _ _ said (fun _ h=>by cases h) (by kernel_rfl) (fun _ h=>by cases h) fnLnFixed_row_tie rfl ⟨rfl,rfl⟩ (by kernel_rfl) rfl plain (by kernel_rfl)
end Go.Proofs.YthlakefgobflnaaGreatDoor.fnLnFixed
namespace Go.Proofs.YthlakefgobflnaaGreatDoor
theorem fnLnFixed_holds:Rows.FnLnFixedCardSaid:=fnLnFixed.card
#print axioms fnLnFixed_holds
end Go.Proofs.YthlakefgobflnaaGreatDoor
