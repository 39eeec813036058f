/- CONTRACTS: lnFixed. -/
import Derived.Test.YthlakefgobflnaaGreatDoorBbo
import Derived.Test.YthlakefgobflnaaGreatDoorBbp
namespace Go.Proofs.YthlakefgobflnaaGreatDoor.G
open Go.RowKit Go.Proofs.YthlakefgobflnaaGreatDoorW.PrintWords Go.Proofs.YthlakefgobflnaaGreatDoorW.PrintLast Go.Proofs.YthlakefgobflnaaGreatDoorW.PrintMore Go.Proofs.YthlakefgobflnaaGreatDoor.S
set_option linter.unusedVariables false
set_option linter.unusedSimpArgs false
theorem top_cast(m b:Nat):(An.topOf m b:Int)=if 59<b then(m:Int)/2^(b-59)else(m:Int)*2^(59-b):=by
 unfold An.topOf;by_cases h:59<b
 ·rw[if_pos h,if_pos h,pow_cast,Int.natCast_ediv]
 ·rw[if_neg h,if_neg h,pow_cast,Int.natCast_mul]
theorem Arg.kp{base x:Nat}{w w':World}{s s':Nat→Option Int}{n:Int}(h:Arg base w s x n)(hk:Kp s s')(hb:Below base w w'):Arg base w' s' x n:=by
 rcases h with h|⟨hxb,v,r,hB,hR,hr⟩
 ·exact .inl (hk _ _ h)
 ·exact .inr ⟨hxb,v,r,(hb.block x hxb).trans hB,hR.move (fun g hg=>hb.block g (hr g hg)),hr⟩
theorem Arg.ne_new{base x:Nat}{w:World}{s:Nat→Option Int}{n:Int}(h:Arg base w s x n)(hS:St base w s){h1:Nat}(hh:w.heap.size≤h1):x≠h1:=by
 rcases h with e|e
 ·have:=hS.lt e;omega
 ·have:=e.1;have:=hS.1;omega
theorem ab_nat(a:Int)(b:Nat)(h:An.Ab (a:Rat) (3/4*((2^b:Nat):Rat))):a.natAbs≤2^b:=by
 obtain⟨h1,h2⟩:=h;have hB:=An.pow2_pos b;have hBr:=An.npos hB;have h3:(a:Rat)≤(((2^b:Nat):Int):Rat):=by rw[Rat.intCast_natCast];grind
 have h4:((-((2^b:Nat):Int):Int):Rat)≤(a:Rat):=by rw[Rat.intCast_neg,Rat.intCast_natCast];grind
 have h5:a≤((2^b:Nat):Int):=by exact_mod_cast h3
 have h6: -((2^b:Nat):Int)≤a:=by exact_mod_cast h4
 generalize (2^b:Nat)=B at*;omega
theorem ab_half(a:Int)(b:Nat)(h:An.Ab (a:Rat) (1/2*((2^b:Nat):Rat))):2*a.natAbs≤2^b:=by
 obtain⟨h1,h2⟩:=h;have h3:((2*a:Int):Rat)≤(((2^b:Nat):Int):Rat):=by rw[Rat.intCast_natCast,Rat.intCast_mul];grind
 have h4:((-((2^b:Nat):Int):Int):Rat)≤((2*a:Int):Rat):=by rw[Rat.intCast_neg,Rat.intCast_natCast,Rat.intCast_mul];grind
 have h5:2*a≤((2^b:Nat):Int):=by exact_mod_cast h3
 have h6: -((2^b:Nat):Int)≤2*a:=by exact_mod_cast h4
 generalize (2^b:Nat)=B at*;omega
theorem aOf_hi(z:Int)(b N:Nat)(h:52≤b)(hN:b-52=N):z*2^N=An.aOf z b:=by
 unfold An.aOf;rw[if_pos h,hN,pow_cast]
theorem aOf_lo(z:Int)(b N:Nat)(h: ¬52≤b)(hN:52-b=N):z/2^N=An.aOf z b:=by
 unfold An.aOf;rw[if_neg h,hN,pow_cast]
theorem Fr.setP{base:Nat}{w0 w w':World}{s0 s:Nat→Option Int}{p q r t:Nat}{a b c d:Int}(h:Fr base w0 w s0 s p q r t a b c d){v:Int}(hs:St base w' (upd s p v))(hb:Below base w w'):Fr base w0 w' s0 (upd s p v) p q r t v b c d:=
 ⟨hs,h.kp.upd v h.z.1,belowJoin h.bl hb,h.z,h.ne,upd_self _ _ _,by rw[upd_ne _ _ (Ne.symm h.ne.1)];exact h.q,by rw[upd_ne _ _ (Ne.symm h.ne.2.1)];exact h.r,by rw[upd_ne _ _ (Ne.symm h.ne.2.2.1)];exact h.t⟩
theorem Kp.none{s s':Nat→Option Int}(h:Kp s s'){k:Nat}(hk:s' k=none):s k=none:=by
 cases e:s k with
 |none=>rfl
 |some v=>rw[h k v e]at hk;cases hk
theorem lnp_le(z:Int)(b:Nat)(hb:2≤b)(hz:2*z.natAbs≤2^b)(k:Nat):(An.lnp z b k).natAbs≤2^b:=by
 have h4:4≤2^b:=Nat.pow_le_pow_right (show 0<2 by omega) hb;have hp:(0:Int)<((2^b:Nat):Int):=by omega
 induction k with
 |zero=>simp only[An.lnp];omega
 |succ k ih=>
  simp only[An.lnp];generalize An.lnp z b k=t at*;generalize 2^b=B at*;have h1:(t*z).natAbs≤B*z.natAbs:=by rw[Int.natAbs_mul];exact Nat.mul_le_mul_right _ ih
  have e1:=Int.mul_ediv_add_emod (t*z) (B:Int);have e2:=Int.emod_lt_of_pos (t*z) hp;have e3:=Int.emod_nonneg (t*z) (show(B:Int)≠0 by omega);generalize t*z/(B:Int)=q at*;generalize t*z%(B:Int)=r at*;generalize t*z=m at*;have e4:((B:Int)*q).natAbs=B*q.natAbs:=by rw[Int.natAbs_mul];rfl
  have e5:B*q.natAbs<B*(z.natAbs+2):=by
   rw[←e4,Nat.mul_add];omega
  have:=Nat.lt_of_mul_lt_mul_left e5;omega
theorem lns_le(z:Int)(b:Nat)(hb:2≤b)(hz:2*z.natAbs≤2^b)(k:Nat):(An.lns z b k).natAbs≤(k+1)*2^b:=by
 induction k with
 |zero=>simp only[An.lns];omega
 |succ k ih=>
  have h1:=Int.natAbs_tdiv_le_natAbs (An.lnp z b (k+1)) ((k+2:Nat):Int);have h2:=lnp_le z b hb hz (k+1);rw[Nat.add_mul (k+1) 1,Nat.one_mul];simp only[An.lns]
  split<;>omega
set_option maxRecDepth 100000 in
set_option maxHeartbeats 4000000 in
theorem lnFixed_is(base x b m:Nat)(w:World)(s:Nat→Option Int)(hS:St base w s)(hx:Arg base w s x (m:Int))(ht:Thr w)(h3:3<base)(hb:20≤b)(hb2:b≤200)(h1:2^b≤m)(h2:m<2*2^b):
 ∃(a:Int) (g j n:Nat),ExpNums b g j n (-a)∧An.Ab (a:Rat) (3/4*((2^b:Nat):Rat))∧An.UB ((a:Rat)/((2^b:Nat):Rat)+9/25) ((m:Rat)/((2^b:Nat):Rat))∧An.UB (-((a:Rat)/((2^b:Nat):Rat))+9/25) (((2^b:Nat):Rat)/(m:Rat))∧
 Calls Tryz.prog 40 #[.pointer (some ⟨x,0,none⟩),.int .u64 (b:Int)] w fun e w'=>∃h s' k,e= .returned (.tuple #[.pointer (some ⟨h,0,none⟩),.int .i64 ((2*(k+1)+23:Nat):Int)])∧St base w' s'∧An.lnp (An.lnz a m b g j n) b (k+1)=0∧s' h=some (An.lns (An.lnz a m b g j n) b k+a)∧k≤300∧Below base w w':=by
 obtain⟨x1,x2,x3,x4,z,q1,q2,q3,q4,q5,hzb,ha,l1,l2⟩:=ln_floats m b hb h1 h2;obtain⟨g,j,n,hE,hX⟩:=expFixed_run b (-(An.aOf z b)) hb hb2 (by
  rw[Rat.intCast_neg];obtain⟨a1,a2⟩:=ha;constructor<;>grind)
 refine⟨An.aOf z b,g,j,n,hE,ha,l1,l2,?_⟩;have hzs:2*(An.lnz (An.aOf z b) m b g j n).natAbs≤2^b:=ab_half _ _ (An.ln_facts m (An.aOf z b) b g j n hb h1 h2 hE.1 hE.2.1 hE.2.2.1 ha l1 l2 hE.2.2.2.1).1;obtain⟨N0,hN0,hN1,hN2⟩:=An.lnp_end _ b hzs;have HZs:=ak (And.intro hzs (And.intro hN0 (And.intro hN1 hN2)));clear hzs hN0 hN1 hN2;have HS0:=ak hS;have HX0:=ak hx;have HT:=ak ht;have HD:=ak (And.intro h3 (And.intro hb (And.intro hb2 (And.intro h1 h2))));have HE:=ak hE;have HZb:=ak hzb;have HAb:=ak (ab_nat _ _ ha);have HL:=ak (fun s0 w0 (hS0:St base w0 s0) (hx0:Arg base w0 s0 x (m:Int))=>intBitLen_is base x b (m:Int) s0 w0 hS0 hx0 (by rw[Int.natAbs_natCast];exact h1) (by rw[Int.natAbs_natCast,Nat.pow_succ];omega) (by omega));have HExp:=ak hX;have HQ2:=ak q2;have HQ3:=ak q3;have HQ4:=ak q4;have HTop:=ak (top_cast m b);obtain⟨B1,hB1⟩: ∃B1,((b+1:Nat):Int)=B1:=⟨_,rfl⟩
 rw[hB1]at HL;obtain⟨sh,hsh⟩: ∃sh,wrap64 (B1-60)=sh:=⟨_,rfl⟩
 have hsh':sh=(b:Int)-59:=by rw[←hsh,Lm.w64 (by omega) (by omega)];omega
 obtain⟨bi,hbi⟩: ∃bi,wrap64 (b:Int)=bi:=⟨_,rfl⟩
 have hbi':bi=(b:Int):=by rw[←hbi,Lm.w64 (by omega) (by omega)]
 have hd59:wrap64 (sh-bi)= -59:=by rw[Lm.w64 (by omega) (by omega)];omega
 have HW:=ak (And.intro hsh (And.intro hbi hd59));have HSh:=ak hsh';clear hzb hS hx ht h3 hb hb2 h1 h2 hE ha l1 l2 hX q2 q3 q4 hB1 hsh hsh' hbi hbi' hd59
 go_enter Tryz.func40,Tryz.ntmps40
 go_wp2_with fail
 have HS2:=ak HS0.out.new';have hfr:=HS0.out.fresh (Nat.le_refl _);have HBlk:=ak (blk_new w (.cells #[.bool false,.slice none 0 0] 55));obtain⟨h1,hh1⟩: ∃h1,w.heap.size=h1:=⟨_,rfl⟩
 obtain⟨w3,hw3⟩: ∃w3,w.alloc (.cells #[.bool false,.slice none 0 0] 55)=w3:=⟨_,rfl⟩
 rw[hh1,hw3]at HS2;rw[hw3]at HBlk⊢;rw[hh1]at hfr HBlk⊢;have hx1:x≠h1:=by
  rcases HX0.out with e|e
  ·intro e2;rw[e2,hfr]at e;cases e
  ·have:=e.1;have:=HS0.out.1;omega
 have HX3:=ak (HX0.out.step 0 hx1 HS2.out.2);have HB3:=ak HS2.out.2;have HF1:=ak (And.intro hfr hx1);have HGe:=ak (show base≤h1 by rw[←hh1];exact HS0.out.1);have HLt:=ak (HS2.out.1.lt (upd_self _ _ _));clear hw3 hx1 hfr;refine(HL.out _ w3 HS2.out.1 HX3.out).mono ?_;rintro e w4 ⟨rfl,hb4⟩;have HB4:=ak (belowJoin HB3.out (belowOfSize hb4 HS2.out.1.1));have HS4:=ak (HS2.out.1.below hb4);have HX4:=ak (HX3.out.below (belowOfSize hb4 HS2.out.1.1));have HBk4:=ak ((hb4.block h1 HLt.out).trans HBlk.out);clear hb4 HB3 HS2 HX3 HBlk;have hcase:(59<b∧52≤b)∨(¬59<b∧52≤b)∨(¬59<b∧¬52≤b):=by omega
 rcases hcase with hc|hc|hc
 case' inl=>
  obtain⟨N,hN⟩: ∃N,b-59=N:=⟨_,rfl⟩
  have c1:decide (sh>0)=true:=decide_eq_true (by have:=HSh.out;omega);have c1':0<sh:=by have:=HSh.out;omega
  have HU:=ak (show IntKind.u64.wrap sh=(N:Int)from wrap_eq (by have:=HSh.out;omega) (by have:=HD.out;omega));have HT1:=ak HTop.out;rw[if_pos hc.1,hN]at HT1;have HN:=ak (And.intro hN hc);clear hc hN;have w1:=HW.out.1;have w2:=HU.out
  go_wp2_with fail
  refine(intRsh_new base h1 x N 0 _ w4 HS4.out (upd_self _ _ _) (m:Int) HX4.out HF1.out.2 (Nat.le_trans (lenc (K:=b+1) (q:=8) (by rw[Int.natAbs_natCast,Nat.pow_succ];have:=HD.out;omega) (by have:=HD.out;omega)) (by omega)) (by have:=HN.out;omega) (by have:=HN.out;have:=HD.out;omega)).mono ?_
 case' inr.inl=>
  obtain⟨N,hN⟩: ∃N,59-b=N:=⟨_,rfl⟩
  have c1:decide (sh>0)=false:=decide_eq_false (by have:=HSh.out;omega);have c1': ¬(0<sh):=by have:=HSh.out;omega
  have HU:=ak (show IntKind.u64.wrap (wrap64 (-sh))=(N:Int) by rw[Lm.w64 (by have:=HSh.out;omega) (by have:=HSh.out;have:=HD.out;omega)];exact wrap_eq (by have:=HSh.out;omega) (by omega));have HT1:=ak HTop.out;rw[if_neg hc.1,hN]at HT1;have HN:=ak (And.intro hN hc);clear hc hN;have w1:=HW.out.1;have w2:=HU.out
  go_wp2_with fail
  refine(intLsh_new base h1 x N 0 _ w4 HS4.out (upd_self _ _ _) (m:Int) HX4.out HF1.out.2 (Nat.le_trans (lenc (K:=b+1) (q:=8) (by rw[Int.natAbs_natCast,Nat.pow_succ];have:=HD.out;omega) (by have:=HD.out;omega)) (by omega)) (.inr HBk4.out) (by have:=HN.out;omega)).mono ?_
 case' inr.inr=>
  obtain⟨N,hN⟩: ∃N,59-b=N:=⟨_,rfl⟩
  have c1:decide (sh>0)=false:=decide_eq_false (by have:=HSh.out;omega);have c1': ¬(0<sh):=by have:=HSh.out;omega
  have HU:=ak (show IntKind.u64.wrap (wrap64 (-sh))=(N:Int) by rw[Lm.w64 (by have:=HSh.out;omega) (by have:=HSh.out;have:=HD.out;omega)];exact wrap_eq (by have:=HSh.out;omega) (by omega));have HT1:=ak HTop.out;rw[if_neg hc.1,hN]at HT1;have HN:=ak (And.intro hN hc);clear hc hN;have w1:=HW.out.1;have w2:=HU.out
  go_wp2_with fail
  refine(intLsh_new base h1 x N 0 _ w4 HS4.out (upd_self _ _ _) (m:Int) HX4.out HF1.out.2 (Nat.le_trans (lenc (K:=b+1) (q:=8) (by rw[Int.natAbs_natCast,Nat.pow_succ];have:=HD.out;omega) (by have:=HD.out;omega)) (by omega)) (.inr HBk4.out) (by have:=HN.out;omega)).mono ?_
 all_goals
  rintro e w5 ⟨rfl,hS5,hb5⟩;rw[upd_upd,←HT1.out]at hS5;have HB5:=ak (belowJoin HB4.out hb5);have HX5:=ak hb5;have HS5:=ak hS5;clear hS5 hb5 HS4 HB4 w1 w2 c1 c1'
  go_wp2_with fail
  have HTn:=ak (An.top_near m b HD.out.2.2.2.1 HD.out.2.2.2.2);refine(intUint64_is base h1 (An.topOf m b) _ w5 HS5.out (.inl (upd_self _ _ _)) (by have:=HTn.out;omega) (by have:=HTn.out;omega)).mono ?_;rintro e w6 ⟨rfl,hb6⟩;have HB6:=ak (belowJoin HB5.out (belowOfSize hb6 HS5.out.1));have HX6:=ak (belowJoin HX5.out (belowOfSize hb6 HS5.out.1));have HS6:=ak (HS5.out.below hb6);clear hb6 HS5 HB5 HX5 HTn;have k0:=HW.out.1;have k1:=HW.out.2.1;have k2:=HW.out.2.2
  go_wp2_with fail
  refine(HQ2.out _).mono ?_;rintro e w7 ⟨rfl,rfl⟩;clear k0 k1 k2
  go_wp2_with fail
  refine(HQ3.out _).mono ?_;rintro e w8 ⟨rfl,rfl⟩
  go_wp2_with fail
  refine(HQ4.out _).mono ?_;rintro e w9 ⟨rfl,rfl⟩
  go_wp2_with fail
  refine(newInt_is base z _ w9 HS6.out (by have:=HZb.out;omega) (by have:=HZb.out;omega)).mono ?_;rintro e w10 ⟨h2,rfl,hh2,hS10,hb10⟩;have HB10:=ak (belowJoin HB6.out hb10);have HS10:=ak hS10;have HF2:=ak (HS6.out.fresh hh2);have HLe2:=ak hh2;have HB6':=ak HB6.out.size;clear hh2 hS10 hb10 HB6;have HLz:=ak (show(L64.lim z.natAbs).length≤800 from Nat.le_trans (lenc (K:=53) (q:=1) (by have:=HZb.out;have:(2:Nat)^53=9007199254740992:=rfl;omega) (by omega)) (by omega));clear HQ2 HQ3 HQ4 q1 q5
  first
   |(have c1':52≤b:=HN.out.2.2
     obtain⟨N2,hN2⟩: ∃N2,b-52=N2:=⟨_,rfl⟩
     have c1:decide ((b:Int)≥52)=true:=decide_eq_true (by omega);have HU2:=ak (show IntKind.u64.wrap ((b:Int)-52)=(N2:Int)from wrap_eq (by omega) (by have:=HD.out;omega));have HA2:=ak (aOf_hi z b N2 c1' hN2);have HN2:=ak hN2;clear hN2;have u2:=HU2.out
     go_wp2_with fail
     refine(intLsh_self base h2 N2 z _ w10 HS10.out (upd_self _ _ _) HLz.out (by have:=HN2.out;have:=HD.out;omega)).mono ?_;rintro e w11 ⟨rfl,hS11,hb11⟩;rw[HA2.out]at hS11)
   |(have c1': ¬(52≤b):=HN.out.2.2
     obtain⟨N2,hN2⟩: ∃N2,52-b=N2:=⟨_,rfl⟩
     have c1:decide ((b:Int)≥52)=false:=decide_eq_false (by omega);have HU2:=ak (show IntKind.u64.wrap (52-(b:Int))=(N2:Int)from wrap_eq (by omega) (by omega));have HA2:=ak (aOf_lo z b N2 c1' hN2);have HN2:=ak (And.intro hN2 c1');clear hN2;have u2:=HU2.out
     go_wp2_with fail
     refine(intRsh_self base h2 N2 z _ w10 HS10.out (upd_self _ _ _) HLz.out (by have:=HN2.out;omega) (by have:=HN2.out;omega)).mono ?_;rintro e w11 ⟨rfl,hS11,hb11⟩;rw[HA2.out]at hS11)
  have HS11:=ak hS11;have HB11:=ak (belowJoin HB10.out hb11);have hx2:x≠h2:=by
   rcases HX0.out with e|e
   ·intro e2;have:=HS0.out.lt e;have:=HLe2.out;have:=HB6'.out;omega
   ·have:=e.1;have:=HS6.out.1;have:=HLe2.out;omega
  have HX11:=ak (((HX0.out.step (An.topOf m b:Int) HF1.out.2 HB11.out).step z hx2 (Below.refl base w11)).step (An.aOf z b) hx2 (Below.refl base w11));have HV11:=ak (upd_self (upd (upd s h1 (An.topOf m b:Int)) h2 z) h2 (An.aOf z b));clear hS11 hb11 hx2 u2 c1 c1' HS10 HB10 HX6 HF2 HLe2 HB6' HN HU HT1 HA2 HU2 HN2 HSh HW HTop HBk4 HX4 HF1 HGe HLt HS6 HLz;generalize upd (upd (upd s h1 (An.topOf m b:Int)) h2 z) h2 (An.aOf z b)=s11 at*
  go_wp2_with fail
  have hn1:=HX11.out.ne_new HS11.out (Nat.le_refl _);have hn2:h2≠w11.heap.size:=Nat.ne_of_lt (HS11.out.lt HV11.out);have HN:=ak HS11.out.new';have hfr:=HS11.out.fresh (Nat.le_refl _);obtain⟨h3,hh3⟩: ∃h3,w11.heap.size=h3:=⟨_,rfl⟩
  obtain⟨w12,hw12⟩: ∃w12,w11.alloc (.cells #[.bool false,.slice none 0 0] 55)=w12:=⟨_,rfl⟩
  rw[hh3,hw12]at HN⊢;rw[hh3]at hn1 hn2 hfr;have HK12:=ak (show Kp s11 (upd (upd s11 h3 0) h3 (-(An.aOf z b)))from by rw[upd_upd];exact Kp.upd (fun _ _ h=>h) _ hfr);have HLa:=ak (show(L64.lim (An.aOf z b).natAbs).length≤4 from lenc HAb.out (by have:=HD.out;omega));refine(intNeg_new base h3 h2 0 _ w12 HN.out.1 (upd_self _ _ _) (An.aOf z b) (.inl (by rw[upd_ne _ _ hn2];exact HV11.out)) hn2 (Nat.le_trans HLa.out (by omega))).mono ?_;rintro e w13 ⟨rfl,hS13,hb13⟩;have HB13:=ak (belowJoin (belowJoin HB11.out HN.out.2) hb13);have HX13:=ak (HX11.out.kp HK12.out (belowJoin HN.out.2 hb13));have HV13:=ak (HK12.out _ _ HV11.out);have HZ13:=ak (upd_self (upd s11 h3 0) h3 (-(An.aOf z b)));have HS13:=ak hS13;clear hS13 hb13 hw12 hh3 hn1 hn2 hfr HN HX11 HB11 HS11 HV11 HK12;generalize upd (upd s11 h3 0) h3 (-(An.aOf z b))=s13 at*
  go_wp2_with fail
  refine(HExp.out base h3 s13 w13 HS13.out (.inl HZ13.out) (Thr.base HT.out HB13.out HD.out.1) HD.out.1).mono ?_;rintro e w14 ⟨h4,s14,rfl,hh4,hS14,hv14,hk14,hb14⟩;have HB14:=ak (belowJoin HB13.out hb14);have HX14:=ak (HX13.out.kp hk14 hb14);have HV14:=ak (hk14 _ _ HV13.out);have HE14:=ak hv14;have HS14:=ak hS14;have hx4:=HX13.out.ne_new HS13.out hh4;have h24:h2≠h4:=Nat.ne_of_lt (Nat.lt_of_lt_of_le (HS13.out.lt HV13.out) hh4);have HN4:=ak (And.intro hx4 h24);clear hS14 hb14 hv14 hk14 hh4 hx4 h24 HX13 HB13 HS13 HV13 HZ13
  go_wp2_with fail
  change Aside0 (s14 h4=some (An.expv (An.aOf z b) b g j n))at HE14;have HEn:=ak (show(An.expv (An.aOf z b) b g j n).natAbs≤2^(2+g)from HE.out.2.2.2.2.2);obtain⟨E,hEe⟩: ∃E,An.expv (An.aOf z b) b g j n=E:=⟨_,rfl⟩
  have hz0:An.lnz (An.aOf z b) m b g j n=E*(m:Int)/((2^b:Nat):Int)-((2^b:Nat):Int):=by unfold An.lnz;rw[hEe]
  have HLz:=ak hz0;rw[hEe]at HE14 HEn;clear hEe hz0;have HMn:=ak (show m≤2^(b+1) by rw[Nat.pow_succ];have:=HD.out;omega);refine(intMul_self base h4 x E s14 w14 HS14.out HE14.out (m:Int) HX14.out HN4.out.1 (Nat.lt_of_le_of_lt (lenc (q:=5) HEn.out (by have:=HE.out.2.2.2.2.1;omega)) (by omega)) (Nat.lt_of_le_of_lt (lenc (K:=b+1) (q:=4) (by rw[Int.natAbs_natCast];exact HMn.out) (by have:=HD.out;omega)) (by omega)) (Thr.base HT.out HB14.out HD.out.1)).mono ?_;rintro e w15 ⟨rfl,hS15,hb15⟩;have HB15:=ak (belowJoin HB14.out hb15);have HX15:=ak (HX14.out.step (E*(m:Int)) HN4.out.1 hb15);have HV15:=ak ((upd_ne s14 (E*(m:Int)) HN4.out.2).trans HV14.out);have HE15:=ak (upd_self s14 h4 (E*(m:Int)));have HS15:=ak hS15;have HEm:=ak (show(E*(m:Int)).natAbs≤2^(2+g+(b+1)) by
   rw[Int.natAbs_mul,Nat.pow_add];exact Nat.mul_le_mul HEn.out (by rw[Int.natAbs_natCast];exact HMn.out))
  clear hS15 hb15 HS14 HB14 HX14 HV14 HE14 HEn HMn;generalize upd s14 h4 (E*(m:Int))=s15 at*
  go_wp2_with fail
  refine(intRsh_self base h4 b _ s15 w15 HS15.out HE15.out (Nat.le_trans (lenc (q:=8) HEm.out (by have:=HE.out.2.2.2.2.1;have:=HD.out;omega)) (by omega)) (by have:=HD.out;omega) (by have:=HD.out;omega)).mono ?_;rintro e w16 ⟨rfl,hS16,hb16⟩;have HB16:=ak (belowJoin HB15.out hb16);have HX16:=ak (HX15.out.step (E*(m:Int)/2^b) HN4.out.1 hb16);have HV16:=ak ((upd_ne s15 (E*(m:Int)/2^b) HN4.out.2).trans HV15.out);have HE16:=ak (upd_self s15 h4 (E*(m:Int)/2^b));have HS16:=ak hS16;clear hS16 hb16 HS15 HB15 HX15 HV15 HE15;generalize upd s15 h4 (E*(m:Int)/2^b)=s16 at*;clear HX16;generalize hZe:An.lnz (An.aOf z b) m b g j n=Z at*;generalize hae:An.aOf z b=a at*;have HZe:=ak (And.intro hZe hae);clear hZe hae
  go_wp2_with fail
  have HS17:=ak HS16.out.new';have hlt4:=HS16.out.lt HE16.out;have hlt2:=HS16.out.lt HV16.out;have hf5:=HS16.out.fresh (Nat.le_refl _);obtain⟨h5,hh5⟩: ∃h5,w16.heap.size=h5:=⟨_,rfl⟩
  obtain⟨w17,hw17⟩: ∃w17,w16.alloc (.cells #[.bool false,.slice none 0 0] 55)=w17:=⟨_,rfl⟩
  rw[hh5,hw17]at HS17⊢;rw[hh5]at hlt4 hlt2 hf5;have HN17:=ak (And.intro hlt4 (And.intro hlt2 hf5));clear hh5 hw17 hlt4 hlt2 hf5;refine(oneInt_is base _ w17 HS17.out.1).mono ?_;rintro e w18 ⟨h6,rfl,hh6,hS18,hb18⟩;have hn6:h5<h6:=Nat.lt_of_lt_of_le (HS17.out.1.lt (upd_self _ _ _)) hh6;have hf6:=HS17.out.1.fresh hh6;have HN18:=ak hn6;have HK18:=ak (show Kp s16 (upd (upd s16 h5 0) h6 1)from(Kp.upd (fun _ _ h=>h) 0 HN17.out.2.2).upd 1 (by rwa[upd_ne _ _ (Nat.ne_of_gt hn6)]at hf6));have HB18:=ak (belowJoin (belowJoin HB16.out HS17.out.2) hb18);have HS18:=ak hS18;clear hh6 hS18 hb18 hn6 hf6 HS17 HB16
  go_wp2_with fail
  refine(intLsh_new base h5 h6 b 0 _ w18 HS18.out (by rw[upd_ne _ _ (Nat.ne_of_lt HN18.out)];exact upd_self _ _ _) 1 (.inl (upd_self _ _ _)) (Nat.ne_of_gt HN18.out) (Nat.le_trans (lenb (K:=1) (q:=1) (by decide) (by omega)) (by omega)) (.inl (by have:=HD.out;omega)) (by have:=HD.out;omega)).mono ?_;rintro e w19 ⟨rfl,hS19,hb19⟩;have HK19:=ak (show Kp s16 (upd (upd (upd s16 h5 0) h6 1) h5 (1*2^b))from HK18.out.upd _ HN17.out.2.2);have HP19:=ak (upd_self (upd (upd s16 h5 0) h6 1) h5 (1*2^b));have HE19:=ak (HK19.out _ _ HE16.out);have HV19:=ak (HK19.out _ _ HV16.out);have HB19:=ak (belowJoin HB18.out hb19);have HS19:=ak hS19;clear hS19 hb19 HS18 HB18 HK18 HK19 HN18 HE16 HV16 HS16;generalize upd (upd (upd s16 h5 0) h6 1) h5 (1*2^b)=s19 at*
  go_wp2_with fail
  refine(intSub_is base h4 h5 (E*(m:Int)/2^b) s19 w19 HS19.out HE19.out (1*2^b) (.inl HP19.out) (Nat.ne_of_gt HN17.out.1) (Nat.le_trans (lenc (q:=8) (Nat.le_trans (Int.natAbs_ediv_le_natAbs _ _) HEm.out) (by have:=HE.out.2.2.2.2.1;have:=HD.out;omega)) (by omega)) (Nat.le_trans (lenc (K:=b) (q:=4) (by rw[Int.one_mul,pow_cast,Int.natAbs_natCast];exact Nat.le_refl _) (by have:=HD.out;omega)) (by omega))).mono ?_;rintro e w20 ⟨rfl,hS20,hb20⟩;rw[show E*(m:Int)/2^b-1*2^b=Z by rw[HLz.out,Int.one_mul,pow_cast]]at hS20;have HV20:=ak ((upd_ne s19 Z HN4.out.2).trans HV19.out);have HE20:=ak (upd_self s19 h4 Z);have HB20:=ak (belowJoin HB19.out hb20);have HS20:=ak hS20;have HZl:=ak (show(L64.lim Z.natAbs).length≤4 from lenc (K:=b) (by have:=HZs.out.1;omega) (by have:=HD.out;omega));clear hS20 hb20 HS19 HB19 HE19 HV19 HP19 HN17 HLz HEm;generalize upd s19 h4 Z=s20 at*
  go_wp2_with fail
  have HS21:=ak HS20.out.new';have hlt4:=HS20.out.lt HE20.out;have hlt2:=HS20.out.lt HV20.out;have hf7:=HS20.out.fresh (Nat.le_refl _);obtain⟨h7,hh7⟩: ∃h7,w20.heap.size=h7:=⟨_,rfl⟩
  obtain⟨w21,hw21⟩: ∃w21,w20.alloc (.cells #[.bool false,.slice none 0 0] 55)=w21:=⟨_,rfl⟩
  rw[hh7,hw21]at HS21⊢;rw[hh7]at hlt4 hlt2 hf7;have HN7:=ak (And.intro hlt4 (And.intro hlt2 hf7));clear hh7 hw21 hlt4 hlt2 hf7;refine(intSet_new base h7 h4 0 _ w21 HS21.out.1 (upd_self _ _ _) Z (.inl (by rw[upd_ne _ _ (Nat.ne_of_lt HN7.out.1)];exact HE20.out)) (Nat.ne_of_lt HN7.out.1) (Nat.le_trans HZl.out (by omega))).mono ?_;rintro e w22 ⟨rfl,hS22,hb22⟩;rw[upd_upd]at hS22;have HK22:=ak (show Kp s20 (upd s20 h7 Z)from Kp.upd (fun _ _ h=>h) _ HN7.out.2.2);have HQ22:=ak (upd_self s20 h7 Z);have HB22:=ak (belowJoin (belowJoin HB20.out HS21.out.2) hb22);have HS22:=ak hS22;have HL22:=ak (hS22.lt (upd_self s20 h7 Z));clear hS22 hb22 HS21 HB20 HS20;generalize upd s20 h7 Z=s22 at*
  go_wp2_with fail
  have HS23:=ak HS22.out.new';have hlt4:=HS22.out.lt (HK22.out _ _ HE20.out);have hlt2:=HS22.out.lt (HK22.out _ _ HV20.out);have hlt7:=HL22.out;have hf8:=HS22.out.fresh (Nat.le_refl _);obtain⟨h8,hh8⟩: ∃h8,w22.heap.size=h8:=⟨_,rfl⟩
  obtain⟨w23,hw23⟩: ∃w23,w22.alloc (.cells #[.bool false,.slice none 0 0] 55)=w23:=⟨_,rfl⟩
  rw[hh8,hw23]at HS23⊢;rw[hh8]at hlt4 hlt2 hlt7 hf8;have HN8:=ak (And.intro hlt4 (And.intro hlt2 (And.intro hlt7 hf8)));clear hh8 hw23 hlt4 hlt2 hlt7 hf8 HL22;refine(intSet_new base h8 h4 0 _ w23 HS23.out.1 (upd_self _ _ _) Z (.inl (by rw[upd_ne _ _ (Nat.ne_of_lt HN8.out.1)];exact HK22.out _ _ HE20.out)) (Nat.ne_of_lt HN8.out.1) (Nat.le_trans HZl.out (by omega))).mono ?_;rintro e w24 ⟨rfl,hS24,hb24⟩;rw[upd_upd]at hS24;have HK24:=ak (show Kp s22 (upd s22 h8 Z)from Kp.upd (fun _ _ h=>h) _ HN8.out.2.2.2);have HQ24:=ak (upd_self s22 h8 Z);have HB24:=ak (belowJoin (belowJoin HB22.out HS23.out.2) hb24);have HS24:=ak hS24;clear hS24 hb24 HS23 HB22 HS22;generalize upd s22 h8 Z=s24 at*
  go_wp2_with fail
  have hsz:(w24.alloc (.cells #[.bool false,.slice none 0 0] 55)).heap.size=w24.heap.size+1:=Array.size_push _;have HS25:=HS24.out.new';have HS26:=HS25.1.new';rw[hsz]at HS26;have hlt8:=HS24.out.lt HQ24.out;have hf9:=HS24.out.fresh (Nat.le_refl _);have hf10:=HS24.out.fresh (Nat.le_succ _);obtain⟨h9,hh9⟩: ∃h9,w24.heap.size=h9:=⟨_,rfl⟩
  obtain⟨h10,hh10⟩: ∃h10,h9+1=h10:=⟨_,rfl⟩
  rw[hh9]at hlt8 hf9 hf10 HS25 HS26⊢;change s24 (h9+1)=none at hf10;rw[hh10]at hf10 HS26⊢;have HK26:=ak (show Kp s24 (upd (upd s24 h9 0) h10 0)from(Kp.upd (fun _ _ h=>h) _ hf9).upd _ hf10);have HB26:=ak (belowJoin (belowJoin HB24.out HS25.2) HS26.2)
  have HF:=ak (show Fr base w _ s20 (upd (upd s24 h9 0) h10 0) h8 h7 h9 h10 (An.lnp Z b 0) (An.lns Z b 0) 0 0 from
   ⟨HS26.1,fun k v hk=>HK26.out _ _ (HK24.out _ _ (HK22.out _ _ hk)),HB26.out,⟨HK22.out.none HN8.out.2.2.2,HN7.out.2.2,HK22.out.none (HK24.out.none hf9),HK22.out.none (HK24.out.none hf10)⟩,
    by have:=HN7.out;have:=HN8.out;omega,HK26.out _ _ HQ24.out,HK26.out _ _ (HK24.out _ _ HQ22.out),by rw[upd_ne _ _ (by omega)];exact upd_self _ _ _,upd_self _ _ _⟩)
  have HN9:=ak (And.intro hlt8 hh10);clear hsz HS25 HS26 hlt8 hf9 hf10 hh9 hh10 HS24 HB24 HK26 HB26 HK24 HK22 HQ22 HQ24;generalize upd (upd s24 h9 0) h10 0=s26 at*;generalize (w24.alloc _).alloc _=w26 at*
  go_loopg [16,17] N0 (fun kq v16 v17 w'=>∃(k:Nat) (s':Nat→Option Int) (c d:Int),v16= .int .i64 ((k+1:Nat):Int)∧v17= .int .i64 ((k+2:Nat):Int)∧Aside0 (k+kq=N0)∧Aside0 (Fr base w w' s20 s' h8 h7 h9 h10 (An.lnp Z b k) (An.lns Z b k) c d))
  case atStart=>exact⟨0,s26,0,0,rfl,rfl,ak (by omega),HF⟩
  case round=>
   obtain⟨k,s',c,d,rfl,rfl,hk,HF2⟩:=hrel;clear HF;have HPl:=ak (lnp_le Z b (by have:=HD.out;omega) HZs.out.1 k)
   go_wp2_with fail
   refine(intMul_self base h8 h4 _ s' wr HF2.out.st HF2.out.p Z (.inl (HF2.out.kp _ _ HE20.out)) (Nat.ne_of_lt HN8.out.1) (Nat.lt_of_le_of_lt (lenc (q:=4) HPl.out (by have:=HD.out;omega)) (by omega)) (Nat.lt_of_le_of_lt HZl.out (by omega)) (Thr.base HT.out HF2.out.bl HD.out.1)).mono ?_;rintro e w3 ⟨rfl,hS3,hb3⟩;have HF3:=ak (HF2.out.setP hS3 hb3);have HE3:=ak (show(An.lnp Z b k*Z).natAbs≤2^(b+b) by
    rw[Int.natAbs_mul,Nat.pow_add];exact Nat.mul_le_mul HPl.out (by have:=HZs.out.1;omega))
   clear hS3 hb3 HF2;generalize upd s' h8 (An.lnp Z b k*Z)=s3 at*
   go_wp2_with fail
   refine(intRsh_self base h8 b _ s3 w3 HF3.out.st HF3.out.p (Nat.le_trans (lenc (q:=8) HE3.out (by have:=HD.out;omega)) (by omega)) (by have:=HD.out;omega) (by have:=HD.out;omega)).mono ?_;rintro e w4 ⟨rfl,hS4,hb4⟩;rw[show An.lnp Z b k*Z/2^b=An.lnp Z b (k+1) by rw[pow_cast];rfl]at hS4;have HF4:=ak (HF3.out.setP hS4 hb4);clear hS4 hb4 HF3 HE3 HPl;generalize upd s3 h8 (An.lnp Z b (k+1))=s4 at*
   go_wp2_with fail
   refine(sgn_is base h8 _ s4 w4 HF4.out.st HF4.out.p).mono ?_;rintro e w5 ⟨rfl,rfl⟩;by_cases hkn:k=N0
   ·subst hkn;rw[HZs.out.2.2.1];have HLs:=ak (lns_le Z b (by have:=HD.out;omega) HZs.out.1 k)
    go_wp2_with fail
    refine(intAdd_is base h7 h2 _ s4 w4 HF4.out.st HF4.out.q a (.inl (HF4.out.kp _ _ HV20.out)) (Nat.ne_of_lt HN7.out.2.1) (Nat.le_trans (lenc (K:=8+b) (q:=8) (Nat.le_trans HLs.out (by
     rw[Nat.pow_add];exact Nat.mul_le_mul_right _ (by have:=HZs.out.2.1;have:=HD.out;omega))) (by have:=HD.out;omega)) (by omega)) (Nat.le_trans HLa.out (by omega))).mono ?_
    rintro e w6 ⟨rfl,hS6,hb6⟩;have HF6:=ak (HF4.out.setQ hS6 hb6);have hk3:k≤300:=by have:=HZs.out.2.1;have:=HD.out;omega
    clear hS6 hb6
    go_wp2_with fail
    go_ret2
    exact⟨h7,_,k,congrArg (fun q=>Ending.returned (.tuple #[.pointer (some ⟨h7,0,none⟩),.int .i64 q])) (show 20+2*((k:Int)+1)+3=((2*(k+1)+23:Nat):Int) by omega),HF6.out.st,by rw[HZe.out.2,HZe.out.1];exact HZs.out.2.2.1,by rw[HZe.out.2,HZe.out.1];exact HF6.out.q,hk3,HF6.out.bl⟩
   ·have hz:=HZs.out.2.2.2 k (by have:=hk.out;omega);have hs0:(sgnZ (An.lnp Z b (k+1))==0)=false:=by
     refine beq_eq_false_iff_ne.2 (fun e=>?_);unfold sgnZ at e;rw[if_neg hz]at e
     split at e<;>omega
    clear hz
    go_wp2_with fail
    have HI:=ak (show k+2<256 by have:=HZs.out.2.1;have:=HD.out;have:=hk.out;omega);refine(intSetInt64_is base h10 (k+2) _ s4 w4 HF4.out.st HF4.out.t (by have:=HI.out;omega)).mono ?_;rintro e w5 ⟨rfl,hS5,hb5⟩;have HF5:=ak (HF4.out.setT hS5 hb5);have HPl:=ak (lnp_le Z b (by have:=HD.out;omega) HZs.out.1 (k+1));clear hS5 hb5 HF4;generalize upd s4 h10 ((k+2:Nat):Int)=s5 at*
    go_wp2_with fail
    refine(intQuo_new base h9 h8 h10 (k+2) _ s5 w5 HF5.out.st HF5.out.r _ (.inl HF5.out.p) HF5.out.ne.2.1 HF5.out.t (Ne.symm HF5.out.ne.2.2.2.2.2) (Nat.le_trans (lenc (q:=4) HPl.out (by have:=HD.out;omega)) (by omega)) (by omega) HI.out).mono ?_;rintro e w6 ⟨rfl,hS6,hb6⟩;have HF6:=ak (HF5.out.setR hS6 hb6);have HLs:=ak (lns_le Z b (by have:=HD.out;omega) HZs.out.1 k);have HTl:=ak (show(L64.lim ((An.lnp Z b (k+1)).tdiv ((k+2:Nat):Int)).natAbs).length≤4 from lenc (Nat.le_trans (Int.natAbs_tdiv_le_natAbs _ _) HPl.out) (by have:=HD.out;omega));have HLq:=ak (show(L64.lim (An.lns Z b k).natAbs).length≤8 from lenc (K:=8+b) (Nat.le_trans HLs.out (by
     rw[Nat.pow_add];exact Nat.mul_le_mul_right _ (by have:=HI.out;omega))) (by have:=HD.out;omega))
    clear hS6 hb6 HF5 HPl HLs;generalize upd s5 h9 ((An.lnp Z b (k+1)).tdiv ((k+2:Nat):Int))=s6 at*;cases hpar:((k:Int)%2==0)with
    |true=>
     go_wp2_with fail
     refine(intSub_is base h7 h9 _ s6 w6 HF6.out.st HF6.out.q _ (.inl HF6.out.r) (Ne.symm HF6.out.ne.2.2.2.1) (Nat.le_trans HLq.out (by omega)) (Nat.le_trans HTl.out (by omega))).mono ?_;rintro e w7 ⟨rfl,hS7,hb7⟩;rw[show An.lns Z b k-(An.lnp Z b (k+1)).tdiv ((k+2:Nat):Int)=An.lns Z b (k+1) by
      simp only[An.lns];rw[if_pos (show(k+2)%2=0 by have:=beq_iff_eq.1 hpar;omega)]]at hS7
     have HF7:=ak (HF6.out.setQ hS7 hb7);have hI1:=HI.out;clear hS7 hb7 HF6 HTl HLq hpar;generalize upd s6 h7 (An.lns Z b (k+1))=s7 at*;cases gk with
     |zero=>exact absurd hk.out hkn
     |succ k1=>
      go_wp2_with fail
      go_roundg k1
      case measure=>omega
      case rel=>exact⟨k+1,s7,_,_,(by first|rfl|(congr 2;omega)),(by first|rfl|(congr 2;omega)),⟨by have:=hk.out;omega⟩,HF7⟩
    |false=>
     go_wp2_with fail
     refine(intAdd_is base h7 h9 _ s6 w6 HF6.out.st HF6.out.q _ (.inl HF6.out.r) (Ne.symm HF6.out.ne.2.2.2.1) (Nat.le_trans HLq.out (by omega)) (Nat.le_trans HTl.out (by omega))).mono ?_;rintro e w7 ⟨rfl,hS7,hb7⟩;rw[show An.lns Z b k+(An.lnp Z b (k+1)).tdiv ((k+2:Nat):Int)=An.lns Z b (k+1) by
      simp only[An.lns];rw[if_neg (show¬((k+2)%2=0) by have:=beq_eq_false_iff_ne.1 hpar;omega)]]at hS7
     have HF7:=ak (HF6.out.setQ hS7 hb7);have hI1:=HI.out;clear hS7 hb7 HF6 HTl HLq hpar;generalize upd s6 h7 (An.lns Z b (k+1))=s7 at*;cases gk with
     |zero=>exact absurd hk.out hkn
     |succ k1=>
      go_wp2_with fail
      go_roundg k1
      case measure=>omega
      case rel=>exact⟨k+1,s7,_,_,(by first|rfl|(congr 2;omega)),(by first|rfl|(congr 2;omega)),⟨by have:=hk.out;omega⟩,HF7⟩
end Go.Proofs.YthlakefgobflnaaGreatDoor.G
