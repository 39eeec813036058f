/- CONTRACTS: a number shifted to the left. CONTRACTS: a number shifted to the right (downwards). -/
import Derived.Test.YthlakefgobflnaaGreatDoorBbh
namespace Go.Proofs.YthlakefgobflnaaGreatDoor.G
open Go.RowKit Go.Proofs.YthlakefgobflnaaGreatDoorW.PrintWords Go.Proofs.YthlakefgobflnaaGreatDoorW.PrintLast Go.Proofs.YthlakefgobflnaaGreatDoorW.PrintMore Go.Proofs.YthlakefgobflnaaGreatDoor.S
set_option linter.unusedVariables false
set_option linter.unusedSimpArgs false
set_option maxRecDepth 100000 in
set_option maxHeartbeats 1000000 in
theorem intLsh_new(base z x n:Nat)(a0:Int)(s:Nat→Option Int)(w:World)(hS:St base w s)(hz:s z=some a0)(a:Int)(hx:Arg base w s x a)(hne:x≠z)(ha:(L64.lim a.natAbs).length≤800)(hn:0<n∨w.heap[z]?=some (.cells #[.bool false,.slice none 0 0] 55 (0,0)))(hn2:n≤6400):
 Calls Tryz.prog 17 #[.pointer (some ⟨z,0,none⟩),.pointer (some ⟨x,0,none⟩),.int .u64 (n:Int)] w fun e w'=>e= .returned (.pointer (some ⟨z,0,none⟩))∧St base w' (upd s z (a*2^n))∧Below base w w':=by
 obtain⟨h0,own,hO⟩:=hS;obtain⟨hz1,hzb,vz,rz,hBz,hRz,hrz⟩:=hO z a0 hz;have BZ:=ak hBz;obtain⟨vx,rx,hBx,hRx,hHx⟩:=hO.arg hrz hx;have BX:=ak hBx;have HQ:=ak (natLsh_new vz vx rz rx _ a.natAbs n w.drew (hRz.move (fun _ _=>rfl)) (hRx.move (fun _ _=>rfl)) ha (hn.imp_right (fun h=>blk_second hBz h)) hn2);have HZ1:=ak (fun w2 (hC:Chg rz w w2)=>Num.head hBz hz1 hrz hC);have HX1:=ak hHx;have e:(a*2^n).natAbs=a.natAbs*2^n:=by rw[Int.natAbs_mul,Int.natAbs_pow];rfl
 have hp:(0:Int)<2^n:=Int.pow_pos (by omega);have hb:decide (a<0)=decide (a*2^n<0):=by
  by_cases h:a<0
  ·rw[decide_eq_true h,decide_eq_true (Int.mul_neg_of_neg_of_pos h hp)]
  ·rw[decide_eq_false h,decide_eq_false (by have:=Int.mul_nonneg (show 0≤a by omega) (Int.le_of_lt hp);omega)]
 clear hp;have HF:=ak (fun w2 v' r' (hR:Row w2 v' r' (L64.lim (a.natAbs*2^n))) (hN:New w.drew rz r') (hC:Chg rz w.drew w2)=>StO.put2 (n:=a*2^n) h0 hO hz1 hzb hBz hrz hC.undrew (by rw[e];exact hR) hN hb);obtain⟨z0,zz0,z1,zz1⟩:=rf2 BZ.out;obtain⟨x0,zx0,x1,zx1⟩:=rf2 BX.out;have d1:w.drew.cell? ⟨z,1,none⟩=some vz:=z1;have d2:w.drew.cell? ⟨x,1,none⟩=some vx:=x1;clear hz hx hn hn2 ha hO hz1 hzb hBz hRz hrz h0 e hb hBx hRx hHx z0 zz0 z1 zz1 x0 zx0 x1 zx1;generalize decide (a<0)=ba at*
 go_enter Tryz.func17,Tryz.ntmps17
 go_wp2_with fail
 refine sta (fun w'=>w'.cell? ⟨z,1,none⟩=some vz∧w'.cell? ⟨x,1,none⟩=some vx) [13] ⟨d1,d2⟩ (fun hHeld=>?_);repeat(first|refine pu 0 ?_|refine tk 0 hHeld ?_)
 refine cl Tryz.func39 #[vz,vx,.int .u64 (n:Int)] ?_
 refine HQ.out.mono ?_;rintro e w2 ⟨v',r',rfl,hR,hN,hC⟩;obtain⟨A',c',rfl⟩:=hR.slice;refine⟨_,rfl,?_⟩;have Z2:=ak (HZ1.out w2 hC.undrew);have X2:=ak (HX1.out w2 hC.undrew);have H2:=ak (HF.out w2 _ r' hR hN hC);generalize (L64.lim (a.natAbs*2^n)).length=l at*;clear HF hR hN hC HQ HZ1 HX1 d1 d2;refine⟨⟨(blk_cell Z2.out 1).trans rfl,(blk_cell X2.out 1).trans rfl⟩,fun hHeld=>?_⟩;repeat(first|refine pu 0 ?_|refine tk 0 hHeld ?_)
 obtain⟨f0,zf0,f1,zf1⟩:=rf2 Z2.out;refine la (fun K hK=>?_);go_simp;refine hK.out _ _ ?_;clear hK K hHeld;refine done_ (by decide+kernel) ?_;clear f0 f1 zf0 zf1;have Z3:=ak (blk_put (cs':=#[.bool (decide (a0<0)),.slice A' l c']) Z2.out 1 (.slice A' l c') rfl);have X3:=ak (blk_far (p:=⟨z,1,none⟩) X2.out hne (.slice A' l c'));generalize w2.setCell ⟨z,1,none⟩ (.slice A' l c')=w3 at*;obtain⟨z0,zz0,z1,zz1⟩:=rf2 Z3.out;obtain⟨x0,zx0,x1,zx1⟩:=rf2 X3.out
 go_wp2_with fail
 go_ret
 exact⟨rfl,H2.out⟩
set_option maxRecDepth 100000 in
set_option maxHeartbeats 1000000 in
theorem intLsh_self(base z n:Nat)(a0:Int)(s:Nat→Option Int)(w:World)(hS:St base w s)(hz:s z=some a0)(ha:(L64.lim a0.natAbs).length≤800)(hn2:n≤6400):
 Calls Tryz.prog 17 #[.pointer (some ⟨z,0,none⟩),.pointer (some ⟨z,0,none⟩),.int .u64 (n:Int)] w fun e w'=>e= .returned (.pointer (some ⟨z,0,none⟩))∧St base w' (upd s z (a0*2^n))∧Below base w w':=by
 obtain⟨h0,own,hO⟩:=hS;obtain⟨hz1,hzb,vz,rz,hBz,hRz,hrz⟩:=hO z a0 hz;have BZ:=ak hBz;have HQ:=ak (natLsh_own vz rz a0.natAbs n w.drew (hRz.move (fun _ _=>rfl)) ha hn2);have HZ1:=ak (fun w2 (hC:Chg rz w w2)=>Num.head hBz hz1 hrz hC);have e:(a0*2^n).natAbs=a0.natAbs*2^n:=by rw[Int.natAbs_mul,Int.natAbs_pow];rfl
 have hp:(0:Int)<2^n:=Int.pow_pos (by omega);have hb:decide (a0<0)=decide (a0*2^n<0):=by
  by_cases h:a0<0
  ·rw[decide_eq_true h,decide_eq_true (Int.mul_neg_of_neg_of_pos h hp)]
  ·rw[decide_eq_false h,decide_eq_false (by have:=Int.mul_nonneg (show 0≤a0 by omega) (Int.le_of_lt hp);omega)]
 clear hp;have HF:=ak (fun w2 v' r' (hR:Row w2 v' r' (L64.lim (a0.natAbs*2^n))) (hN:New w.drew rz r') (hC:Chg rz w.drew w2)=>StO.put2 (n:=a0*2^n) h0 hO hz1 hzb hBz hrz hC.undrew (by rw[e];exact hR) hN hb);obtain⟨z0,zz0,z1,zz1⟩:=rf2 BZ.out;have d1:w.drew.cell? ⟨z,1,none⟩=some vz:=z1;clear hz hn2 ha hO hz1 hzb hBz hRz hrz h0 e hb z0 zz0 z1 zz1;generalize decide (a0<0)=ba at*
 go_enter Tryz.func17,Tryz.ntmps17
 go_wp2_with fail
 refine sta (fun w'=>w'.cell? ⟨z,1,none⟩=some vz) [13] d1 (fun hHeld=>?_);repeat(first|refine pu 0 ?_|refine tk 0 hHeld ?_)
 refine cl Tryz.func39 #[vz,vz,.int .u64 (n:Int)] ?_
 refine HQ.out.mono ?_;rintro e w2 ⟨v',r',rfl,hR,hN,hC⟩;obtain⟨A',c',rfl⟩:=hR.slice;refine⟨_,rfl,?_⟩;have Z2:=ak (HZ1.out w2 hC.undrew);have H2:=ak (HF.out w2 _ r' hR hN hC);generalize (L64.lim (a0.natAbs*2^n)).length=l at*;clear HF hR hN hC HQ HZ1 d1;refine⟨(by exact(blk_cell Z2.out 1).trans rfl),fun hHeld=>?_⟩;repeat(first|refine pu 0 ?_|refine tk 0 hHeld ?_)
 obtain⟨f0,zf0,f1,zf1⟩:=rf2 Z2.out;refine la (fun K hK=>?_);go_simp;refine hK.out _ _ ?_;clear hK K hHeld;refine done_ (by decide+kernel) ?_;clear f0 f1 zf0 zf1;have Z3:=ak (blk_put (cs':=#[.bool ba,.slice A' l c']) Z2.out 1 (.slice A' l c') rfl);generalize w2.setCell ⟨z,1,none⟩ (.slice A' l c')=w3 at*;obtain⟨z0,zz0,z1,zz1⟩:=rf2 Z3.out
 go_wp2_with fail
 go_ret
 exact⟨rfl,H2.out⟩
end Go.Proofs.YthlakefgobflnaaGreatDoor.G
namespace Go.Proofs.YthlakefgobflnaaGreatDoor.G
open Go.RowKit Go.Proofs.YthlakefgobflnaaGreatDoorW.PrintWords Go.Proofs.YthlakefgobflnaaGreatDoorW.PrintLast Go.Proofs.YthlakefgobflnaaGreatDoorW.PrintMore Go.Proofs.YthlakefgobflnaaGreatDoor.S
set_option linter.unusedVariables false
set_option linter.unusedSimpArgs false
theorem rsh_nonneg{a:Int}(h:0≤a)(n:Nat):(a/2^n).natAbs=a.natAbs/2^n∧false=decide (a/2^n<0):=by
 obtain⟨m,rfl⟩:=Int.eq_ofNat_of_zero_le h;have e:(m:Int)/2^n=((m/2^n:Nat):Int):=by rw[Int.natCast_ediv,Int.natCast_pow];rfl
 rw[e,show(m:Int).natAbs=m by omega];generalize m/2^n=q at*;exact⟨by omega,(decide_eq_false (by omega)).symm⟩
theorem len_mono{a b:Nat}(h:a≤b):(L64.lim a).length≤(L64.lim b).length:=L64.len_le (Nat.lt_of_le_of_lt h (L64.lt_of_len (Nat.le_refl _)))
theorem rsh_neg{a:Int}(h:a<0)(n:Nat):(a/2^n).natAbs=(a.natAbs-1)/2^n+1∧true=decide (a/2^n<0):=by
 obtain⟨m,hm⟩: ∃m:Nat,a= -((m:Int)+1):=⟨(-a-1).toNat,by omega⟩
 subst hm;have hp:0<2^n:=Nat.pow_pos (by omega);have e: -((m:Int)+1)/2^n= -(((m/2^n:Nat):Int)+1):=by
  have h1:=Int.negSucc_ediv m (b:=2^n) (Int.pow_pos (by omega));rw[show-((m:Int)+1)=Int.negSucc m by rw[Int.negSucc_eq],h1,Int.natCast_ediv,Int.natCast_pow];rfl
 rw[e,show(-((m:Int)+1)).natAbs-1=m by omega];generalize m/2^n=q at*;exact⟨by omega,(decide_eq_true (by omega)).symm⟩
set_option maxRecDepth 100000 in
set_option maxHeartbeats 1000000 in
theorem intRsh_new_nonneg(base z x n:Nat)(a0:Int)(s:Nat→Option Int)(w:World)(hS:St base w s)(hz:s z=some a0)(a:Int)(hx:Arg base w s x a)(hne:x≠z)(h0a:0≤a)(ha:(L64.lim a.natAbs).length≤800)(hn:0<n)(hn2:n≤6400):
 Calls Tryz.prog 59 #[.pointer (some ⟨z,0,none⟩),.pointer (some ⟨x,0,none⟩),.int .u64 (n:Int)] w fun e w'=>e= .returned (.pointer (some ⟨z,0,none⟩))∧St base w' (upd s z (a/2^n))∧Below base w w':=by
 obtain⟨h0,own,hO⟩:=hS;obtain⟨hz1,hzb,vz,rz,hBz,hRz,hrz⟩:=hO z a0 hz;have BZ:=ak hBz;obtain⟨vx,rx,hBx,hRx,hHx⟩:=hO.arg hrz hx;have BX:=ak hBx;have HQ:=ak (natRsh_is vz vx rz rx a.natAbs n w.drew hRz.dst (hRx.move (fun _ _=>rfl)) ha hn hn2);have HZ1:=ak (fun w2 (hC:Chg rz w w2)=>Num.head hBz hz1 hrz hC);have HX1:=ak hHx;obtain⟨e,hb⟩:=rsh_nonneg h0a n;have HF:=ak (fun w2 v' r' (hR:Row w2 v' r' (L64.lim (a.natAbs/2^n))) (hN:New w.drew rz r') (hC:Chg rz w.drew w2)=>StO.put2 (n:=a/2^n) h0 hO hz1 hzb hBz hrz hC.undrew (by rw[e];exact hR) hN hb);have hd:decide (a<0)=false:=decide_eq_false (by omega);have BX2:=ak (show w.heap[x]?=some (.cells #[.bool false,vx] 55 (0,0)) by rw[←hd];exact BX.out);obtain⟨x0,zx0,x1,zx1⟩:=rf2 BX2.out;obtain⟨z0,zz0,z1,zz1⟩:=rf2 BZ.out;have d1:w.drew.cell? ⟨z,1,none⟩=some vz:=z1;have d2:w.drew.cell? ⟨x,1,none⟩=some vx:=x1;have e0:w.cell? ⟨x,0,none⟩=some (.bool false):=x0;clear hz hn hn2 ha hO hz1 hzb hBz hRz hrz h0 e hb hx hBx hRx hHx z0 zz0 z1 zz1 h0a hd x0 zx0 x1 zx1
 go_enter Tryz.func59,Tryz.ntmps59
 go_wp2_with fail
 refine sta (fun w'=>w'.cell? ⟨z,1,none⟩=some vz∧w'.cell? ⟨x,1,none⟩=some vx) [13] ⟨d1,d2⟩ (fun hHeld=>?_);repeat(first|refine pu 0 ?_|refine tk 0 hHeld ?_)
 refine cl Tryz.func79 #[vz,vx,.int .u64 (n:Int)] ?_
 refine HQ.out.mono ?_;rintro e w2 ⟨v',r',rfl,hR,hN,hC⟩;obtain⟨A',c',rfl⟩:=hR.slice;refine⟨_,rfl,?_⟩;have Z2:=ak (HZ1.out w2 hC.undrew);have X2:=ak (HX1.out w2 hC.undrew);have H2:=ak (HF.out w2 _ r' hR hN hC);generalize (L64.lim (a.natAbs/2^n)).length=l at*;clear HF hR hN hC HQ HZ1 HX1 e0 d1 d2;refine⟨⟨(blk_cell Z2.out 1).trans rfl,(blk_cell X2.out 1).trans rfl⟩,fun hHeld=>?_⟩;repeat(first|refine pu 0 ?_|refine tk 0 hHeld ?_)
 obtain⟨f0,zf0,f1,zf1⟩:=rf2 Z2.out;refine la (fun K hK=>?_);go_simp;refine hK.out _ _ ?_;clear hK K hHeld;refine done_ (by decide+kernel) ?_;clear f0 f1 zf0 zf1;have Z3:=ak (blk_put (cs':=#[.bool (decide (a0<0)),.slice A' l c']) Z2.out 1 (.slice A' l c') rfl);have X3:=ak (blk_far (p:=⟨z,1,none⟩) X2.out hne (.slice A' l c'));generalize w2.setCell ⟨z,1,none⟩ (.slice A' l c')=w3 at*;obtain⟨z0,zz0,z1,zz1⟩:=rf2 Z3.out
 go_wp2_with fail
 go_ret
 exact⟨rfl,H2.out⟩
set_option maxRecDepth 100000 in
set_option maxHeartbeats 1000000 in
theorem intRsh_new_neg(base z x n:Nat)(a0:Int)(s:Nat→Option Int)(w:World)(hS:St base w s)(hz:s z=some a0)(a:Int)(hx:Arg base w s x a)(hne:x≠z)(h0a:a<0)(ha:(L64.lim a.natAbs).length≤800)(hn:0<n)(hn2:n≤6400):
 Calls Tryz.prog 59 #[.pointer (some ⟨z,0,none⟩),.pointer (some ⟨x,0,none⟩),.int .u64 (n:Int)] w fun e w'=>e= .returned (.pointer (some ⟨z,0,none⟩))∧St base w' (upd s z (a/2^n))∧Below base w w':=by
 obtain⟨h0,own,hO⟩:=hS;obtain⟨hz1,hzb,vz,rz,hBz,hRz,hrz⟩:=hO z a0 hz;have BZ:=ak hBz;obtain⟨vx,rx,hBx,hRx,hHx⟩:=hO.arg hrz hx;have BX:=ak hBx;have HZ1:=ak (fun w2 (hC:Chg rz w w2)=>Num.head hBz hz1 hrz hC);have HX1:=ak hHx;obtain⟨e,hb⟩:=rsh_neg h0a n;have HF:=ak (fun w2 v' r' (hR:Row w2 v' r' (L64.lim ((a.natAbs-1)/2^n+1))) (hN:New w rz r') (hC:Chg rz w w2)=>StO.put2 (n:=a/2^n) h0 hO hz1 hzb hBz hrz hC (by rw[e];exact hR) hN hb);have hd:decide (a<0)=true:=decide_eq_true h0a;have BX2:=ak (show w.heap[x]?=some (.cells #[.bool true,vx] 55 (0,0)) by rw[←hd];exact BX.out);have HZr:=ak hRz;have HXr:=ak (hRx);have HA:=ak (And.intro h0a (And.intro ha (And.intro hn hn2)));obtain⟨m,hm⟩: ∃m,a.natAbs=m:=⟨_,rfl⟩
 have hl1:(L64.lim (m-1)).length≤800:=Nat.le_trans (len_mono (Nat.sub_le _ _)) (by rw[←hm];exact ha);have hl2:(L64.lim ((m-1)/2^n)).length≤800:=Nat.le_trans (len_mono (Nat.div_le_self _ _)) hl1;have HL:=ak (And.intro hl1 hl2);have HM:=ak (show 1≤m by omega);rw[hm]at HA HF HXr;obtain⟨x0,zx0,x1,zx1⟩:=rf2 BX2.out;obtain⟨z0,zz0,z1,zz1⟩:=rf2 BZ.out;have d1:w.drew.cell? ⟨z,1,none⟩=some vz:=z1;have d2:w.drew.cell? ⟨x,1,none⟩=some vx:=x1;have e0:w.cell? ⟨x,0,none⟩=some (.bool true):=x0;clear hz hn hn2 ha hl1 hl2 hm hO hz1 hzb hBz hRz hrz h0 e hb hx hBx hRx hHx z0 zz0 z1 zz1 h0a hd x0 zx0 x1 zx1
 go_enter Tryz.func59,Tryz.ntmps59
 go_wp2_with fail
 refine sta (fun w'=>w'.cell? ⟨z,1,none⟩=some vz∧w'.cell? ⟨x,1,none⟩=some vx) [] ⟨d1,d2⟩ (fun hHeld=>?_);repeat(first|refine pu 0 ?_|refine tk 0 hHeld ?_)
 refine cl Tryz.func78 #[] ?_
 refine(natOne_is _).mono ?_;rintro e w1 ⟨v1,r1,rfl,hR1,hb1⟩;refine⟨_,rfl,?_⟩;have Z1:=ak (blk_below (blk_drew BZ.out) hb1);have X1:=ak (blk_below (blk_drew BX.out) hb1);have HC1:=ak (Chg.of rz hb1).undrew;have HQ:=ak (natSub_is vz vx v1 rz rx r1 m 1 w1 ((HZr.out.move (w':=w.drew) (fun _ _=>rfl)).below hb1).dst ((HXr.out.move (w':=w.drew) (fun _ _=>rfl)).below hb1) hR1 (by have:=HA.out;omega) HM.out);clear hR1 hb1 e0 d1 d2;refine⟨⟨(blk_cell Z1.out 1).trans rfl,(blk_cell X1.out 1).trans rfl⟩,fun hHeld=>?_⟩;repeat(first|refine pu 0 ?_|refine tk 0 hHeld ?_)
 refine cl Tryz.func77 #[vz,vx,v1] ?_
 refine HQ.out.mono ?_;rintro e w2 ⟨v2,r2,rfl,hR2,hN2,hC2⟩;refine⟨_,rfl,?_⟩;have HC2:=ak (HC1.out.trans hC2 (.inl rfl));have HN2:=ak (show New w rz r2 from New.trans (b:=w1) (.inl rfl) hN2 HC1.out.size);have HR2:=ak hR2;have Z2:=ak (HZ1.out w2 HC2.out);have X2:=ak (HX1.out w2 HC2.out);clear HQ hR2 hN2 hC2 HC1;refine⟨⟨(blk_cell Z2.out 1).trans rfl,(blk_cell X2.out 1).trans rfl⟩,fun hHeld=>?_⟩;repeat(first|refine pu 0 ?_|refine tk 0 hHeld ?_)
 refine done_ (by decide+kernel) ?_;have HQ3:=ak (natRsh_is v2 v2 r2 r2 (m-1) n w2 HR2.out.dst HR2.out.opd HL.out.1 HA.out.2.2.1 HA.out.2.2.2);clear hHeld
 go_wp2_with fail
 refine HQ3.out.mono ?_;rintro e w3 ⟨v3,r3,rfl,hR3,hN3,hC3⟩;have HC3:=ak (HC2.out.trans hC3 HN2.out);have HN3:=ak (New.trans HN2.out hN3 HC2.out.size);have HR3:=ak hR3;clear hR3 hN3 hC3 HQ3
 go_wp2_with fail
 refine(natOne_is _).mono ?_;rintro e w4 ⟨v4,r4,rfl,hR4,hb4⟩;have HC4:=ak (HC3.out.below hb4);have HQ5:=ak (natAdd_is v3 v3 v4 r3 r3 r4 ((m-1)/2^n) 1 w4 (HR3.out.below hb4).dst (HR3.out.below hb4).opd hR4 (by have:=HL.out.2;omega) (by rw[show L64.lim 1= [1] by rw[L64.lim_pos (by omega)];simp[L64.lim_zero]];simp));clear hR4 hb4
 go_wp2_with fail
 refine HQ5.out.mono ?_;rintro e w5 ⟨v5,r5,rfl,hR5,hN5,hC5⟩;have hN5':=New.trans HN3.out hN5 HC4.out.size;obtain⟨A',c',rfl⟩:=hR5.slice;have HC5:=ak (HC4.out.trans hC5 HN3.out);have H2:=ak (HF.out w5 _ r5 hR5 hN5' HC5.out);have Z5:=ak (HZ1.out w5 HC5.out);generalize (L64.lim ((m-1)/2^n+1)).length=l at*;clear hR5 hN5 hC5 hN5' HQ5 HF;obtain⟨z0,zz0,z1,zz1⟩:=rf2 Z5.out;have Z6:=ak (blk_put (cs':=#[.bool (decide (a0<0)),.slice A' l c']) Z5.out 1 (.slice A' l c') rfl);obtain⟨y0,zy0,y1,zy1⟩:=rf2 Z6.out
 go_wp2_with fail
 go_ret
 exact⟨rfl,H2.out⟩
set_option maxRecDepth 100000 in
set_option maxHeartbeats 1000000 in
theorem intRsh_self_nonneg(base z n:Nat)(a0:Int)(s:Nat→Option Int)(w:World)(hS:St base w s)(hz:s z=some a0)(h0a:0≤a0)(ha:(L64.lim a0.natAbs).length≤800)(hn:0<n)(hn2:n≤6400):
 Calls Tryz.prog 59 #[.pointer (some ⟨z,0,none⟩),.pointer (some ⟨z,0,none⟩),.int .u64 (n:Int)] w fun e w'=>e= .returned (.pointer (some ⟨z,0,none⟩))∧St base w' (upd s z (a0/2^n))∧Below base w w':=by
 obtain⟨h0,own,hO⟩:=hS;obtain⟨hz1,hzb,vz,rz,hBz,hRz,hrz⟩:=hO z a0 hz;have BZ:=ak hBz;have HQ:=ak (natRsh_is vz vz rz rz a0.natAbs n w.drew hRz.dst (hRz.opd.move (fun _ _=>rfl)) ha hn hn2);have HZ1:=ak (fun w2 (hC:Chg rz w w2)=>Num.head hBz hz1 hrz hC);obtain⟨e,hb⟩:=rsh_nonneg h0a n;have HF:=ak (fun w2 v' r' (hR:Row w2 v' r' (L64.lim (a0.natAbs/2^n))) (hN:New w.drew rz r') (hC:Chg rz w.drew w2)=>StO.put2 (n:=a0/2^n) h0 hO hz1 hzb hBz hrz hC.undrew (by rw[e];exact hR) hN hb);have hd:decide (a0<0)=false:=decide_eq_false (by omega);have BZ2:=ak (show w.heap[z]?=some (.cells #[.bool false,vz] 55 (0,0)) by rw[←hd];exact BZ.out);obtain⟨z0,zz0,z1,zz1⟩:=rf2 BZ2.out;have d1:w.drew.cell? ⟨z,1,none⟩=some vz:=z1;have e0:w.cell? ⟨z,0,none⟩=some (.bool false):=z0;clear hz hn hn2 ha hO hz1 hzb hBz hRz hrz h0 e hb z0 zz0 z1 zz1 h0a hd
 go_enter Tryz.func59,Tryz.ntmps59
 go_wp2_with fail
 refine sta (fun w'=>w'.cell? ⟨z,1,none⟩=some vz) [13] d1 (fun hHeld=>?_);repeat(first|refine pu 0 ?_|refine tk 0 hHeld ?_)
 refine cl Tryz.func79 #[vz,vz,.int .u64 (n:Int)] ?_
 refine HQ.out.mono ?_;rintro e w2 ⟨v',r',rfl,hR,hN,hC⟩;obtain⟨A',c',rfl⟩:=hR.slice;refine⟨_,rfl,?_⟩;have Z2:=ak (HZ1.out w2 hC.undrew);have H2:=ak (HF.out w2 _ r' hR hN hC);generalize (L64.lim (a0.natAbs/2^n)).length=l at*;clear HF hR hN hC HQ HZ1 e0 d1;refine⟨(by exact(blk_cell Z2.out 1).trans rfl),fun hHeld=>?_⟩;repeat(first|refine pu 0 ?_|refine tk 0 hHeld ?_)
 obtain⟨f0,zf0,f1,zf1⟩:=rf2 Z2.out;refine la (fun K hK=>?_);go_simp;refine hK.out _ _ ?_;clear hK K hHeld;refine done_ (by decide+kernel) ?_;clear f0 f1 zf0 zf1;have Z3:=ak (blk_put (cs':=#[.bool (decide (a0<0)),.slice A' l c']) Z2.out 1 (.slice A' l c') rfl);generalize w2.setCell ⟨z,1,none⟩ (.slice A' l c')=w3 at*;obtain⟨z0,zz0,z1,zz1⟩:=rf2 Z3.out
 go_wp2_with fail
 go_ret
 exact⟨rfl,H2.out⟩
set_option maxRecDepth 100000 in
set_option maxHeartbeats 1000000 in
theorem intRsh_self_neg(base z n:Nat)(a0:Int)(s:Nat→Option Int)(w:World)(hS:St base w s)(hz:s z=some a0)(h0a:a0<0)(ha:(L64.lim a0.natAbs).length≤800)(hn:0<n)(hn2:n≤6400):
 Calls Tryz.prog 59 #[.pointer (some ⟨z,0,none⟩),.pointer (some ⟨z,0,none⟩),.int .u64 (n:Int)] w fun e w'=>e= .returned (.pointer (some ⟨z,0,none⟩))∧St base w' (upd s z (a0/2^n))∧Below base w w':=by
 obtain⟨h0,own,hO⟩:=hS;obtain⟨hz1,hzb,vz,rz,hBz,hRz,hrz⟩:=hO z a0 hz;have BZ:=ak hBz;have HZ1:=ak (fun w2 (hC:Chg rz w w2)=>Num.head hBz hz1 hrz hC);obtain⟨e,hb⟩:=rsh_neg h0a n;have HF:=ak (fun w2 v' r' (hR:Row w2 v' r' (L64.lim ((a0.natAbs-1)/2^n+1))) (hN:New w rz r') (hC:Chg rz w w2)=>StO.put2 (n:=a0/2^n) h0 hO hz1 hzb hBz hrz hC (by rw[e];exact hR) hN hb);have hd:decide (a0<0)=true:=decide_eq_true h0a;have BZ2:=ak (show w.heap[z]?=some (.cells #[.bool true,vz] 55 (0,0)) by rw[←hd];exact BZ.out);have HZr:=ak hRz;have HXr:=ak (hRz.opd);have HA:=ak (And.intro h0a (And.intro ha (And.intro hn hn2)));obtain⟨m,hm⟩: ∃m,a0.natAbs=m:=⟨_,rfl⟩
 have hl1:(L64.lim (m-1)).length≤800:=Nat.le_trans (len_mono (Nat.sub_le _ _)) (by rw[←hm];exact ha);have hl2:(L64.lim ((m-1)/2^n)).length≤800:=Nat.le_trans (len_mono (Nat.div_le_self _ _)) hl1;have HL:=ak (And.intro hl1 hl2);have HM:=ak (show 1≤m by omega);rw[hm]at HA HF HXr;obtain⟨z0,zz0,z1,zz1⟩:=rf2 BZ2.out;have d1:w.drew.cell? ⟨z,1,none⟩=some vz:=z1;have e0:w.cell? ⟨z,0,none⟩=some (.bool true):=z0;clear hz hn hn2 ha hl1 hl2 hm hO hz1 hzb hBz hRz hrz h0 e hb z0 zz0 z1 zz1 h0a hd
 go_enter Tryz.func59,Tryz.ntmps59
 go_wp2_with fail
 refine sta (fun w'=>w'.cell? ⟨z,1,none⟩=some vz) [] d1 (fun hHeld=>?_);repeat(first|refine pu 0 ?_|refine tk 0 hHeld ?_)
 refine cl Tryz.func78 #[] ?_
 refine(natOne_is _).mono ?_;rintro e w1 ⟨v1,r1,rfl,hR1,hb1⟩;refine⟨_,rfl,?_⟩;have Z1:=ak (blk_below (blk_drew BZ.out) hb1);have HC1:=ak (Chg.of rz hb1).undrew;have HQ:=ak (natSub_is vz vz v1 rz rz r1 m 1 w1 ((HZr.out.move (w':=w.drew) (fun _ _=>rfl)).below hb1).dst ((HXr.out.move (w':=w.drew) (fun _ _=>rfl)).below hb1) hR1 (by have:=HA.out;omega) HM.out);clear hR1 hb1 e0 d1;refine⟨(by exact(blk_cell Z1.out 1).trans rfl),fun hHeld=>?_⟩;repeat(first|refine pu 0 ?_|refine tk 0 hHeld ?_)
 refine cl Tryz.func77 #[vz,vz,v1] ?_
 refine HQ.out.mono ?_;rintro e w2 ⟨v2,r2,rfl,hR2,hN2,hC2⟩;refine⟨_,rfl,?_⟩;have HC2:=ak (HC1.out.trans hC2 (.inl rfl));have HN2:=ak (show New w rz r2 from New.trans (b:=w1) (.inl rfl) hN2 HC1.out.size);have HR2:=ak hR2;have Z2:=ak (HZ1.out w2 HC2.out);clear HQ hR2 hN2 hC2 HC1;refine⟨(by exact(blk_cell Z2.out 1).trans rfl),fun hHeld=>?_⟩;repeat(first|refine pu 0 ?_|refine tk 0 hHeld ?_)
 refine done_ (by decide+kernel) ?_;have HQ3:=ak (natRsh_is v2 v2 r2 r2 (m-1) n w2 HR2.out.dst HR2.out.opd HL.out.1 HA.out.2.2.1 HA.out.2.2.2);clear hHeld
 go_wp2_with fail
 refine HQ3.out.mono ?_;rintro e w3 ⟨v3,r3,rfl,hR3,hN3,hC3⟩;have HC3:=ak (HC2.out.trans hC3 HN2.out);have HN3:=ak (New.trans HN2.out hN3 HC2.out.size);have HR3:=ak hR3;clear hR3 hN3 hC3 HQ3
 go_wp2_with fail
 refine(natOne_is _).mono ?_;rintro e w4 ⟨v4,r4,rfl,hR4,hb4⟩;have HC4:=ak (HC3.out.below hb4);have HQ5:=ak (natAdd_is v3 v3 v4 r3 r3 r4 ((m-1)/2^n) 1 w4 (HR3.out.below hb4).dst (HR3.out.below hb4).opd hR4 (by have:=HL.out.2;omega) (by rw[show L64.lim 1= [1] by rw[L64.lim_pos (by omega)];simp[L64.lim_zero]];simp));clear hR4 hb4
 go_wp2_with fail
 refine HQ5.out.mono ?_;rintro e w5 ⟨v5,r5,rfl,hR5,hN5,hC5⟩;have hN5':=New.trans HN3.out hN5 HC4.out.size;obtain⟨A',c',rfl⟩:=hR5.slice;have HC5:=ak (HC4.out.trans hC5 HN3.out);have H2:=ak (HF.out w5 _ r5 hR5 hN5' HC5.out);have Z5:=ak (HZ1.out w5 HC5.out);generalize (L64.lim ((m-1)/2^n+1)).length=l at*;clear hR5 hN5 hC5 hN5' HQ5 HF;obtain⟨z0,zz0,z1,zz1⟩:=rf2 Z5.out;have Z6:=ak (blk_put (cs':=#[.bool (decide (a0<0)),.slice A' l c']) Z5.out 1 (.slice A' l c') rfl);obtain⟨y0,zy0,y1,zy1⟩:=rf2 Z6.out
 go_wp2_with fail
 go_ret
 exact⟨rfl,H2.out⟩
theorem intRsh_self(base z n:Nat)(a0:Int)(s:Nat→Option Int)(w:World)(hS:St base w s)(hz:s z=some a0)(ha:(L64.lim a0.natAbs).length≤800)(hn:0<n)(hn2:n≤6400):
 Calls Tryz.prog 59 #[.pointer (some ⟨z,0,none⟩),.pointer (some ⟨z,0,none⟩),.int .u64 (n:Int)] w fun e w'=>e= .returned (.pointer (some ⟨z,0,none⟩))∧St base w' (upd s z (a0/2^n))∧Below base w w':=by
 rcases Int.lt_or_le a0 0 with h|h
 ·exact intRsh_self_neg base z n a0 s w hS hz h ha hn hn2
 ·exact intRsh_self_nonneg base z n a0 s w hS hz h ha hn hn2
theorem intRsh_new(base z x n:Nat)(a0:Int)(s:Nat→Option Int)(w:World)(hS:St base w s)(hz:s z=some a0)(a:Int)(hx:Arg base w s x a)(hne:x≠z)(ha:(L64.lim a.natAbs).length≤800)(hn:0<n)(hn2:n≤6400):
 Calls Tryz.prog 59 #[.pointer (some ⟨z,0,none⟩),.pointer (some ⟨x,0,none⟩),.int .u64 (n:Int)] w fun e w'=>e= .returned (.pointer (some ⟨z,0,none⟩))∧St base w' (upd s z (a/2^n))∧Below base w w':=by
 rcases Int.lt_or_le a 0 with h|h
 ·exact intRsh_new_neg base z x n a0 s w hS hz a hx hne h ha hn hn2
 ·exact intRsh_new_nonneg base z x n a0 s w hS hz a hx hne h ha hn hn2
end Go.Proofs.YthlakefgobflnaaGreatDoor.G
