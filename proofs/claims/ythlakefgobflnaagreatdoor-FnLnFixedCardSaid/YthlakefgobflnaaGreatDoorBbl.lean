/- CONTRACTS: sums and differences of numbers with sign, written over the first. -/
import Derived.Test.YthlakefgobflnaaGreatDoorBbk
namespace Go.Proofs.YthlakefgobflnaaGreatDoor.G
open Go.RowKit Go.Proofs.YthlakefgobflnaaGreatDoorW.PrintWords Go.Proofs.YthlakefgobflnaaGreatDoorW.PrintLast Go.Proofs.YthlakefgobflnaaGreatDoorW.PrintMore Go.Proofs.YthlakefgobflnaaGreatDoor.S
set_option linter.unusedVariables false
set_option linter.unusedSimpArgs false
theorem sgn_fin{N:Nat}{V:Int}{b:Bool}(hN:V.natAbs=N)(hs:N≠0→b=decide (V<0)):(0<(L64.lim N).length→b=decide (V<0))∧((L64.lim N).length=0→false=decide (V<0)):=by
 refine⟨fun h=>hs (fun e=>?_),fun h=>?_⟩
 ·subst e;rw[L64.lim_zero]at h;simp at h
 ·have:N=0:=L64.lim_eq_nil.1 (List.length_eq_zero_iff.1 h);exact(decide_eq_false (by omega)).symm
set_option maxRecDepth 100000 in
set_option maxHeartbeats 1000000 in
theorem intAdd_same(base z y:Nat)(a0:Int)(s:Nat→Option Int)(w:World)(hS:St base w s)(hz:s z=some a0)(b:Int)(hy:Arg base w s y b)(hne:y≠z)(ha:(L64.lim a0.natAbs).length≤800)(hb8:(L64.lim b.natAbs).length≤800)(hs:decide (a0<0)=decide (b<0)):
 Calls Tryz.prog 69 #[.pointer (some ⟨z,0,none⟩),.pointer (some ⟨z,0,none⟩),.pointer (some ⟨y,0,none⟩)] w fun e w'=>e= .returned (.pointer (some ⟨z,0,none⟩))∧St base w' (upd s z (a0+b))∧Below base w w':=by
 obtain⟨h0,own,hO⟩:=hS;obtain⟨hz1,hzb,vz,rz,hBz,hRz,hrz⟩:=hO z a0 hz;have BZ:=ak hBz;obtain⟨vy,ry,hBy,hRy,hHy⟩:=hO.arg hrz hy;have BY:=ak hBy;have HQ:=ak (fun w1 (hb1:Below w.heap.size w w1)=>natAdd_is vz vz vy rz rz ry a0.natAbs b.natAbs w1 (hRz.below hb1).dst (hRz.below hb1).opd (hRy.below hb1) (by omega) (by omega));have HZ1:=ak (fun w2 (hC:Chg rz w w2)=>Num.head hBz hz1 hrz hC);have HY1:=ak hHy;have e:(a0+b).natAbs=a0.natAbs+b.natAbs:=by
  by_cases h1:a0<0<;>by_cases h2:b<0<;>simp[h1,h2]at hs<;>omega
 obtain⟨hp1,hp2⟩:=sgn_fin (b:=decide (a0<0)) e (fun hn=>by
  by_cases h1:a0<0<;>by_cases h2:b<0<;>simp[h1,h2]at hs⊢ <;>omega)
 have HF:=ak (fun w2 v' r' (hR:Row w2 v' r' (L64.lim (a0.natAbs+b.natAbs))) (hN:New w rz r') (hC:Chg rz w w2)=>And.intro (fun hl=>StO.put2 (n:=a0+b) h0 hO hz1 hzb hBz hrz hC (by rw[e];exact hR) hN (hp1 hl)) (fun hl=>StO.put2 (n:=a0+b) h0 hO hz1 hzb hBz hrz hC (by rw[e];exact hR) hN (hp2 hl)));have hq1:(decide (a0<0)==decide (b<0))=true:=by
  by_cases h1:a0<0<;>by_cases h2:b<0<;>simp[h1,h2]at hs⊢
 have hq2:(decide (a0<0) != decide (b<0))=false:=by
  by_cases h1:a0<0<;>by_cases h2:b<0<;>simp[h1,h2]at hs⊢
 obtain⟨z0,zz0,z1,zz1⟩:=rf2 BZ.out;obtain⟨y0,zy0,y1,zy1⟩:=rf2 BY.out;clear hz hy ha hb8 hs hO hz1 hzb hBz hRz hrz h0 e hp1 hp2 hBy hRy hHy zz0 zz1 zy0 zy1;generalize decide (a0<0)=ba at*;generalize decide (b<0)=bb at*
 go_enter Tryz.func69,Tryz.ntmps69
 go_wp2_with fail
 go_region_held3 (fun w'=>w'.cell? ⟨z,0,none⟩=some (.bool ba)∧w'.cell? ⟨y,0,none⟩=some (.bool bb)) (first|exact⟨z0,y0⟩|go_keep) (fail)
 have BZ1:=ak (blk_drew BZ.out);have BY1:=ak (blk_drew BY.out);have HB1:=ak (below_drew (Below.refl w.heap.size w));clear z0 y0 z1 y1 BZ BY
 go_wp2_with fail
 have d1:w.drew.drew.cell? ⟨z,1,none⟩=some vz:=(blk_cell BZ1.out 1).trans rfl;have d2:w.drew.drew.cell? ⟨y,1,none⟩=some vy:=(blk_cell BY1.out 1).trans rfl;have HB2:=ak (below_drew HB1.out);refine sta (fun w'=>w'.cell? ⟨z,1,none⟩=some vz∧w'.cell? ⟨y,1,none⟩=some vy) [16] ⟨d1,d2⟩ (fun hHeld=>?_);repeat(first|refine pu 0 ?_|refine tk 0 hHeld ?_)
 refine cl Tryz.func80 #[vz,vz,vy] ?_
 refine(HQ.out _ HB2.out).mono ?_;rintro e w2 ⟨v',r',rfl,hR,hN,hC⟩;obtain⟨A',c',rfl⟩:=hR.slice;refine⟨_,rfl,?_⟩;have hC0:=(Chg.of rz HB2.out).trans hC (.inl rfl);have Z2:=ak (HZ1.out w2 hC0);have Y2:=ak (HY1.out w2 hC0);have H2:=ak (HF.out w2 _ r' hR (New.trans (b:=w) (.inl rfl) (by first|exact hN|exact New.trans (.inl rfl) hN HB2.out.size) (Nat.le_refl _)) hC0);generalize (L64.lim (a0.natAbs+b.natAbs)).length=l at*;clear HF hR hN hC hC0 HQ HZ1 HY1 d1 d2;refine⟨⟨(blk_cell Z2.out 1).trans rfl,(blk_cell Y2.out 1).trans rfl⟩,fun hHeld=>?_⟩;repeat(first|refine pu 0 ?_|refine tk 0 hHeld ?_)
 obtain⟨f0,zf0,f1,zf1⟩:=rf2 Z2.out;refine la (fun K hK=>?_);go_simp;refine hK.out _ _ ?_;clear hK K hHeld;refine done_ (by decide+kernel) ?_;clear f0 f1 zf0 zf1;have Z3:=ak (blk_put (cs':=#[.bool ba,.slice A' l c']) Z2.out 1 (.slice A' l c') rfl);have Y3:=ak (blk_far (p:=⟨z,1,none⟩) Y2.out hne (.slice A' l c'));generalize w2.setCell ⟨z,1,none⟩ (.slice A' l c')=w3 at*;obtain⟨z0,zz0,z1,zz1⟩:=rf2 Z3.out;rcases Nat.eq_zero_or_pos l with hl|hl
 ·obtain⟨hs1,hs2⟩:=H2.out.2 hl;have H3:=ak (And.intro hs1 hs2);have c1:decide ((l:Int)>0)=false:=decide_eq_false (by omega);have c2:decide (0<l)=false:=decide_eq_false (by omega);clear hs1 hs2 hl H2
  go_wp2_with fail
  go_ret
  exact⟨rfl,H3.out⟩
 ·obtain⟨hs1,hs2⟩:=H2.out.1 hl;have H3:=ak (And.intro hs1 hs2);have c1:decide ((l:Int)>0)=true:=decide_eq_true (by omega);have c2:decide (0<l)=true:=decide_eq_true (by omega);clear hs1 hs2 hl H2
  go_wp2_with fail
  go_ret
  exact⟨rfl,H3.out⟩
set_option maxRecDepth 100000 in
set_option maxHeartbeats 1000000 in
theorem intAdd_ge(base z y:Nat)(a0:Int)(s:Nat→Option Int)(w:World)(hS:St base w s)(hz:s z=some a0)(b:Int)(hy:Arg base w s y b)(hne:y≠z)(ha:(L64.lim a0.natAbs).length≤800)(hb8:(L64.lim b.natAbs).length≤800)(hs:decide (a0<0)≠decide (b<0))(hle:b.natAbs≤a0.natAbs):
 Calls Tryz.prog 69 #[.pointer (some ⟨z,0,none⟩),.pointer (some ⟨z,0,none⟩),.pointer (some ⟨y,0,none⟩)] w fun e w'=>e= .returned (.pointer (some ⟨z,0,none⟩))∧St base w' (upd s z (a0+b))∧Below base w w':=by
 obtain⟨h0,own,hO⟩:=hS;obtain⟨hz1,hzb,vz,rz,hBz,hRz,hrz⟩:=hO z a0 hz;have BZ:=ak hBz;obtain⟨vy,ry,hBy,hRy,hHy⟩:=hO.arg hrz hy;have BY:=ak hBy;have HQ:=ak (fun w1 (hb1:Below w.heap.size w w1)=>natSub_is vz vz vy rz rz ry a0.natAbs b.natAbs w1 (hRz.below hb1).dst (hRz.below hb1).opd (hRy.below hb1) (by omega) hle);have HCm:=ak (fun w1 (hb1:Below w.heap.size w w1)=>natCmp_is vz vy rz ry a0.natAbs b.natAbs w1 (hRz.below hb1).opd (hRy.below hb1) (by omega));have hcm:decide (cmpN a0.natAbs b.natAbs≥0)=true:=by
  unfold cmpN;rw[if_neg (by omega)];split<;>rfl
 generalize cmpN a0.natAbs b.natAbs=cm at*;have HZ1:=ak (fun w2 (hC:Chg rz w w2)=>Num.head hBz hz1 hrz hC);have HY1:=ak hHy;have e:(a0+b).natAbs=a0.natAbs-b.natAbs:=by
  by_cases h1:a0<0<;>by_cases h2:b<0<;>simp[h1,h2]at hs<;>omega
 obtain⟨hp1,hp2⟩:=sgn_fin (b:=decide (a0<0)) e (fun hn=>by
  by_cases h1:a0<0<;>by_cases h2:b<0<;>simp[h1,h2]at hs⊢ <;>omega)
 have HF:=ak (fun w2 v' r' (hR:Row w2 v' r' (L64.lim (a0.natAbs-b.natAbs))) (hN:New w rz r') (hC:Chg rz w w2)=>And.intro (fun hl=>StO.put2 (n:=a0+b) h0 hO hz1 hzb hBz hrz hC (by rw[e];exact hR) hN (hp1 hl)) (fun hl=>StO.put2 (n:=a0+b) h0 hO hz1 hzb hBz hrz hC (by rw[e];exact hR) hN (hp2 hl)));have hq1:(decide (a0<0)==decide (b<0))=false:=by
  by_cases h1:a0<0<;>by_cases h2:b<0<;>simp[h1,h2]at hs⊢
 have hq2:(decide (a0<0) != decide (b<0))=true:=by
  by_cases h1:a0<0<;>by_cases h2:b<0<;>simp[h1,h2]at hs⊢
 obtain⟨z0,zz0,z1,zz1⟩:=rf2 BZ.out;obtain⟨y0,zy0,y1,zy1⟩:=rf2 BY.out;clear hz hy ha hb8 hs hle hO hz1 hzb hBz hRz hrz h0 e hp1 hp2 hBy hRy hHy zz0 zz1 zy0 zy1;generalize decide (a0<0)=ba at*;generalize decide (b<0)=bb at*
 go_enter Tryz.func69,Tryz.ntmps69
 go_wp2_with fail
 go_region_held3 (fun w'=>w'.cell? ⟨z,0,none⟩=some (.bool ba)∧w'.cell? ⟨y,0,none⟩=some (.bool bb)) (first|exact⟨z0,y0⟩|go_keep) (fail)
 have BZ1:=ak (blk_drew BZ.out);have BY1:=ak (blk_drew BY.out);have HB1:=ak (below_drew (Below.refl w.heap.size w));clear z0 y0 z1 y1 BZ BY
 go_wp2_with fail
 have d1:w.drew.drew.cell? ⟨z,1,none⟩=some vz:=(blk_cell BZ1.out 1).trans rfl;have d2:w.drew.drew.cell? ⟨y,1,none⟩=some vy:=(blk_cell BY1.out 1).trans rfl;refine sta (fun w'=>w'.cell? ⟨z,1,none⟩=some vz∧w'.cell? ⟨y,1,none⟩=some vy) [] ⟨d1,d2⟩ (fun hHeld=>?_);repeat(first|refine pu 0 ?_|refine tk 0 hHeld ?_)
 refine cl Tryz.func38 #[vz,vy] ?_
 refine(HCm.out _ (below_drew HB1.out)).mono ?_;rintro e w1 ⟨rfl,hb1⟩;refine⟨_,rfl,?_⟩;have BZ2:=ak (blk_below (blk_drew BZ1.out) hb1);have BY2:=ak (blk_below (blk_drew BY1.out) hb1);have HBc:=ak (below_step (below_drew HB1.out) hb1);clear hb1 d1 d2 HCm;refine⟨⟨(blk_cell BZ2.out 1).trans rfl,(blk_cell BY2.out 1).trans rfl⟩,fun hHeld=>?_⟩;repeat(first|refine pu 0 ?_|refine tk 0 hHeld ?_)
 refine done_ (by decide+kernel) ?_;clear hHeld
 go_wp2_with fail
 have HB2:=ak (below_drew HBc.out);have d1:w1.drew.cell? ⟨z,1,none⟩=some vz:=(blk_cell BZ2.out 1).trans rfl;have d2:w1.drew.cell? ⟨y,1,none⟩=some vy:=(blk_cell BY2.out 1).trans rfl;refine sta (fun w'=>w'.cell? ⟨z,1,none⟩=some vz∧w'.cell? ⟨y,1,none⟩=some vy) [16] ⟨d1,d2⟩ (fun hHeld=>?_);repeat(first|refine pu 0 ?_|refine tk 0 hHeld ?_)
 refine cl Tryz.func77 #[vz,vz,vy] ?_
 refine(HQ.out _ HB2.out).mono ?_;rintro e w2 ⟨v',r',rfl,hR,hN,hC⟩;obtain⟨A',c',rfl⟩:=hR.slice;refine⟨_,rfl,?_⟩;have hC0:=(Chg.of rz HB2.out).trans hC (.inl rfl);have Z2:=ak (HZ1.out w2 hC0);have Y2:=ak (HY1.out w2 hC0);have H2:=ak (HF.out w2 _ r' hR (New.trans (b:=w) (.inl rfl) (by first|exact hN|exact New.trans (.inl rfl) hN HB2.out.size) (Nat.le_refl _)) hC0);generalize (L64.lim (a0.natAbs-b.natAbs)).length=l at*;clear HF hR hN hC hC0 HQ HZ1 HY1 d1 d2;refine⟨⟨(blk_cell Z2.out 1).trans rfl,(blk_cell Y2.out 1).trans rfl⟩,fun hHeld=>?_⟩;repeat(first|refine pu 0 ?_|refine tk 0 hHeld ?_)
 obtain⟨f0,zf0,f1,zf1⟩:=rf2 Z2.out;refine la (fun K hK=>?_);go_simp;refine hK.out _ _ ?_;clear hK K hHeld;refine done_ (by decide+kernel) ?_;clear f0 f1 zf0 zf1;have Z3:=ak (blk_put (cs':=#[.bool ba,.slice A' l c']) Z2.out 1 (.slice A' l c') rfl);have Y3:=ak (blk_far (p:=⟨z,1,none⟩) Y2.out hne (.slice A' l c'));generalize w2.setCell ⟨z,1,none⟩ (.slice A' l c')=w3 at*;obtain⟨z0,zz0,z1,zz1⟩:=rf2 Z3.out;rcases Nat.eq_zero_or_pos l with hl|hl
 ·obtain⟨hs1,hs2⟩:=H2.out.2 hl;have H3:=ak (And.intro hs1 hs2);have c1:decide ((l:Int)>0)=false:=decide_eq_false (by omega);have c2:decide (0<l)=false:=decide_eq_false (by omega);clear hs1 hs2 hl H2
  go_wp2_with fail
  go_ret
  exact⟨rfl,H3.out⟩
 ·obtain⟨hs1,hs2⟩:=H2.out.1 hl;have H3:=ak (And.intro hs1 hs2);have c1:decide ((l:Int)>0)=true:=decide_eq_true (by omega);have c2:decide (0<l)=true:=decide_eq_true (by omega);clear hs1 hs2 hl H2
  go_wp2_with fail
  go_ret
  exact⟨rfl,H3.out⟩
set_option maxRecDepth 100000 in
set_option maxHeartbeats 1000000 in
theorem intAdd_lt(base z y:Nat)(a0:Int)(s:Nat→Option Int)(w:World)(hS:St base w s)(hz:s z=some a0)(b:Int)(hy:Arg base w s y b)(hne:y≠z)(ha:(L64.lim a0.natAbs).length≤800)(hb8:(L64.lim b.natAbs).length≤800)(hs:decide (a0<0)≠decide (b<0))(hle:a0.natAbs<b.natAbs):
 Calls Tryz.prog 69 #[.pointer (some ⟨z,0,none⟩),.pointer (some ⟨z,0,none⟩),.pointer (some ⟨y,0,none⟩)] w fun e w'=>e= .returned (.pointer (some ⟨z,0,none⟩))∧St base w' (upd s z (a0+b))∧Below base w w':=by
 obtain⟨h0,own,hO⟩:=hS;obtain⟨hz1,hzb,vz,rz,hBz,hRz,hrz⟩:=hO z a0 hz;have BZ:=ak hBz;obtain⟨vy,ry,hBy,hRy,hHy⟩:=hO.arg hrz hy;have BY:=ak hBy;have HQ:=ak (fun w1 (hb1:Below w.heap.size w w1)=>natSub_is vz vy vz rz ry rz b.natAbs a0.natAbs w1 (hRz.below hb1).dst (hRy.below hb1) (hRz.below hb1).opd (by omega) (by omega));have HCm:=ak (fun w1 (hb1:Below w.heap.size w w1)=>natCmp_is vz vy rz ry a0.natAbs b.natAbs w1 (hRz.below hb1).opd (hRy.below hb1) (by omega));have hcm:decide (cmpN a0.natAbs b.natAbs≥0)=false:=by
  unfold cmpN;rw[if_pos hle];rfl
 generalize cmpN a0.natAbs b.natAbs=cm at*;have HZ1:=ak (fun w2 (hC:Chg rz w w2)=>Num.head hBz hz1 hrz hC);have HY1:=ak hHy;have e:(a0+b).natAbs=b.natAbs-a0.natAbs:=by
  by_cases h1:a0<0<;>by_cases h2:b<0<;>simp[h1,h2]at hs<;>omega
 obtain⟨hp1,hp2⟩:=sgn_fin (b:=!decide (a0<0)) e (fun hn=>by
  by_cases h1:a0<0<;>by_cases h2:b<0<;>simp[h1,h2]at hs⊢ <;>omega)
 have HF:=ak (fun w2 v' r' (hR:Row w2 v' r' (L64.lim (b.natAbs-a0.natAbs))) (hN:New w rz r') (hC:Chg rz w w2)=>And.intro (fun hl=>StO.put2 (n:=a0+b) h0 hO hz1 hzb hBz hrz hC (by rw[e];exact hR) hN (hp1 hl)) (fun hl=>StO.put2 (n:=a0+b) h0 hO hz1 hzb hBz hrz hC (by rw[e];exact hR) hN (hp2 hl)));have hq1:(decide (a0<0)==decide (b<0))=false:=by
  by_cases h1:a0<0<;>by_cases h2:b<0<;>simp[h1,h2]at hs⊢
 have hq2:(decide (a0<0) != decide (b<0))=true:=by
  by_cases h1:a0<0<;>by_cases h2:b<0<;>simp[h1,h2]at hs⊢
 obtain⟨z0,zz0,z1,zz1⟩:=rf2 BZ.out;obtain⟨y0,zy0,y1,zy1⟩:=rf2 BY.out;clear hz hy ha hb8 hs hle hO hz1 hzb hBz hRz hrz h0 e hp1 hp2 hBy hRy hHy zz0 zz1 zy0 zy1;generalize decide (a0<0)=ba at*;generalize decide (b<0)=bb at*
 go_enter Tryz.func69,Tryz.ntmps69
 go_wp2_with fail
 go_region_held3 (fun w'=>w'.cell? ⟨z,0,none⟩=some (.bool ba)∧w'.cell? ⟨y,0,none⟩=some (.bool bb)) (first|exact⟨z0,y0⟩|go_keep) (fail)
 have BZ1:=ak (blk_drew BZ.out);have BY1:=ak (blk_drew BY.out);have HB1:=ak (below_drew (Below.refl w.heap.size w));clear z0 y0 z1 y1 BZ BY
 go_wp2_with fail
 have d1:w.drew.drew.cell? ⟨z,1,none⟩=some vz:=(blk_cell BZ1.out 1).trans rfl;have d2:w.drew.drew.cell? ⟨y,1,none⟩=some vy:=(blk_cell BY1.out 1).trans rfl;refine sta (fun w'=>w'.cell? ⟨z,1,none⟩=some vz∧w'.cell? ⟨y,1,none⟩=some vy) [] ⟨d1,d2⟩ (fun hHeld=>?_);repeat(first|refine pu 0 ?_|refine tk 0 hHeld ?_)
 refine cl Tryz.func38 #[vz,vy] ?_
 refine(HCm.out _ (below_drew HB1.out)).mono ?_;rintro e w1 ⟨rfl,hb1⟩;refine⟨_,rfl,?_⟩;have BZ2:=ak (blk_below (blk_drew BZ1.out) hb1);have BY2:=ak (blk_below (blk_drew BY1.out) hb1);have HBc:=ak (below_step (below_drew HB1.out) hb1);clear hb1 d1 d2 HCm;refine⟨⟨(blk_cell BZ2.out 1).trans rfl,(blk_cell BY2.out 1).trans rfl⟩,fun hHeld=>?_⟩;repeat(first|refine pu 0 ?_|refine tk 0 hHeld ?_)
 refine done_ (by decide+kernel) ?_;clear hHeld
 go_wp2_with fail
 have HB2:=ak (below_drew HBc.out);have d1:w1.drew.cell? ⟨z,1,none⟩=some vz:=(blk_cell BZ2.out 1).trans rfl;have d2:w1.drew.cell? ⟨y,1,none⟩=some vy:=(blk_cell BY2.out 1).trans rfl;refine sta (fun w'=>w'.cell? ⟨z,1,none⟩=some vz∧w'.cell? ⟨y,1,none⟩=some vy) [16] ⟨d1,d2⟩ (fun hHeld=>?_);repeat(first|refine pu 0 ?_|refine tk 0 hHeld ?_)
 refine cl Tryz.func77 #[vz,vy,vz] ?_
 refine(HQ.out _ HB2.out).mono ?_;rintro e w2 ⟨v',r',rfl,hR,hN,hC⟩;obtain⟨A',c',rfl⟩:=hR.slice;refine⟨_,rfl,?_⟩;have hC0:=(Chg.of rz HB2.out).trans hC (.inl rfl);have Z2:=ak (HZ1.out w2 hC0);have Y2:=ak (HY1.out w2 hC0);have H2:=ak (HF.out w2 _ r' hR (New.trans (b:=w) (.inl rfl) (by first|exact hN|exact New.trans (.inl rfl) hN HB2.out.size) (Nat.le_refl _)) hC0);generalize (L64.lim (b.natAbs-a0.natAbs)).length=l at*;clear HF hR hN hC hC0 HQ HZ1 HY1 d1 d2;refine⟨⟨(blk_cell Z2.out 1).trans rfl,(blk_cell Y2.out 1).trans rfl⟩,fun hHeld=>?_⟩;repeat(first|refine pu 0 ?_|refine tk 0 hHeld ?_)
 obtain⟨f0,zf0,f1,zf1⟩:=rf2 Z2.out;refine la (fun K hK=>?_);go_simp;refine hK.out _ _ ?_;clear hK K hHeld;refine done_ (by decide+kernel) ?_;clear f0 f1 zf0 zf1;have Z3:=ak (blk_put (cs':=#[.bool ba,.slice A' l c']) Z2.out 1 (.slice A' l c') rfl);have Y3:=ak (blk_far (p:=⟨z,1,none⟩) Y2.out hne (.slice A' l c'));generalize w2.setCell ⟨z,1,none⟩ (.slice A' l c')=w3 at*;obtain⟨z0,zz0,z1,zz1⟩:=rf2 Z3.out;rcases Nat.eq_zero_or_pos l with hl|hl
 ·obtain⟨hs1,hs2⟩:=H2.out.2 hl;have H3:=ak (And.intro hs1 hs2);have c1:decide ((l:Int)>0)=false:=decide_eq_false (by omega);have c2:decide (0<l)=false:=decide_eq_false (by omega);clear hs1 hs2 hl H2
  go_wp2_with fail
  go_ret
  exact⟨rfl,H3.out⟩
 ·obtain⟨hs1,hs2⟩:=H2.out.1 hl;have H3:=ak (And.intro hs1 hs2);have c1:decide ((l:Int)>0)=true:=decide_eq_true (by omega);have c2:decide (0<l)=true:=decide_eq_true (by omega);clear hs1 hs2 hl H2
  go_wp2_with fail
  go_ret
  exact⟨rfl,H3.out⟩
theorem intAdd_is(base z y:Nat)(a0:Int)(s:Nat→Option Int)(w:World)(hS:St base w s)(hz:s z=some a0)(b:Int)(hy:Arg base w s y b)(hne:y≠z)(ha:(L64.lim a0.natAbs).length≤800)(hb8:(L64.lim b.natAbs).length≤800):
 Calls Tryz.prog 69 #[.pointer (some ⟨z,0,none⟩),.pointer (some ⟨z,0,none⟩),.pointer (some ⟨y,0,none⟩)] w fun e w'=>e= .returned (.pointer (some ⟨z,0,none⟩))∧St base w' (upd s z (a0+b))∧Below base w w':=by
 by_cases hs:decide (a0<0)=decide (b<0)
 ·exact intAdd_same base z y a0 s w hS hz b hy hne ha hb8 hs
 ·by_cases hle:b.natAbs≤a0.natAbs
  ·exact intAdd_ge base z y a0 s w hS hz b hy hne ha hb8 hs hle
  ·exact intAdd_lt base z y a0 s w hS hz b hy hne ha hb8 hs (by omega)
set_option maxRecDepth 100000 in
set_option maxHeartbeats 1000000 in
theorem intSub_same(base z y:Nat)(a0:Int)(s:Nat→Option Int)(w:World)(hS:St base w s)(hz:s z=some a0)(b:Int)(hy:Arg base w s y b)(hne:y≠z)(ha:(L64.lim a0.natAbs).length≤800)(hb8:(L64.lim b.natAbs).length≤800)(hs:decide (a0<0)≠decide (b<0)):
 Calls Tryz.prog 65 #[.pointer (some ⟨z,0,none⟩),.pointer (some ⟨z,0,none⟩),.pointer (some ⟨y,0,none⟩)] w fun e w'=>e= .returned (.pointer (some ⟨z,0,none⟩))∧St base w' (upd s z (a0-b))∧Below base w w':=by
 obtain⟨h0,own,hO⟩:=hS;obtain⟨hz1,hzb,vz,rz,hBz,hRz,hrz⟩:=hO z a0 hz;have BZ:=ak hBz;obtain⟨vy,ry,hBy,hRy,hHy⟩:=hO.arg hrz hy;have BY:=ak hBy;have HQ:=ak (fun w1 (hb1:Below w.heap.size w w1)=>natAdd_is vz vz vy rz rz ry a0.natAbs b.natAbs w1 (hRz.below hb1).dst (hRz.below hb1).opd (hRy.below hb1) (by omega) (by omega));have HZ1:=ak (fun w2 (hC:Chg rz w w2)=>Num.head hBz hz1 hrz hC);have HY1:=ak hHy;have e:(a0-b).natAbs=a0.natAbs+b.natAbs:=by
  by_cases h1:a0<0<;>by_cases h2:b<0<;>simp[h1,h2]at hs<;>omega
 obtain⟨hp1,hp2⟩:=sgn_fin (b:=decide (a0<0)) e (fun hn=>by
  by_cases h1:a0<0<;>by_cases h2:b<0<;>simp[h1,h2]at hs⊢ <;>omega)
 have HF:=ak (fun w2 v' r' (hR:Row w2 v' r' (L64.lim (a0.natAbs+b.natAbs))) (hN:New w rz r') (hC:Chg rz w w2)=>And.intro (fun hl=>StO.put2 (n:=a0-b) h0 hO hz1 hzb hBz hrz hC (by rw[e];exact hR) hN (hp1 hl)) (fun hl=>StO.put2 (n:=a0-b) h0 hO hz1 hzb hBz hrz hC (by rw[e];exact hR) hN (hp2 hl)));have hq1:(decide (a0<0)==decide (b<0))=false:=by
  by_cases h1:a0<0<;>by_cases h2:b<0<;>simp[h1,h2]at hs⊢
 have hq2:(decide (a0<0) != decide (b<0))=true:=by
  by_cases h1:a0<0<;>by_cases h2:b<0<;>simp[h1,h2]at hs⊢
 obtain⟨z0,zz0,z1,zz1⟩:=rf2 BZ.out;obtain⟨y0,zy0,y1,zy1⟩:=rf2 BY.out;clear hz hy ha hb8 hs hO hz1 hzb hBz hRz hrz h0 e hp1 hp2 hBy hRy hHy zz0 zz1 zy0 zy1;generalize decide (a0<0)=ba at*;generalize decide (b<0)=bb at*
 go_enter Tryz.func65,Tryz.ntmps65
 go_wp2_with fail
 go_region_held3 (fun w'=>w'.cell? ⟨z,0,none⟩=some (.bool ba)∧w'.cell? ⟨y,0,none⟩=some (.bool bb)) (first|exact⟨z0,y0⟩|go_keep) (fail)
 have BZ1:=ak (blk_drew BZ.out);have BY1:=ak (blk_drew BY.out);have HB1:=ak (below_drew (Below.refl w.heap.size w));clear z0 y0 z1 y1 BZ BY
 go_wp2_with fail
 have d1:w.drew.drew.cell? ⟨z,1,none⟩=some vz:=(blk_cell BZ1.out 1).trans rfl;have d2:w.drew.drew.cell? ⟨y,1,none⟩=some vy:=(blk_cell BY1.out 1).trans rfl;have HB2:=ak (below_drew HB1.out);refine sta (fun w'=>w'.cell? ⟨z,1,none⟩=some vz∧w'.cell? ⟨y,1,none⟩=some vy) [16] ⟨d1,d2⟩ (fun hHeld=>?_);repeat(first|refine pu 0 ?_|refine tk 0 hHeld ?_)
 refine cl Tryz.func80 #[vz,vz,vy] ?_
 refine(HQ.out _ HB2.out).mono ?_;rintro e w2 ⟨v',r',rfl,hR,hN,hC⟩;obtain⟨A',c',rfl⟩:=hR.slice;refine⟨_,rfl,?_⟩;have hC0:=(Chg.of rz HB2.out).trans hC (.inl rfl);have Z2:=ak (HZ1.out w2 hC0);have Y2:=ak (HY1.out w2 hC0);have H2:=ak (HF.out w2 _ r' hR (New.trans (b:=w) (.inl rfl) (by first|exact hN|exact New.trans (.inl rfl) hN HB2.out.size) (Nat.le_refl _)) hC0);generalize (L64.lim (a0.natAbs+b.natAbs)).length=l at*;clear HF hR hN hC hC0 HQ HZ1 HY1 d1 d2;refine⟨⟨(blk_cell Z2.out 1).trans rfl,(blk_cell Y2.out 1).trans rfl⟩,fun hHeld=>?_⟩;repeat(first|refine pu 0 ?_|refine tk 0 hHeld ?_)
 obtain⟨f0,zf0,f1,zf1⟩:=rf2 Z2.out;refine la (fun K hK=>?_);go_simp;refine hK.out _ _ ?_;clear hK K hHeld;refine done_ (by decide+kernel) ?_;clear f0 f1 zf0 zf1;have Z3:=ak (blk_put (cs':=#[.bool ba,.slice A' l c']) Z2.out 1 (.slice A' l c') rfl);have Y3:=ak (blk_far (p:=⟨z,1,none⟩) Y2.out hne (.slice A' l c'));generalize w2.setCell ⟨z,1,none⟩ (.slice A' l c')=w3 at*;obtain⟨z0,zz0,z1,zz1⟩:=rf2 Z3.out;rcases Nat.eq_zero_or_pos l with hl|hl
 ·obtain⟨hs1,hs2⟩:=H2.out.2 hl;have H3:=ak (And.intro hs1 hs2);have c1:decide ((l:Int)>0)=false:=decide_eq_false (by omega);have c2:decide (0<l)=false:=decide_eq_false (by omega);clear hs1 hs2 hl H2
  go_wp2_with fail
  go_ret
  exact⟨rfl,H3.out⟩
 ·obtain⟨hs1,hs2⟩:=H2.out.1 hl;have H3:=ak (And.intro hs1 hs2);have c1:decide ((l:Int)>0)=true:=decide_eq_true (by omega);have c2:decide (0<l)=true:=decide_eq_true (by omega);clear hs1 hs2 hl H2
  go_wp2_with fail
  go_ret
  exact⟨rfl,H3.out⟩
set_option maxRecDepth 100000 in
set_option maxHeartbeats 1000000 in
theorem intSub_ge(base z y:Nat)(a0:Int)(s:Nat→Option Int)(w:World)(hS:St base w s)(hz:s z=some a0)(b:Int)(hy:Arg base w s y b)(hne:y≠z)(ha:(L64.lim a0.natAbs).length≤800)(hb8:(L64.lim b.natAbs).length≤800)(hs:decide (a0<0)=decide (b<0))(hle:b.natAbs≤a0.natAbs):
 Calls Tryz.prog 65 #[.pointer (some ⟨z,0,none⟩),.pointer (some ⟨z,0,none⟩),.pointer (some ⟨y,0,none⟩)] w fun e w'=>e= .returned (.pointer (some ⟨z,0,none⟩))∧St base w' (upd s z (a0-b))∧Below base w w':=by
 obtain⟨h0,own,hO⟩:=hS;obtain⟨hz1,hzb,vz,rz,hBz,hRz,hrz⟩:=hO z a0 hz;have BZ:=ak hBz;obtain⟨vy,ry,hBy,hRy,hHy⟩:=hO.arg hrz hy;have BY:=ak hBy;have HQ:=ak (fun w1 (hb1:Below w.heap.size w w1)=>natSub_is vz vz vy rz rz ry a0.natAbs b.natAbs w1 (hRz.below hb1).dst (hRz.below hb1).opd (hRy.below hb1) (by omega) hle);have HCm:=ak (fun w1 (hb1:Below w.heap.size w w1)=>natCmp_is vz vy rz ry a0.natAbs b.natAbs w1 (hRz.below hb1).opd (hRy.below hb1) (by omega));have hcm:decide (cmpN a0.natAbs b.natAbs≥0)=true:=by
  unfold cmpN;rw[if_neg (by omega)];split<;>rfl
 generalize cmpN a0.natAbs b.natAbs=cm at*;have HZ1:=ak (fun w2 (hC:Chg rz w w2)=>Num.head hBz hz1 hrz hC);have HY1:=ak hHy;have e:(a0-b).natAbs=a0.natAbs-b.natAbs:=by
  by_cases h1:a0<0<;>by_cases h2:b<0<;>simp[h1,h2]at hs<;>omega
 obtain⟨hp1,hp2⟩:=sgn_fin (b:=decide (a0<0)) e (fun hn=>by
  by_cases h1:a0<0<;>by_cases h2:b<0<;>simp[h1,h2]at hs⊢ <;>omega)
 have HF:=ak (fun w2 v' r' (hR:Row w2 v' r' (L64.lim (a0.natAbs-b.natAbs))) (hN:New w rz r') (hC:Chg rz w w2)=>And.intro (fun hl=>StO.put2 (n:=a0-b) h0 hO hz1 hzb hBz hrz hC (by rw[e];exact hR) hN (hp1 hl)) (fun hl=>StO.put2 (n:=a0-b) h0 hO hz1 hzb hBz hrz hC (by rw[e];exact hR) hN (hp2 hl)));have hq1:(decide (a0<0)==decide (b<0))=true:=by
  by_cases h1:a0<0<;>by_cases h2:b<0<;>simp[h1,h2]at hs⊢
 have hq2:(decide (a0<0) != decide (b<0))=false:=by
  by_cases h1:a0<0<;>by_cases h2:b<0<;>simp[h1,h2]at hs⊢
 obtain⟨z0,zz0,z1,zz1⟩:=rf2 BZ.out;obtain⟨y0,zy0,y1,zy1⟩:=rf2 BY.out;clear hz hy ha hb8 hs hle hO hz1 hzb hBz hRz hrz h0 e hp1 hp2 hBy hRy hHy zz0 zz1 zy0 zy1;generalize decide (a0<0)=ba at*;generalize decide (b<0)=bb at*
 go_enter Tryz.func65,Tryz.ntmps65
 go_wp2_with fail
 go_region_held3 (fun w'=>w'.cell? ⟨z,0,none⟩=some (.bool ba)∧w'.cell? ⟨y,0,none⟩=some (.bool bb)) (first|exact⟨z0,y0⟩|go_keep) (fail)
 have BZ1:=ak (blk_drew BZ.out);have BY1:=ak (blk_drew BY.out);have HB1:=ak (below_drew (Below.refl w.heap.size w));clear z0 y0 z1 y1 BZ BY
 go_wp2_with fail
 have d1:w.drew.drew.cell? ⟨z,1,none⟩=some vz:=(blk_cell BZ1.out 1).trans rfl;have d2:w.drew.drew.cell? ⟨y,1,none⟩=some vy:=(blk_cell BY1.out 1).trans rfl;refine sta (fun w'=>w'.cell? ⟨z,1,none⟩=some vz∧w'.cell? ⟨y,1,none⟩=some vy) [] ⟨d1,d2⟩ (fun hHeld=>?_);repeat(first|refine pu 0 ?_|refine tk 0 hHeld ?_)
 refine cl Tryz.func38 #[vz,vy] ?_
 refine(HCm.out _ (below_drew HB1.out)).mono ?_;rintro e w1 ⟨rfl,hb1⟩;refine⟨_,rfl,?_⟩;have BZ2:=ak (blk_below (blk_drew BZ1.out) hb1);have BY2:=ak (blk_below (blk_drew BY1.out) hb1);have HBc:=ak (below_step (below_drew HB1.out) hb1);clear hb1 d1 d2 HCm;refine⟨⟨(blk_cell BZ2.out 1).trans rfl,(blk_cell BY2.out 1).trans rfl⟩,fun hHeld=>?_⟩;repeat(first|refine pu 0 ?_|refine tk 0 hHeld ?_)
 refine done_ (by decide+kernel) ?_;clear hHeld
 go_wp2_with fail
 have HB2:=ak (below_drew HBc.out);have d1:w1.drew.cell? ⟨z,1,none⟩=some vz:=(blk_cell BZ2.out 1).trans rfl;have d2:w1.drew.cell? ⟨y,1,none⟩=some vy:=(blk_cell BY2.out 1).trans rfl;refine sta (fun w'=>w'.cell? ⟨z,1,none⟩=some vz∧w'.cell? ⟨y,1,none⟩=some vy) [16] ⟨d1,d2⟩ (fun hHeld=>?_);repeat(first|refine pu 0 ?_|refine tk 0 hHeld ?_)
 refine cl Tryz.func77 #[vz,vz,vy] ?_
 refine(HQ.out _ HB2.out).mono ?_;rintro e w2 ⟨v',r',rfl,hR,hN,hC⟩;obtain⟨A',c',rfl⟩:=hR.slice;refine⟨_,rfl,?_⟩;have hC0:=(Chg.of rz HB2.out).trans hC (.inl rfl);have Z2:=ak (HZ1.out w2 hC0);have Y2:=ak (HY1.out w2 hC0);have H2:=ak (HF.out w2 _ r' hR (New.trans (b:=w) (.inl rfl) (by first|exact hN|exact New.trans (.inl rfl) hN HB2.out.size) (Nat.le_refl _)) hC0);generalize (L64.lim (a0.natAbs-b.natAbs)).length=l at*;clear HF hR hN hC hC0 HQ HZ1 HY1 d1 d2;refine⟨⟨(blk_cell Z2.out 1).trans rfl,(blk_cell Y2.out 1).trans rfl⟩,fun hHeld=>?_⟩;repeat(first|refine pu 0 ?_|refine tk 0 hHeld ?_)
 obtain⟨f0,zf0,f1,zf1⟩:=rf2 Z2.out;refine la (fun K hK=>?_);go_simp;refine hK.out _ _ ?_;clear hK K hHeld;refine done_ (by decide+kernel) ?_;clear f0 f1 zf0 zf1;have Z3:=ak (blk_put (cs':=#[.bool ba,.slice A' l c']) Z2.out 1 (.slice A' l c') rfl);have Y3:=ak (blk_far (p:=⟨z,1,none⟩) Y2.out hne (.slice A' l c'));generalize w2.setCell ⟨z,1,none⟩ (.slice A' l c')=w3 at*;obtain⟨z0,zz0,z1,zz1⟩:=rf2 Z3.out;rcases Nat.eq_zero_or_pos l with hl|hl
 ·obtain⟨hs1,hs2⟩:=H2.out.2 hl;have H3:=ak (And.intro hs1 hs2);have c1:decide ((l:Int)>0)=false:=decide_eq_false (by omega);have c2:decide (0<l)=false:=decide_eq_false (by omega);clear hs1 hs2 hl H2
  go_wp2_with fail
  go_ret
  exact⟨rfl,H3.out⟩
 ·obtain⟨hs1,hs2⟩:=H2.out.1 hl;have H3:=ak (And.intro hs1 hs2);have c1:decide ((l:Int)>0)=true:=decide_eq_true (by omega);have c2:decide (0<l)=true:=decide_eq_true (by omega);clear hs1 hs2 hl H2
  go_wp2_with fail
  go_ret
  exact⟨rfl,H3.out⟩
set_option maxRecDepth 100000 in
set_option maxHeartbeats 1000000 in
theorem intSub_lt(base z y:Nat)(a0:Int)(s:Nat→Option Int)(w:World)(hS:St base w s)(hz:s z=some a0)(b:Int)(hy:Arg base w s y b)(hne:y≠z)(ha:(L64.lim a0.natAbs).length≤800)(hb8:(L64.lim b.natAbs).length≤800)(hs:decide (a0<0)=decide (b<0))(hle:a0.natAbs<b.natAbs):
 Calls Tryz.prog 65 #[.pointer (some ⟨z,0,none⟩),.pointer (some ⟨z,0,none⟩),.pointer (some ⟨y,0,none⟩)] w fun e w'=>e= .returned (.pointer (some ⟨z,0,none⟩))∧St base w' (upd s z (a0-b))∧Below base w w':=by
 obtain⟨h0,own,hO⟩:=hS;obtain⟨hz1,hzb,vz,rz,hBz,hRz,hrz⟩:=hO z a0 hz;have BZ:=ak hBz;obtain⟨vy,ry,hBy,hRy,hHy⟩:=hO.arg hrz hy;have BY:=ak hBy;have HQ:=ak (fun w1 (hb1:Below w.heap.size w w1)=>natSub_is vz vy vz rz ry rz b.natAbs a0.natAbs w1 (hRz.below hb1).dst (hRy.below hb1) (hRz.below hb1).opd (by omega) (by omega));have HCm:=ak (fun w1 (hb1:Below w.heap.size w w1)=>natCmp_is vz vy rz ry a0.natAbs b.natAbs w1 (hRz.below hb1).opd (hRy.below hb1) (by omega));have hcm:decide (cmpN a0.natAbs b.natAbs≥0)=false:=by
  unfold cmpN;rw[if_pos hle];rfl
 generalize cmpN a0.natAbs b.natAbs=cm at*;have HZ1:=ak (fun w2 (hC:Chg rz w w2)=>Num.head hBz hz1 hrz hC);have HY1:=ak hHy;have e:(a0-b).natAbs=b.natAbs-a0.natAbs:=by
  by_cases h1:a0<0<;>by_cases h2:b<0<;>simp[h1,h2]at hs<;>omega
 obtain⟨hp1,hp2⟩:=sgn_fin (b:=!decide (a0<0)) e (fun hn=>by
  by_cases h1:a0<0<;>by_cases h2:b<0<;>simp[h1,h2]at hs⊢ <;>omega)
 have HF:=ak (fun w2 v' r' (hR:Row w2 v' r' (L64.lim (b.natAbs-a0.natAbs))) (hN:New w rz r') (hC:Chg rz w w2)=>And.intro (fun hl=>StO.put2 (n:=a0-b) h0 hO hz1 hzb hBz hrz hC (by rw[e];exact hR) hN (hp1 hl)) (fun hl=>StO.put2 (n:=a0-b) h0 hO hz1 hzb hBz hrz hC (by rw[e];exact hR) hN (hp2 hl)));have hq1:(decide (a0<0)==decide (b<0))=true:=by
  by_cases h1:a0<0<;>by_cases h2:b<0<;>simp[h1,h2]at hs⊢
 have hq2:(decide (a0<0) != decide (b<0))=false:=by
  by_cases h1:a0<0<;>by_cases h2:b<0<;>simp[h1,h2]at hs⊢
 obtain⟨z0,zz0,z1,zz1⟩:=rf2 BZ.out;obtain⟨y0,zy0,y1,zy1⟩:=rf2 BY.out;clear hz hy ha hb8 hs hle hO hz1 hzb hBz hRz hrz h0 e hp1 hp2 hBy hRy hHy zz0 zz1 zy0 zy1;generalize decide (a0<0)=ba at*;generalize decide (b<0)=bb at*
 go_enter Tryz.func65,Tryz.ntmps65
 go_wp2_with fail
 go_region_held3 (fun w'=>w'.cell? ⟨z,0,none⟩=some (.bool ba)∧w'.cell? ⟨y,0,none⟩=some (.bool bb)) (first|exact⟨z0,y0⟩|go_keep) (fail)
 have BZ1:=ak (blk_drew BZ.out);have BY1:=ak (blk_drew BY.out);have HB1:=ak (below_drew (Below.refl w.heap.size w));clear z0 y0 z1 y1 BZ BY
 go_wp2_with fail
 have d1:w.drew.drew.cell? ⟨z,1,none⟩=some vz:=(blk_cell BZ1.out 1).trans rfl;have d2:w.drew.drew.cell? ⟨y,1,none⟩=some vy:=(blk_cell BY1.out 1).trans rfl;refine sta (fun w'=>w'.cell? ⟨z,1,none⟩=some vz∧w'.cell? ⟨y,1,none⟩=some vy) [] ⟨d1,d2⟩ (fun hHeld=>?_);repeat(first|refine pu 0 ?_|refine tk 0 hHeld ?_)
 refine cl Tryz.func38 #[vz,vy] ?_
 refine(HCm.out _ (below_drew HB1.out)).mono ?_;rintro e w1 ⟨rfl,hb1⟩;refine⟨_,rfl,?_⟩;have BZ2:=ak (blk_below (blk_drew BZ1.out) hb1);have BY2:=ak (blk_below (blk_drew BY1.out) hb1);have HBc:=ak (below_step (below_drew HB1.out) hb1);clear hb1 d1 d2 HCm;refine⟨⟨(blk_cell BZ2.out 1).trans rfl,(blk_cell BY2.out 1).trans rfl⟩,fun hHeld=>?_⟩;repeat(first|refine pu 0 ?_|refine tk 0 hHeld ?_)
 refine done_ (by decide+kernel) ?_;clear hHeld
 go_wp2_with fail
 have HB2:=ak (below_drew HBc.out);have d1:w1.drew.cell? ⟨z,1,none⟩=some vz:=(blk_cell BZ2.out 1).trans rfl;have d2:w1.drew.cell? ⟨y,1,none⟩=some vy:=(blk_cell BY2.out 1).trans rfl;refine sta (fun w'=>w'.cell? ⟨z,1,none⟩=some vz∧w'.cell? ⟨y,1,none⟩=some vy) [16] ⟨d1,d2⟩ (fun hHeld=>?_);repeat(first|refine pu 0 ?_|refine tk 0 hHeld ?_)
 refine cl Tryz.func77 #[vz,vy,vz] ?_
 refine(HQ.out _ HB2.out).mono ?_;rintro e w2 ⟨v',r',rfl,hR,hN,hC⟩;obtain⟨A',c',rfl⟩:=hR.slice;refine⟨_,rfl,?_⟩;have hC0:=(Chg.of rz HB2.out).trans hC (.inl rfl);have Z2:=ak (HZ1.out w2 hC0);have Y2:=ak (HY1.out w2 hC0);have H2:=ak (HF.out w2 _ r' hR (New.trans (b:=w) (.inl rfl) (by first|exact hN|exact New.trans (.inl rfl) hN HB2.out.size) (Nat.le_refl _)) hC0);generalize (L64.lim (b.natAbs-a0.natAbs)).length=l at*;clear HF hR hN hC hC0 HQ HZ1 HY1 d1 d2;refine⟨⟨(blk_cell Z2.out 1).trans rfl,(blk_cell Y2.out 1).trans rfl⟩,fun hHeld=>?_⟩;repeat(first|refine pu 0 ?_|refine tk 0 hHeld ?_)
 obtain⟨f0,zf0,f1,zf1⟩:=rf2 Z2.out;refine la (fun K hK=>?_);go_simp;refine hK.out _ _ ?_;clear hK K hHeld;refine done_ (by decide+kernel) ?_;clear f0 f1 zf0 zf1;have Z3:=ak (blk_put (cs':=#[.bool ba,.slice A' l c']) Z2.out 1 (.slice A' l c') rfl);have Y3:=ak (blk_far (p:=⟨z,1,none⟩) Y2.out hne (.slice A' l c'));generalize w2.setCell ⟨z,1,none⟩ (.slice A' l c')=w3 at*;obtain⟨z0,zz0,z1,zz1⟩:=rf2 Z3.out;rcases Nat.eq_zero_or_pos l with hl|hl
 ·obtain⟨hs1,hs2⟩:=H2.out.2 hl;have H3:=ak (And.intro hs1 hs2);have c1:decide ((l:Int)>0)=false:=decide_eq_false (by omega);have c2:decide (0<l)=false:=decide_eq_false (by omega);clear hs1 hs2 hl H2
  go_wp2_with fail
  go_ret
  exact⟨rfl,H3.out⟩
 ·obtain⟨hs1,hs2⟩:=H2.out.1 hl;have H3:=ak (And.intro hs1 hs2);have c1:decide ((l:Int)>0)=true:=decide_eq_true (by omega);have c2:decide (0<l)=true:=decide_eq_true (by omega);clear hs1 hs2 hl H2
  go_wp2_with fail
  go_ret
  exact⟨rfl,H3.out⟩
theorem intSub_is(base z y:Nat)(a0:Int)(s:Nat→Option Int)(w:World)(hS:St base w s)(hz:s z=some a0)(b:Int)(hy:Arg base w s y b)(hne:y≠z)(ha:(L64.lim a0.natAbs).length≤800)(hb8:(L64.lim b.natAbs).length≤800):
 Calls Tryz.prog 65 #[.pointer (some ⟨z,0,none⟩),.pointer (some ⟨z,0,none⟩),.pointer (some ⟨y,0,none⟩)] w fun e w'=>e= .returned (.pointer (some ⟨z,0,none⟩))∧St base w' (upd s z (a0-b))∧Below base w w':=by
 by_cases hs:decide (a0<0)=decide (b<0)
 ·by_cases hle:b.natAbs≤a0.natAbs
  ·exact intSub_ge base z y a0 s w hS hz b hy hne ha hb8 hs hle
  ·exact intSub_lt base z y a0 s w hS hz b hy hne ha hb8 hs (by omega)
 ·exact intSub_same base z y a0 s w hS hz b hy hne ha hb8 hs
end Go.Proofs.YthlakefgobflnaaGreatDoor.G
