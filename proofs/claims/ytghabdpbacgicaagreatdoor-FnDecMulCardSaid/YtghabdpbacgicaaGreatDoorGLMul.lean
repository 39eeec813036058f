/-
  THE WALK of the law of DecMul.
-/
import Derived.Test.YtghabdpbacgicaaGreatDoorGDu
import Derived.Test.YtghabdpbacgicaaGreatDoorGArT
import Derived.Test.YtghabdpbacgicaaGreatDoorSZ
import Derived.Test.YtghabdpbacgicaaGreatDoorSFMl
import Derived.Test.YtghabdpbacgicaaGreatDoorSSay
import Derived.Outline
namespace Go.Proofs.YtghabdpbacgicaaGreatDoor.G
open Go.RowKit Go.Proofs.YtghabdpbacgicaaGreatDoorW.PrintWords Go.Proofs.YtghabdpbacgicaaGreatDoorW.PrintLast Go.Proofs.YtghabdpbacgicaaGreatDoorW.PrintMore Go.Proofs.YtghabdpbacgicaaGreatDoor.S
set_option linter.unusedVariables false
set_option linter.unusedSimpArgs false

theorem lawMul_long1 (s1 s2 : ByteArray) (e1 e2 : Int) (w : World) (h : laws_zzFits1.f s1 e1 = some false) :
    Calls Tryz.prog 3 #[datD s1 e1, datD s2 e2] w fun e' w' => e' = .returned (.bool true) ∧ Below w.heap.size w w' := by
  have HF := Aside0.mk (fun w0 => laws_zzFits1.calls s1 e1 false w0 h)
  have HB := Aside0.mk (Below.refl w.heap.size w)
  clear h
  go_enter Tryz.func3, Tryz.ntmps3
  go_wp2_with (first | (((with_reducible refine gate_dst (N := 2) rfl ?_); refine box_event ?hg (N := 2) ?hd (cs := #[.string s1, .int .i64 e1]) (t := 23) ?hr ?_; (case hd => rfl); (case hg => rfl); (case hr => first | (go_simp; done) | (go_simp; rfl)); intro g1 hgq w1 hbx hb; have B1 := Aside0.mk hbx; have gq_g1 := Aside0.mk hgq; clear hbx hgq); have HB1 := Aside0.mk (below_step HB.out hb); have c0 := (blk_cell B1.out 0).trans rfl; have zc0 := blk_frozen B1.out 0; have c1 := (blk_cell B1.out 1).trans rfl; have zc1 := blk_frozen B1.out 1; clear hb HB) | (((with_reducible refine gate_dst (N := 3) rfl ?_); refine box_event ?hg (N := 3) ?hd (cs := #[.string s2, .int .i64 e2]) (t := 23) ?hr ?_; (case hd => rfl); (case hg => rfl); (case hr => first | (go_simp; done) | (go_simp; rfl)); intro g2 hgq w2 hbx hb; have B2 := Aside0.mk hbx; have gq_g2 := Aside0.mk hgq; clear hbx hgq); have HB2 := Aside0.mk (below_step HB1.out hb); have P2 := Aside0.mk (blk_below B1.out hb); clear c0 c1 zc0 zc1; have c0 := (blk_cell P2.out 0).trans rfl; have zc0 := blk_frozen P2.out 0; have c1 := (blk_cell P2.out 1).trans rfl; have zc1 := blk_frozen P2.out 1; clear hb HB1 B1))
  refine (HF.out _).mono ?_
  rintro e' w3 ⟨rfl, hb⟩
  have HB3 := Aside0.mk (below_step HB2.out hb)
  go_wp2_with fail
  go_ret
  exact ⟨rfl, HB3.out⟩
theorem lawMul_long2 (s1 s2 : ByteArray) (e1 e2 : Int) (w : World) (h : laws_zzFits1.f s1 e1 = some true) (h' : laws_zzFits1.f s2 e2 = some false) :
    Calls Tryz.prog 3 #[datD s1 e1, datD s2 e2] w fun e' w' => e' = .returned (.bool true) ∧ Below w.heap.size w w' := by
  have HF := Aside0.mk (fun w0 => laws_zzFits1.calls s1 e1 true w0 h)
  have HF' := Aside0.mk (fun w0 => laws_zzFits1.calls s2 e2 false w0 h')
  have HB := Aside0.mk (Below.refl w.heap.size w)
  clear h h'
  go_enter Tryz.func3, Tryz.ntmps3
  go_wp2_with (first | (((with_reducible refine gate_dst (N := 2) rfl ?_); refine box_event ?hg (N := 2) ?hd (cs := #[.string s1, .int .i64 e1]) (t := 23) ?hr ?_; (case hd => rfl); (case hg => rfl); (case hr => first | (go_simp; done) | (go_simp; rfl)); intro g1 hgq w1 hbx hb; have B1 := Aside0.mk hbx; have gq_g1 := Aside0.mk hgq; clear hbx hgq); have HB1 := Aside0.mk (below_step HB.out hb); have c0 := (blk_cell B1.out 0).trans rfl; have zc0 := blk_frozen B1.out 0; have c1 := (blk_cell B1.out 1).trans rfl; have zc1 := blk_frozen B1.out 1; clear hb HB) | (((with_reducible refine gate_dst (N := 3) rfl ?_); refine box_event ?hg (N := 3) ?hd (cs := #[.string s2, .int .i64 e2]) (t := 23) ?hr ?_; (case hd => rfl); (case hg => rfl); (case hr => first | (go_simp; done) | (go_simp; rfl)); intro g2 hgq w2 hbx hb; have B2 := Aside0.mk hbx; have gq_g2 := Aside0.mk hgq; clear hbx hgq); have HB2 := Aside0.mk (below_step HB1.out hb); have P2 := Aside0.mk (blk_below B1.out hb); clear c0 c1 zc0 zc1; have c0 := (blk_cell P2.out 0).trans rfl; have zc0 := blk_frozen P2.out 0; have c1 := (blk_cell P2.out 1).trans rfl; have zc1 := blk_frozen P2.out 1; clear hb HB1 B1))
  refine (HF.out _).mono ?_
  rintro e' w3 ⟨rfl, hb⟩
  have HB3 := Aside0.mk (below_step HB2.out hb)
  have B3 := Aside0.mk (blk_below B2.out hb)
  clear hb HB2 B2 c0 c1 zc0 zc1
  have c0 := (blk_cell B3.out 0).trans rfl; have zc0 := blk_frozen B3.out 0; have c1 := (blk_cell B3.out 1).trans rfl; have zc1 := blk_frozen B3.out 1
  go_wp2_with fail
  refine (HF'.out _).mono ?_
  rintro e' w4 ⟨rfl, hb⟩
  have HB4 := Aside0.mk (below_step HB3.out hb)
  go_wp2_with fail
  go_ret
  exact ⟨rfl, HB4.out⟩
set_option maxRecDepth 100000 in
set_option maxHeartbeats 2000000 in
theorem lawMul_yes (k k2 k3 : Nat) (s1 s2 t1 t2 r : ByteArray) (e1 e2 x1 x2 E : Int) (b1 b2 b3 : Bool) (n1 d1 n2 d2 n3 d3 : List Int) (w : World) (h : laws_zzFits1.f s1 e1 = some true) (h' : laws_zzFits1.f s2 e2 = some true)
    (h1 : spec_DecFit.f k s1 e1 60 60 = some (t1, x1)) (h2 : spec_DecFit.f k s2 e2 60 60 = some (t2, x2)) (h3 : spec_FracOf.f k t1 x1 = some (b1, n1, d1)) (h4 : spec_FracOf.f k t2 x2 = some (b2, n2, d2))
    (hm : ∀ w0, Below w.heap.size w w0 → Calls Tryz.prog 6 #[datD t1 x1, datD t2 x2] w0 fun e' w' => e' = .returned (.tuple #[datD r E, .int .i64 0]) ∧ Below w0.heap.size w0 w')
    (hq : spec_Frac_Mul.f k2 b1 n1 d1 b2 n2 d2 = some (b3, n3, d3)) (hs : spec_Says.f k3 r E b3 n3 d3 = some true) :
    Calls Tryz.prog 3 #[datD s1 e1, datD s2 e2] w fun e' w' => e' = .returned (.bool true) ∧ Below w.heap.size w w' := by
  have HF := Aside0.mk (fun w0 => laws_zzFits1.calls s1 e1 true w0 h)
  have HF' := Aside0.mk (fun w0 => laws_zzFits1.calls s2 e2 true w0 h')
  have HA := Aside0.mk (fun w0 => arTwo_is k s1 s2 t1 t2 e1 e2 x1 x2 b1 b2 n1 d1 n2 d2 w0 h1 h2 h3 h4)
  have HM := Aside0.mk hm
  have HQ := Aside0.mk hq
  have HSy := Aside0.mk hs
  have HB := Aside0.mk (Below.refl w.heap.size w)
  clear h h' h1 h2 h3 h4 hm hq hs
  go_enter Tryz.func3, Tryz.ntmps3
  go_wp2_with (first | (((with_reducible refine gate_dst (N := 2) rfl ?_); refine box_event ?hg (N := 2) ?hd (cs := #[.string s1, .int .i64 e1]) (t := 23) ?hr ?_; (case hd => rfl); (case hg => rfl); (case hr => first | (go_simp; done) | (go_simp; rfl)); intro g1 hgq w1 hbx hb; have B1 := Aside0.mk hbx; have gq_g1 := Aside0.mk hgq; clear hbx hgq); have HB1 := Aside0.mk (below_step HB.out hb); have c0 := (blk_cell B1.out 0).trans rfl; have zc0 := blk_frozen B1.out 0; have c1 := (blk_cell B1.out 1).trans rfl; have zc1 := blk_frozen B1.out 1; have G1 := Aside0.mk (show w.heap.size ≤ g1 by rw [gq_g1.out]; exact Nat.le_refl _); clear hb HB) | (((with_reducible refine gate_dst (N := 3) rfl ?_); refine box_event ?hg (N := 3) ?hd (cs := #[.string s2, .int .i64 e2]) (t := 23) ?hr ?_; (case hd => rfl); (case hg => rfl); (case hr => first | (go_simp; done) | (go_simp; rfl)); intro g2 hgq w2 hbx hb; have B2 := Aside0.mk hbx; have gq_g2 := Aside0.mk hgq; clear hbx hgq); have HB2 := Aside0.mk (below_step HB1.out hb); have P2 := Aside0.mk (blk_below B1.out hb); clear c0 c1 zc0 zc1; have c0 := (blk_cell P2.out 0).trans rfl; have zc0 := blk_frozen P2.out 0; have c1 := (blk_cell P2.out 1).trans rfl; have zc1 := blk_frozen P2.out 1; have m1 : g2 ≠ g1 := (by have e1 := blk_lt B1.out; have e2 := gq_g2.out; omega); have m2 := m1.symm; have G2 := Aside0.mk (show w.heap.size ≤ g2 by rw [gq_g2.out]; exact HB1.out.size); clear hb HB1 B1))
  refine (HF.out _).mono ?_
  rintro e' w3 ⟨rfl, hb⟩
  have HB3 := Aside0.mk (below_step HB2.out hb)
  have P3 := Aside0.mk (blk_below P2.out hb)
  have B3 := Aside0.mk (blk_below B2.out hb)
  clear hb HB2 B2 P2 c0 c1 zc0 zc1 HF
  have c0 := (blk_cell B3.out 0).trans rfl; have zc0 := blk_frozen B3.out 0; have c1 := (blk_cell B3.out 1).trans rfl; have zc1 := blk_frozen B3.out 1
  go_wp2_with fail
  refine (HF'.out _).mono ?_
  rintro e' w4 ⟨rfl, hb⟩
  have HB4 := Aside0.mk (below_step HB3.out hb)
  have P4 := Aside0.mk (blk_below P3.out hb)
  have B4 := Aside0.mk (blk_below B3.out hb)
  clear hb HB3 B3 P3 c0 c1 zc0 zc1 HF'
  have c0 := (blk_cell P4.out 0).trans rfl; have zc0 := blk_frozen P4.out 0; have c1 := (blk_cell P4.out 1).trans rfl; have zc1 := blk_frozen P4.out 1
  have q0 := (blk_cell B4.out 0).trans rfl; have zq0 := blk_frozen B4.out 0; have q1 := (blk_cell B4.out 1).trans rfl; have zq1 := blk_frozen B4.out 1
  go_wp2_with fail
  refine (HA.out _).mono ?_
  rintro e' w5 ⟨A1, A2, A3, A4, c1', c2', c3', c4', rfl, hl, hV1, hV2, hV3, hV4, hb⟩
  have GL1 := Aside0.mk (blk_lt P4.out)
  have GL2 := Aside0.mk (blk_lt B4.out)
  have HB5 := Aside0.mk (below_step HB4.out hb)
  have HSz := Aside0.mk HB5.out.size
  have P5 := Aside0.mk (blk_below P4.out hb)
  have B5 := Aside0.mk (blk_below B4.out hb)
  have HL := Aside0.mk hl
  have HV := Aside0.mk (And.intro (Kd.V_bound hV1) (And.intro (Kd.V_bound hV2) (And.intro (Kd.V_bound hV3) (Kd.V_bound hV4))))
  clear hb hl hV1 hV2 hV3 hV4 HB4 B4 P4 HA c0 c1 zc0 zc1 q0 q1 zq0 zq1
  have c0 := (blk_cell P5.out 0).trans rfl; have zc0 := blk_frozen P5.out 0; have c1 := (blk_cell P5.out 1).trans rfl; have zc1 := blk_frozen P5.out 1
  have q0 := (blk_cell B5.out 0).trans rfl; have zq0 := blk_frozen B5.out 0; have q1 := (blk_cell B5.out 1).trans rfl; have zq1 := blk_frozen B5.out 1
  go_wp2_with (first | (((with_reducible refine gate_dst (N := 5) rfl ?_); refine box_event ?hg (N := 5) ?hd (cs := #[.bool false, .slice none 0 0, .slice none 0 0]) (t := 30) ?hr ?_; (case hd => rfl); (case hg => rfl); (case hr => first | (go_simp; done) | (go_simp; rfl)); intro g3 hgq w6 hbx hb; have B6 := Aside0.mk hbx; have gq_g3 := Aside0.mk hgq; clear hbx hgq); have HB6 := Aside0.mk (below_step HB5.out hb); have P6 := Aside0.mk (blk_below P5.out hb); have Q6 := Aside0.mk (blk_below B5.out hb); have H6 := Aside0.mk hb; have m3 : g3 ≠ g1 := (by have e1 := blk_lt P5.out; have e2 := gq_g3.out; omega); have m4 := m3.symm; have m5 : g3 ≠ g2 := (by have e1 := blk_lt B5.out; have e2 := gq_g3.out; omega); have m6 := m5.symm; have G3 := Aside0.mk (show w5.heap.size ≤ g3 by rw [gq_g3.out]; exact Nat.le_refl _); clear hb HB5 P5 B5 c0 c1 zc0 zc1 q0 q1 zq0 zq1) | (((with_reducible refine gate_dst (N := 6) rfl ?_); refine box_event ?hg (N := 6) ?hd (cs := #[.bool false, .slice none 0 0, .slice none 0 0]) (t := 30) ?hr ?_; (case hd => rfl); (case hg => rfl); (case hr => first | (go_simp; done) | (go_simp; rfl)); intro g4 hgq w7 hbx hb; have B7 := Aside0.mk hbx; have gq_g4 := Aside0.mk hgq; clear hbx hgq); have HB7 := Aside0.mk (below_step HB6.out hb); have P7 := Aside0.mk (blk_below P6.out hb); have Q7 := Aside0.mk (blk_below Q6.out hb); have X7 := Aside0.mk (blk_below B6.out hb); have H7 := Aside0.mk (below_step H6.out hb); have m7 : g4 ≠ g1 := (by have e1 := blk_lt P6.out; have e2 := gq_g4.out; omega); have m8 := m7.symm; have m9 : g4 ≠ g2 := (by have e1 := blk_lt Q6.out; have e2 := gq_g4.out; omega); have m10 := m9.symm; have m11 : g4 ≠ g3 := (by have e1 := blk_lt B6.out; have e2 := gq_g4.out; omega); have m12 := m11.symm; have G4 := Aside0.mk (show w5.heap.size ≤ g4 by rw [gq_g4.out]; exact H6.out.size); have c0 := (blk_cell P7.out 0).trans rfl; have zc0 := blk_frozen P7.out 0; have c1 := (blk_cell P7.out 1).trans rfl; have zc1 := blk_frozen P7.out 1; have q0 := (blk_cell Q7.out 0).trans rfl; have zq0 := blk_frozen Q7.out 0; have q1 := (blk_cell Q7.out 1).trans rfl; have zq1 := blk_frozen Q7.out 1; have u0 := (blk_cell X7.out 0).trans rfl; have zu0 := blk_frozen X7.out 0; have u1 := (blk_cell X7.out 1).trans rfl; have zu1 := blk_frozen X7.out 1; have u2 := (blk_cell X7.out 2).trans rfl; have zu2 := blk_frozen X7.out 2; have y0 := (blk_cell B7.out 0).trans rfl; have zy0 := blk_frozen B7.out 0; have y1 := (blk_cell B7.out 1).trans rfl; have zy1 := blk_frozen B7.out 1; have y2 := (blk_cell B7.out 2).trans rfl; have zy2 := blk_frozen B7.out 2; clear hb HB6 P6 Q6 B6 H6))
  have G3b := Aside0.mk (Nat.le_trans HSz.out G3.out)
  have G4b := Aside0.mk (Nat.le_trans HSz.out G4.out)
  have X8 := Aside0.mk (blk_far (p := ⟨g4, 2, none⟩) (blk_far (p := ⟨g4, 1, none⟩) (blk_far (p := ⟨g4, 0, none⟩) (blk_put (cs' := #[.bool b1, .slice A1 n1.length c1', .slice A2 d1.length c2']) (blk_put (cs' := #[.bool b1, .slice A1 n1.length c1', .slice none 0 0]) (blk_put (cs' := #[.bool b1, .slice none 0 0, .slice none 0 0]) (blk_far (p := ⟨g2, 1, none⟩) (blk_far (p := ⟨g2, 0, none⟩) (blk_far (p := ⟨g1, 1, none⟩) (blk_far (p := ⟨g1, 0, none⟩) (X7.out) m3 (.string t1)) m3 (.int .i64 x1)) m5 (.string t2)) m5 (.int .i64 x2)) 0 (.bool b1) rfl) 1 (.slice A1 n1.length c1') rfl) 2 (.slice A2 d1.length c2') rfl) m12 (.bool b2)) m12 (.slice A3 n2.length c3')) m12 (.slice A4 d2.length c4'))
  have Y8 := Aside0.mk (blk_put (cs' := #[.bool b2, .slice A3 n2.length c3', .slice A4 d2.length c4']) (blk_put (cs' := #[.bool b2, .slice A3 n2.length c3', .slice none 0 0]) (blk_put (cs' := #[.bool b2, .slice none 0 0, .slice none 0 0]) (blk_far (p := ⟨g3, 2, none⟩) (blk_far (p := ⟨g3, 1, none⟩) (blk_far (p := ⟨g3, 0, none⟩) (blk_far (p := ⟨g2, 1, none⟩) (blk_far (p := ⟨g2, 0, none⟩) (blk_far (p := ⟨g1, 1, none⟩) (blk_far (p := ⟨g1, 0, none⟩) (B7.out) m7 (.string t1)) m7 (.int .i64 x1)) m9 (.string t2)) m9 (.int .i64 x2)) m11 (.bool b1)) m11 (.slice A1 n1.length c1')) m11 (.slice A2 d1.length c2')) 0 (.bool b2) rfl) 1 (.slice A3 n2.length c3') rfl) 2 (.slice A4 d2.length c4') rfl)
  have HB8 := Aside0.mk (below_set (j := 2) (v := .slice A4 d2.length c4') (below_set (j := 1) (v := .slice A3 n2.length c3') (below_set (j := 0) (v := .bool b2) (below_set (j := 2) (v := .slice A2 d1.length c2') (below_set (j := 1) (v := .slice A1 n1.length c1') (below_set (j := 0) (v := .bool b1) (below_set (j := 1) (v := .int .i64 x2) (below_set (j := 0) (v := .string t2) (below_set (j := 1) (v := .int .i64 x1) (below_set (j := 0) (v := .string t1) (HB7.out) G1.out) G1.out) G2.out) G2.out) G3b.out) G3b.out) G3b.out) G4b.out) G4b.out) G4b.out)
  have VF : ∀ (A : Option Addr) (c : Nat) (l : List Int), Kd.V (Kd.int .u32) 76 w5 0 (fun k_ => w4.heap.size ≤ k_ ∧ k_ < w5.heap.size) (.slice A l.length c) l → Kd.V (Kd.int .u32) 76 ((((((((((w7.setCell ⟨g1, 0, none⟩ (.string t1)).setCell ⟨g1, 1, none⟩ (.int .i64 x1)).setCell ⟨g2, 0, none⟩ (.string t2)).setCell ⟨g2, 1, none⟩ (.int .i64 x2)).setCell ⟨g3, 0, none⟩ (.bool b1)).setCell ⟨g3, 1, none⟩ (.slice A1 n1.length c1')).setCell ⟨g3, 2, none⟩ (.slice A2 d1.length c2')).setCell ⟨g4, 0, none⟩ (.bool b2)).setCell ⟨g4, 1, none⟩ (.slice A3 n2.length c3')).setCell ⟨g4, 2, none⟩ (.slice A4 d2.length c4')) 0 (fun k_ => w4.heap.size ≤ k_ ∧ k_ < w5.heap.size) (.slice A l.length c) l := fun A c l h => Kd.V_far (p := ⟨g4, 2, none⟩) (Kd.V_far (p := ⟨g4, 1, none⟩) (Kd.V_far (p := ⟨g4, 0, none⟩) (Kd.V_far (p := ⟨g3, 2, none⟩) (Kd.V_far (p := ⟨g3, 1, none⟩) (Kd.V_far (p := ⟨g3, 0, none⟩) (Kd.V_far (p := ⟨g2, 1, none⟩) (Kd.V_far (p := ⟨g2, 0, none⟩) (Kd.V_far (p := ⟨g1, 1, none⟩) (Kd.V_far (p := ⟨g1, 0, none⟩) (Kd.V_below h H7.out) (fun k_ hk_ => by have h1_ := hk_; have := GL1.out; show k_ ≠ g1; omega) (.string t1)) (fun k_ hk_ => by have h1_ := hk_; have := GL1.out; show k_ ≠ g1; omega) (.int .i64 x1)) (fun k_ hk_ => by have h1_ := hk_; have := GL2.out; show k_ ≠ g2; omega) (.string t2)) (fun k_ hk_ => by have h1_ := hk_; have := GL2.out; show k_ ≠ g2; omega) (.int .i64 x2)) (fun k_ hk_ => by have h1_ := hk_; have := G3.out; show k_ ≠ g3; omega) (.bool b1)) (fun k_ hk_ => by have h1_ := hk_; have := G3.out; show k_ ≠ g3; omega) (.slice A1 n1.length c1')) (fun k_ hk_ => by have h1_ := hk_; have := G3.out; show k_ ≠ g3; omega) (.slice A2 d1.length c2')) (fun k_ hk_ => by have h1_ := hk_; have := G4.out; show k_ ≠ g4; omega) (.bool b2)) (fun k_ hk_ => by have h1_ := hk_; have := G4.out; show k_ ≠ g4; omega) (.slice A3 n2.length c3')) (fun k_ hk_ => by have h1_ := hk_; have := G4.out; show k_ ≠ g4; omega) (.slice A4 d2.length c4')
  have HC8 := Aside0.mk (And.intro (Kd.V_reads' (VF _ _ _ HV.out.1)).2.2 (And.intro (Kd.V_reads' (VF _ _ _ HV.out.2.1)).2.2 (And.intro (Kd.V_reads' (VF _ _ _ HV.out.2.2.1)).2.2 (Kd.V_reads' (VF _ _ _ HV.out.2.2.2)).2.2)))
  clear VF
  generalize ((((((((((w7.setCell ⟨g1, 0, none⟩ (.string t1)).setCell ⟨g1, 1, none⟩ (.int .i64 x1)).setCell ⟨g2, 0, none⟩ (.string t2)).setCell ⟨g2, 1, none⟩ (.int .i64 x2)).setCell ⟨g3, 0, none⟩ (.bool b1)).setCell ⟨g3, 1, none⟩ (.slice A1 n1.length c1')).setCell ⟨g3, 2, none⟩ (.slice A2 d1.length c2')).setCell ⟨g4, 0, none⟩ (.bool b2)).setCell ⟨g4, 1, none⟩ (.slice A3 n2.length c3')).setCell ⟨g4, 2, none⟩ (.slice A4 d2.length c4')) = w8 at *
  clear X7 B7 HB7 H7 P7 Q7 HV c0 c1 zc0 zc1 q0 q1 zq0 zq1 u0 u1 u2 zu0 zu1 zu2 y0 y1 y2 zy0 zy1 zy2 m1 m2 m3 m4 m5 m6 m7 m8 m9 m10 G3 G4
  refine (HM.out _ HB8.out).mono ?_
  rintro e' w9 ⟨rfl, hb⟩
  have HB9 := Aside0.mk (below_step HB8.out hb)
  have X9 := Aside0.mk (blk_below X8.out hb)
  have Y9 := Aside0.mk (blk_below Y8.out hb)
  have HC9 := Aside0.mk (And.intro (Kd.C_below HC8.out.1 hb) (And.intro (Kd.C_below HC8.out.2.1 hb) (And.intro (Kd.C_below HC8.out.2.2.1 hb) (Kd.C_below HC8.out.2.2.2 hb))))
  clear hb HB8 X8 Y8 HC8 HM
  go_wp2_with (((with_reducible refine gate_dst (N := 7) rfl ?_); refine box_event ?hg (N := 7) ?hd (cs := #[.string ⟨#[]⟩, .int .i64 0]) (t := 23) ?hr ?_; (case hd => rfl); (case hg => rfl); (case hr => first | (go_simp; done) | (go_simp; rfl)); intro g5 hgq w10 hbx hb; have B10 := Aside0.mk hbx; have gq_g5 := Aside0.mk hgq; clear hbx hgq); have HB10 := Aside0.mk (below_step HB9.out hb); have X10 := Aside0.mk (blk_below X9.out hb); have Y10 := Aside0.mk (blk_below Y9.out hb); have HC10 := Aside0.mk (And.intro (Kd.C_below HC9.out.1 hb) (And.intro (Kd.C_below HC9.out.2.1 hb) (And.intro (Kd.C_below HC9.out.2.2.1 hb) (Kd.C_below HC9.out.2.2.2 hb)))); have H10 := Aside0.mk hb; have k1 : g3 ≠ g5 := (by have e1 := blk_lt X9.out; have e2 := gq_g5.out; omega); have k2 : g4 ≠ g5 := (by have e1 := blk_lt Y9.out; have e2 := gq_g5.out; omega); have G5 := Aside0.mk (show w9.heap.size ≤ g5 by rw [gq_g5.out]; exact Nat.le_refl _); have G5b := Aside0.mk (show w.heap.size ≤ g5 by rw [gq_g5.out]; exact HB9.out.size); have q0 := (blk_cell B10.out 0).trans rfl; have zq0 := blk_frozen B10.out 0; have q1 := (blk_cell B10.out 1).trans rfl; have zq1 := blk_frozen B10.out 1; clear hb HB9 X9 Y9)
  have hb11 := below_set (j := 1) (v := .int .i64 E) (below_set (j := 0) (v := .string r) H10.out G5.out) G5.out
  have HB11 := Aside0.mk (below_set (j := 1) (v := .int .i64 E) (below_set (j := 0) (v := .string r) HB10.out G5b.out) G5b.out)
  have X11 := Aside0.mk (blk_far (p := ⟨g5, 1, none⟩) (blk_far (p := ⟨g5, 0, none⟩) X10.out k1 (.string r)) k1 (.int .i64 E))
  have Y11 := Aside0.mk (blk_far (p := ⟨g5, 1, none⟩) (blk_far (p := ⟨g5, 0, none⟩) Y10.out k2 (.string r)) k2 (.int .i64 E))
  have B11 := Aside0.mk (blk_put (cs' := #[.string r, .int .i64 E]) (blk_put (cs' := #[.string r, .int .i64 0]) B10.out 0 (.string r) rfl) 1 (.int .i64 E) rfl)
  have HC11 := Aside0.mk (And.intro (Kd.C_below HC9.out.1 hb11) (And.intro (Kd.C_below HC9.out.2.1 hb11) (And.intro (Kd.C_below HC9.out.2.2.1 hb11) (Kd.C_below HC9.out.2.2.2 hb11))))
  generalize ((w10.setCell ⟨g5, 0, none⟩ (.string r)).setCell ⟨g5, 1, none⟩ (.int .i64 E)) = w11 at *
  clear hb11 HB10 X10 Y10 B10 HC10 HC9 H10 q0 q1 zq0 zq1 k1 k2
  have HFm := Aside0.mk (fun w0 (hb : Below w11.heap.size w11 w0) => spec_Frac_Mul.calls k2 b1 A1 c1' n1 A2 c2' d1 b2 A3 c3' n2 A4 c4' d2 b3 n3 d3 w0 (Kd.C_below HC11.out.1 hb) HL.out.1 (Kd.C_below HC11.out.2.1 hb) HL.out.2.1 (Kd.C_below HC11.out.2.2.1 hb) HL.out.2.2.1 (Kd.C_below HC11.out.2.2.2 hb) HL.out.2.2.2 HQ.out)
  have SK := Aside0.mk (fun (w' : World) (hb : Below w11.heap.size w11 w') => (show (w'.cell? ⟨g5, 0, none⟩ = some (.string r) ∧ w'.cell? ⟨g5, 1, none⟩ = some (.int .i64 E) ∧ w'.cell? ⟨g3, 0, none⟩ = some (.bool b1) ∧ w'.cell? ⟨g3, 1, none⟩ = some (.slice A1 n1.length c1') ∧ w'.cell? ⟨g3, 2, none⟩ = some (.slice A2 d1.length c2') ∧ w'.cell? ⟨g4, 0, none⟩ = some (.bool b2) ∧ w'.cell? ⟨g4, 1, none⟩ = some (.slice A3 n2.length c3') ∧ w'.cell? ⟨g4, 2, none⟩ = some (.slice A4 d2.length c4')) from ⟨(blk_cell (blk_below B11.out hb) 0).trans rfl, (blk_cell (blk_below B11.out hb) 1).trans rfl, (blk_cell (blk_below X11.out hb) 0).trans rfl, (blk_cell (blk_below X11.out hb) 1).trans rfl, (blk_cell (blk_below X11.out hb) 2).trans rfl, (blk_cell (blk_below Y11.out hb) 0).trans rfl, (blk_cell (blk_below Y11.out hb) 1).trans rfl, (blk_cell (blk_below Y11.out hb) 2).trans rfl⟩))
  go_wp2_with fail
  go_region_held3 (fun w' => w'.cell? ⟨g5, 0, none⟩ = some (.string r) ∧ w'.cell? ⟨g5, 1, none⟩ = some (.int .i64 E) ∧ w'.cell? ⟨g3, 0, none⟩ = some (.bool b1) ∧ w'.cell? ⟨g3, 1, none⟩ = some (.slice A1 n1.length c1') ∧ w'.cell? ⟨g3, 2, none⟩ = some (.slice A2 d1.length c2') ∧ w'.cell? ⟨g4, 0, none⟩ = some (.bool b2) ∧ w'.cell? ⟨g4, 1, none⟩ = some (.slice A3 n2.length c3') ∧ w'.cell? ⟨g4, 2, none⟩ = some (.slice A4 d2.length c4')) (first | exact SK.out _ (below_drew (Below.refl _ _)) | exact SK.out _ hh13 | exact SK.out _ hh12 | go_keep)
    (first | (go_at_call 8; refine (HFm.out _ (below_drew (Below.refl _ _))).mono ?_; rintro e' w12 ⟨u1, u2, rfl, hV1, hV2, hb⟩; obtain ⟨A5, c5', rfl⟩ := Kd.V_slice hV1; obtain ⟨A6, c6', rfl⟩ := Kd.V_slice hV2; have hh12 := below_step (below_drew (Below.refl w11.heap.size w11)) hb; have HSs := Aside0.mk (fun w0 (hb' : Below w12.heap.size w12 w0) => spec_Says.calls k3 r E b3 A5 c5' n3 A6 c6' d3 true w0 (Kd.C_below (Kd.V_reads' hV1).2.2 hb') (Kd.V_reads' hV1).2.1 (Kd.C_below (Kd.V_reads' hV2).2.2 hb') (Kd.V_reads' hV2).2.1 HSy.out); clear hV1 hV2 hb) | (go_at_call 7; refine (HSs.out _ (Below.refl _ _)).mono ?_; rintro e' w13 ⟨rfl, hb⟩; have hh13 := below_step hh12 hb; clear hb))
  go_wp2_with fail
  have HF13 := Aside0.mk (below_step HB11.out hh13)
  go_ret
  exact ⟨rfl, HF13.out⟩
end Go.Proofs.YtghabdpbacgicaaGreatDoor.G
