/-
  CONTRACTS of Rescale and Quantize.
-/
import Derived.Test.YtcgdphciepdkiaaDoorGPad
import Derived.Test.YtcgdphciepdkiaaDoorGRound
import Derived.Deep.RegionHeld3
import Derived.Test.YtcgdphciepdkiaaDoorKeep
import Derived.Outline
namespace Go.Proofs.YtcgdphciepdkiaaDoor.G
open Go.RowKit Go.Proofs.YtcgdphciepdkiaaDoorW.PrintWords Go.Proofs.YtcgdphciepdkiaaDoorW.PrintLast Go.Proofs.YtcgdphciepdkiaaDoorW.PrintMore Go.Proofs.YtcgdphciepdkiaaDoor.S Go.Proofs.YtcgdphciepdkiaaDoor.Lm
attribute [local go_sem] max2_int min2_int max_two min_two max_three min_three max_four min_four
set_option linter.unusedVariables false
set_option linter.unusedSimpArgs false

theorem rescale_pad (neg : Bool) (s n k : Int) (r1 : Bool) (r2 r3 : Int) (w : World) (h0 : 0 ≤ s) (h9 : s ≤ 19) (hk : s < k)
    (hr : ∀ w0, Below w.heap.size w w0 → Calls Tryd.prog 75 #[decG neg s n, .int .i64 k] w0 fun e w' => e = .returned (decG r1 r2 r3) ∧ Below w0.heap.size w0 w') :
    Calls Tryd.prog 67 #[decG neg s n, .int .i64 k] w fun e w' => e = .returned (decG r1 r2 r3) ∧ Below w.heap.size w w' := by
  have HS := Aside0.mk (fun w => scale_is neg s n w h0 (by omega))
  have HB := Aside0.mk (Below.refl w.heap.size w)
  have HR := Aside0.mk hr
  clear hr h0 h9
  go_enter Tryd.func67, Tryd.ntmps67
  go_wp2_with (first | (((with_reducible refine gate_dst (N := 2) rfl ?_); refine box_event ?hg (N := 2) ?hd (cs := #[.bool neg, .int .i8 s, .int .u64 n]) (t := 64) ?hr ?_; (case hd => rfl); (case hg => rfl); (case hr => first | (go_simp; done) | (go_simp; rfl)); intro g1 hgq w1 hbx hb; have B1 := Aside0.mk hbx; have gq_g1 := Aside0.mk hgq; clear hbx hgq); have HB1 := Aside0.mk (below_step HB.out hb); have c0 := (blk_cell B1.out 0).trans rfl; have zc0 := blk_frozen B1.out 0; have c1 := (blk_cell B1.out 1).trans rfl; have zc1 := blk_frozen B1.out 1; have c2 := (blk_cell B1.out 2).trans rfl; have zc2 := blk_frozen B1.out 2; clear hb HB) | (((with_reducible refine gate_dst (N := 4) rfl ?_); refine box_event ?hg (N := 4) ?hd (cs := #[.bool false, .int .i8 0, .int .u64 0]) (t := 64) ?hr ?_; (case hd => rfl); (case hg => rfl); (case hr => first | (go_simp; done) | (go_simp; rfl)); intro g2 hgq w2 hbx hb; have B2 := Aside0.mk hbx; have gq_g2 := Aside0.mk hgq; clear hbx hgq); have HB2 := Aside0.mk (below_step HB1.out hb); have P2 := Aside0.mk (blk_below B1.out hb); have Q2 := B2; clear c0 c1 c2 zc0 zc1 zc2; have c0 := (blk_cell P2.out 0).trans rfl; have zc0 := blk_frozen P2.out 0; have c1 := (blk_cell P2.out 1).trans rfl; have zc1 := blk_frozen P2.out 1; have c2 := (blk_cell P2.out 2).trans rfl; have zc2 := blk_frozen P2.out 2; have q0 := (blk_cell Q2.out 0).trans rfl; have zq0 := blk_frozen Q2.out 0; have q1 := (blk_cell Q2.out 1).trans rfl; have zq1 := blk_frozen Q2.out 1; have q2 := (blk_cell Q2.out 2).trans rfl; have zq2 := blk_frozen Q2.out 2; have n1 : g2 ≠ g1 := (by have e1 := blk_lt B1.out; have e2 := gq_g2.out; omega); have n2 := n1.symm; have G2 := Aside0.mk (show w.heap.size ≤ g2 by rw [gq_g2.out]; exact HB1.out.size); clear hb HB1 B1 B2))
  refine (HS.out _).mono ?_
  rintro e w3 ⟨rfl, hb⟩
  have HB3 := Aside0.mk (below_step HB2.out hb)
  have P3 := Aside0.mk (blk_below P2.out hb)
  have Q3 := Aside0.mk (blk_below Q2.out hb)
  clear hb HB2 P2 Q2 c0 c1 c2 zc0 zc1 zc2 q0 q1 q2 zq0 zq1 zq2
  have c0 := (blk_cell P3.out 0).trans rfl; have zc0 := blk_frozen P3.out 0; have c1 := (blk_cell P3.out 1).trans rfl; have zc1 := blk_frozen P3.out 1; have c2 := (blk_cell P3.out 2).trans rfl; have zc2 := blk_frozen P3.out 2
  have q0 := (blk_cell Q3.out 0).trans rfl; have zq0 := blk_frozen Q3.out 0; have q1 := (blk_cell Q3.out 1).trans rfl; have zq1 := blk_frozen Q3.out 1; have q2 := (blk_cell Q3.out 2).trans rfl; have zq2 := blk_frozen Q3.out 2
  go_wp2_with fail
  refine (HR.out _ HB3.out).mono ?_
  rintro e w4 ⟨rfl, hb⟩
  have HB4 := Aside0.mk (below_step HB3.out hb)
  have P4 := Aside0.mk (blk_below P3.out hb)
  have Q4 := Aside0.mk (blk_below Q3.out hb)
  clear hb HB3 P3 Q3 c0 c1 c2 zc0 zc1 zc2 q0 q1 q2 zq0 zq1 zq2
  have c0 := (blk_cell P4.out 0).trans rfl; have zc0 := blk_frozen P4.out 0; have c1 := (blk_cell P4.out 1).trans rfl; have zc1 := blk_frozen P4.out 1; have c2 := (blk_cell P4.out 2).trans rfl; have zc2 := blk_frozen P4.out 2
  have q0 := (blk_cell Q4.out 0).trans rfl; have zq0 := blk_frozen Q4.out 0; have q1 := (blk_cell Q4.out 1).trans rfl; have zq1 := blk_frozen Q4.out 1; have q2 := (blk_cell Q4.out 2).trans rfl; have zq2 := blk_frozen Q4.out 2
  go_wp2_with fail
  exact bodyPost_ret (v := decG r1 r2 r3) (by simp [results, Tryd.results67, go_sem, q0, q1, q2]) rfl ⟨rfl, by repeat (first | (with_reducible first | exact HB4.out | apply below_alloc | apply pw_below_drewN | apply below_drew1 | refine below_set ?_ G2.out | refine below_set ?_ (Nat.le_refl _)) | exact HB4.out)⟩
theorem rescale_round (neg : Bool) (s n k : Int) (r1 : Bool) (r2 r3 : Int) (w : World) (h0 : 0 ≤ s) (h9 : s ≤ 19) (hk : k ≤ s)
    (hr : ∀ w0, Below w.heap.size w w0 → Calls Tryd.prog 38 #[decG neg s n, .int .i64 k] w0 fun e w' => e = .returned (decG r1 r2 r3) ∧ Below w0.heap.size w0 w') :
    Calls Tryd.prog 67 #[decG neg s n, .int .i64 k] w fun e w' => e = .returned (decG r1 r2 r3) ∧ Below w.heap.size w w' := by
  have HS := Aside0.mk (fun w => scale_is neg s n w h0 (by omega))
  have HB := Aside0.mk (Below.refl w.heap.size w)
  have HR := Aside0.mk hr
  clear hr h0 h9
  go_enter Tryd.func67, Tryd.ntmps67
  go_wp2_with (first | (((with_reducible refine gate_dst (N := 2) rfl ?_); refine box_event ?hg (N := 2) ?hd (cs := #[.bool neg, .int .i8 s, .int .u64 n]) (t := 64) ?hr ?_; (case hd => rfl); (case hg => rfl); (case hr => first | (go_simp; done) | (go_simp; rfl)); intro g1 hgq w1 hbx hb; have B1 := Aside0.mk hbx; have gq_g1 := Aside0.mk hgq; clear hbx hgq); have HB1 := Aside0.mk (below_step HB.out hb); have c0 := (blk_cell B1.out 0).trans rfl; have zc0 := blk_frozen B1.out 0; have c1 := (blk_cell B1.out 1).trans rfl; have zc1 := blk_frozen B1.out 1; have c2 := (blk_cell B1.out 2).trans rfl; have zc2 := blk_frozen B1.out 2; clear hb HB) | (((with_reducible refine gate_dst (N := 4) rfl ?_); refine box_event ?hg (N := 4) ?hd (cs := #[.bool false, .int .i8 0, .int .u64 0]) (t := 64) ?hr ?_; (case hd => rfl); (case hg => rfl); (case hr => first | (go_simp; done) | (go_simp; rfl)); intro g2 hgq w2 hbx hb; have B2 := Aside0.mk hbx; have gq_g2 := Aside0.mk hgq; clear hbx hgq); have HB2 := Aside0.mk (below_step HB1.out hb); have P2 := Aside0.mk (blk_below B1.out hb); have Q2 := B2; clear c0 c1 c2 zc0 zc1 zc2; have c0 := (blk_cell P2.out 0).trans rfl; have zc0 := blk_frozen P2.out 0; have c1 := (blk_cell P2.out 1).trans rfl; have zc1 := blk_frozen P2.out 1; have c2 := (blk_cell P2.out 2).trans rfl; have zc2 := blk_frozen P2.out 2; have q0 := (blk_cell Q2.out 0).trans rfl; have zq0 := blk_frozen Q2.out 0; have q1 := (blk_cell Q2.out 1).trans rfl; have zq1 := blk_frozen Q2.out 1; have q2 := (blk_cell Q2.out 2).trans rfl; have zq2 := blk_frozen Q2.out 2; have n1 : g2 ≠ g1 := (by have e1 := blk_lt B1.out; have e2 := gq_g2.out; omega); have n2 := n1.symm; have G2 := Aside0.mk (show w.heap.size ≤ g2 by rw [gq_g2.out]; exact HB1.out.size); clear hb HB1 B1 B2))
  refine (HS.out _).mono ?_
  rintro e w3 ⟨rfl, hb⟩
  have HB3 := Aside0.mk (below_step HB2.out hb)
  have P3 := Aside0.mk (blk_below P2.out hb)
  have Q3 := Aside0.mk (blk_below Q2.out hb)
  clear hb HB2 P2 Q2 c0 c1 c2 zc0 zc1 zc2 q0 q1 q2 zq0 zq1 zq2
  have c0 := (blk_cell P3.out 0).trans rfl; have zc0 := blk_frozen P3.out 0; have c1 := (blk_cell P3.out 1).trans rfl; have zc1 := blk_frozen P3.out 1; have c2 := (blk_cell P3.out 2).trans rfl; have zc2 := blk_frozen P3.out 2
  have q0 := (blk_cell Q3.out 0).trans rfl; have zq0 := blk_frozen Q3.out 0; have q1 := (blk_cell Q3.out 1).trans rfl; have zq1 := blk_frozen Q3.out 1; have q2 := (blk_cell Q3.out 2).trans rfl; have zq2 := blk_frozen Q3.out 2
  go_wp2_with fail
  refine (HR.out _ HB3.out).mono ?_
  rintro e w4 ⟨rfl, hb⟩
  have HB4 := Aside0.mk (below_step HB3.out hb)
  have P4 := Aside0.mk (blk_below P3.out hb)
  have Q4 := Aside0.mk (blk_below Q3.out hb)
  clear hb HB3 P3 Q3 c0 c1 c2 zc0 zc1 zc2 q0 q1 q2 zq0 zq1 zq2
  have c0 := (blk_cell P4.out 0).trans rfl; have zc0 := blk_frozen P4.out 0; have c1 := (blk_cell P4.out 1).trans rfl; have zc1 := blk_frozen P4.out 1; have c2 := (blk_cell P4.out 2).trans rfl; have zc2 := blk_frozen P4.out 2
  have q0 := (blk_cell Q4.out 0).trans rfl; have zq0 := blk_frozen Q4.out 0; have q1 := (blk_cell Q4.out 1).trans rfl; have zq1 := blk_frozen Q4.out 1; have q2 := (blk_cell Q4.out 2).trans rfl; have zq2 := blk_frozen Q4.out 2
  go_wp2_with fail
  exact bodyPost_ret (v := decG r1 r2 r3) (by simp [results, Tryd.results67, go_sem, q0, q1, q2]) rfl ⟨rfl, by repeat (first | (with_reducible first | exact HB4.out | apply below_alloc | apply pw_below_drewN | apply below_drew1 | refine below_set ?_ G2.out | refine below_set ?_ (Nat.le_refl _)) | exact HB4.out)⟩
theorem quantize_is (neg : Bool) (s n : Int) (neg2 : Bool) (s2 n2 : Int) (r1 : Bool) (r2 r3 : Int) (w : World) (h0 : 0 ≤ s2) (h9 : s2 ≤ 19)
    (hr : ∀ w0, Below w.heap.size w w0 → Calls Tryd.prog 67 #[decG neg s n, .int .i64 s2] w0 fun e w' => e = .returned (decG r1 r2 r3) ∧ Below w0.heap.size w0 w') :
    Calls Tryd.prog 49 #[decG neg s n, decG neg2 s2 n2] w fun e w' => e = .returned (decG r1 r2 r3) ∧ Below w.heap.size w w' := by
  have HS := Aside0.mk (fun w => scale_is neg2 s2 n2 w h0 (by omega))
  have HB := Aside0.mk (Below.refl w.heap.size w)
  have HR := Aside0.mk hr
  clear hr h0 h9
  go_enter Tryd.func49, Tryd.ntmps49
  go_wp2_with (first | (((with_reducible refine gate_dst (N := 2) rfl ?_); refine box_event ?hg (N := 2) ?hd (cs := #[.bool neg, .int .i8 s, .int .u64 n]) (t := 64) ?hr ?_; (case hd => rfl); (case hg => rfl); (case hr => first | (go_simp; done) | (go_simp; rfl)); intro g1 hgq w1 hbx hb; have B1 := Aside0.mk hbx; have gq_g1 := Aside0.mk hgq; clear hbx hgq); have HB1 := Aside0.mk (below_step HB.out hb); clear hb HB) | (((with_reducible refine gate_dst (N := 3) rfl ?_); refine box_event ?hg (N := 3) ?hd (cs := #[.bool neg2, .int .i8 s2, .int .u64 n2]) (t := 64) ?hr ?_; (case hd => rfl); (case hg => rfl); (case hr => first | (go_simp; done) | (go_simp; rfl)); intro g2 hgq w2 hbx hb; have B2 := Aside0.mk hbx; have gq_g2 := Aside0.mk hgq; clear hbx hgq); have HB2 := Aside0.mk (below_step HB1.out hb); have P2 := Aside0.mk (blk_below B1.out hb); clear hb HB1 B1) | (((with_reducible refine gate_dst (N := 4) rfl ?_); refine box_event ?hg (N := 4) ?hd (cs := #[.bool false, .int .i8 0, .int .u64 0]) (t := 64) ?hr ?_; (case hd => rfl); (case hg => rfl); (case hr => first | (go_simp; done) | (go_simp; rfl)); intro g3 hgq w3 hbx hb; have B3 := Aside0.mk hbx; have gq_g3 := Aside0.mk hgq; clear hbx hgq); have HB3 := Aside0.mk (below_step HB2.out hb); have P3 := Aside0.mk (blk_below P2.out hb); have Q3 := Aside0.mk (blk_below B2.out hb); have c0 := (blk_cell P3.out 0).trans rfl; have zc0 := blk_frozen P3.out 0; have c1 := (blk_cell P3.out 1).trans rfl; have zc1 := blk_frozen P3.out 1; have c2 := (blk_cell P3.out 2).trans rfl; have zc2 := blk_frozen P3.out 2; have q0 := (blk_cell Q3.out 0).trans rfl; have zq0 := blk_frozen Q3.out 0; have q1 := (blk_cell Q3.out 1).trans rfl; have zq1 := blk_frozen Q3.out 1; have q2 := (blk_cell Q3.out 2).trans rfl; have zq2 := blk_frozen Q3.out 2; have G3 := Aside0.mk (show w.heap.size ≤ g3 by rw [gq_g3.out]; exact HB2.out.size); have m1 : g3 ≠ g1 := (by have e1 := blk_lt P2.out; have e2 := gq_g3.out; omega); have m2 := m1.symm; have m3 : g3 ≠ g2 := (by have e1 := blk_lt B2.out; have e2 := gq_g3.out; omega); have m4 := m3.symm; clear hb HB2 P2 B2))
  go_region_held3 (fun w' => w'.cell? ⟨g1, 0, none⟩ = some (.bool neg) ∧ w'.cell? ⟨g1, 1, none⟩ = some (.int .i8 s) ∧ w'.cell? ⟨g1, 2, none⟩ = some (.int .u64 n) ∧ w'.cell? ⟨g2, 0, none⟩ = some (.bool neg2) ∧ w'.cell? ⟨g2, 1, none⟩ = some (.int .i8 s2) ∧ w'.cell? ⟨g2, 2, none⟩ = some (.int .u64 n2))
    (first | exact ⟨c0, c1, c2, q0, q1, q2⟩ | go_keep | (refine keep6 hb2 ?_; assumption) | (refine keep6 hb ?_; assumption))
    (first | (go_at_call 57; refine (HS.out _).mono ?_; rintro e w4 ⟨rfl, hb⟩) | (go_at_call 67; refine (HR.out _ (below_step (by repeat (first | (with_reducible first | exact HB3.out | apply below_alloc | apply pw_below_drewN | apply below_drew1 | refine below_set ?_ (Nat.le_refl _)) | exact HB3.out)) hb)).mono ?_; rintro e w5 ⟨rfl, hb2⟩; have R5 := Aside0.mk (blk_below (blk_below (blk_drew B3.out) hb) hb2); have t0 := (blk_cell R5.out 0).trans rfl; have zt0 := blk_frozen R5.out 0; have t1 := (blk_cell R5.out 1).trans rfl; have zt1 := blk_frozen R5.out 1; have t2 := (blk_cell R5.out 2).trans rfl; have zt2 := blk_frozen R5.out 2))
  have HB5 := Aside0.mk (below_step (below_step (below_drew HB3.out) hb) hb2)
  go_wp2
  exact bodyPost_ret (v := decG r1 r2 r3) (by simp [results, Tryd.results49, go_sem, t0, t1, t2]) rfl ⟨rfl, by repeat (first | (with_reducible first | exact HB5.out | apply below_alloc | apply pw_below_drewN | apply below_drew1 | refine below_set ?_ G3.out | refine below_set ?_ (Nat.le_refl _)) | exact HB5.out)⟩
end Go.Proofs.YtcgdphciepdkiaaDoor.G
