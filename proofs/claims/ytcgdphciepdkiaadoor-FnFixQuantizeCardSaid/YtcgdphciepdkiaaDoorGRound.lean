/-
  CONTRACTS of Round and Floor.
-/
import Derived.Test.YtcgdphciepdkiaaDoorGFixed
import Derived.Test.YtcgdphciepdkiaaDoorGRsh
import Derived.Outline
namespace Go.Proofs.YtcgdphciepdkiaaDoor.G
open Go.RowKit Go.Proofs.YtcgdphciepdkiaaDoorW.PrintWords Go.Proofs.YtcgdphciepdkiaaDoorW.PrintLast Go.Proofs.YtcgdphciepdkiaaDoorW.PrintMore Go.Proofs.YtcgdphciepdkiaaDoor.S Go.Proofs.YtcgdphciepdkiaaDoor.Lm
attribute [local go_sem] max2_int min2_int max_two min_two max_three min_three max_four min_four
set_option linter.unusedVariables false
set_option linter.unusedSimpArgs false

theorem scale_is (neg : Bool) (s c : Int) (w : World) (h0 : 0 ≤ s) (h9 : s ≤ 127) : Calls Tryd.prog 57 #[decG neg s c] w fun e w' => e = .returned (.int .i64 s) ∧ Below w.heap.size w w' :=
  govalues_Decimal_Scale.calls neg s c _ w (by unfold govalues_Decimal_Scale.f; rw [Lm.w64 (by omega) (by omega)])
theorem isNeg_is (neg : Bool) (s c : Int) (w : World) : Calls Tryd.prog 55 #[decG neg s c] w fun e w' => e = .returned (.bool neg) ∧ Below w.heap.size w w' :=
  govalues_Decimal_IsNeg.calls neg s c _ w (by unfold govalues_Decimal_IsNeg.f; rfl)
theorem rshHE_at (c s k : Nat) (w : World) (hc : c < 10 ^ 19) (h9 : s ≤ 19) (hk : k < s) (ht : Tab w) :
    Calls Tryd.prog 58 #[.int .u64 (c : Int), .int .i64 (wrap64 ((s : Int) - (k : Int)))] w fun e w' => e = .returned (.int .u64 ((heN c (10 ^ (s - k)) : Nat) : Int)) ∧ Below w.heap.size w w' := by
  rw [show wrap64 ((s : Int) - (k : Int)) = ((s - k : Nat) : Int) by rw [show (s : Int) - (k : Int) = ((s - k : Nat) : Int) by omega]; exact Lm.w64 (by omega) (by omega)]
  exact (rshHE_is c (s - k) w hc (by omega) (by omega) ht).mono (fun e w' h => ⟨h.1, h.2.below⟩)
theorem rshUp_at (c s k : Nat) (w : World) (hc : c < 10 ^ 19) (h9 : s ≤ 19) (hk : k < s) (ht : Tab w) :
    Calls Tryd.prog 65 #[.int .u64 (c : Int), .int .i64 (wrap64 ((s : Int) - (k : Int)))] w fun e w' => e = .returned (.int .u64 ((upN c (10 ^ (s - k)) : Nat) : Int)) ∧ Below w.heap.size w w' := by
  rw [show wrap64 ((s : Int) - (k : Int)) = ((s - k : Nat) : Int) by rw [show (s : Int) - (k : Int) = ((s - k : Nat) : Int) by omega]; exact Lm.w64 (by omega) (by omega)]
  exact (rshUp_is c (s - k) w hc (by omega) (by omega) ht).mono (fun e w' h => ⟨h.1, h.2.below⟩)
theorem rshDown_at (c s k : Nat) (w : World) (hc : c < 10 ^ 19) (h9 : s ≤ 19) (hk : k < s) (ht : Tab w) :
    Calls Tryd.prog 66 #[.int .u64 (c : Int), .int .i64 (wrap64 ((s : Int) - (k : Int)))] w fun e w' => e = .returned (.int .u64 ((c / 10 ^ (s - k) : Nat) : Int)) ∧ Below w.heap.size w w' := by
  rw [show wrap64 ((s : Int) - (k : Int)) = ((s - k : Nat) : Int) by rw [show (s : Int) - (k : Int) = ((s - k : Nat) : Int) by omega]; exact Lm.w64 (by omega) (by omega)]
  exact (rshDown_is c (s - k) w hc (by omega) (by omega) ht).mono (fun e w' h => ⟨h.1, h.2.below⟩)
theorem round_keep (neg : Bool) (s c k : Int) (w : World) (h0 : 0 ≤ s) (h9 : s ≤ 19) (hk0 : 0 ≤ k) (hk : s ≤ k) :
    Calls Tryd.prog 38 #[decG neg s c, .int .i64 k] w fun e w' => e = .returned (decG neg s c) ∧ Below w.heap.size w w' := by
  have HB := Aside0.mk (Below.refl w.heap.size w)
  have HS := Aside0.mk (fun w => scale_is neg s c w h0 (by omega))
  clear h0 h9
  go_enter Tryd.func38, Tryd.ntmps38
  go_wp2_with (first | (((with_reducible refine gate_dst (N := 2) rfl ?_); refine box_event ?hg (N := 2) ?hd (cs := #[.bool neg, .int .i8 s, .int .u64 c]) (t := 64) ?hr ?_; (case hd => rfl); (case hg => rfl); (case hr => first | (go_simp; done) | (go_simp; rfl)); intro g1 hgq w1 hbx hb; have B1 := Aside0.mk hbx; have gq_g1 := Aside0.mk hgq; clear hbx hgq); have HB1 := Aside0.mk (below_step HB.out hb); have c0 := (blk_cell B1.out 0).trans rfl; have zc0 := blk_frozen B1.out 0; have c1 := (blk_cell B1.out 1).trans rfl; have zc1 := blk_frozen B1.out 1; have c2 := (blk_cell B1.out 2).trans rfl; have zc2 := blk_frozen B1.out 2; clear hb HB) | (((with_reducible refine gate_dst (N := 4) rfl ?_); refine box_event ?hg (N := 4) ?hd (cs := #[.bool false, .int .i8 0, .int .u64 0]) (t := 64) ?hr ?_; (case hd => rfl); (case hg => rfl); (case hr => first | (go_simp; done) | (go_simp; rfl)); intro g2 hgq w2 hbx hb; have B2 := Aside0.mk hbx; have gq_g2 := Aside0.mk hgq; clear hbx hgq); have HB2 := Aside0.mk (below_step HB1.out hb); have P2 := Aside0.mk (blk_below B1.out hb); have Q2 := B2; clear c0 c1 c2 zc0 zc1 zc2; have c0 := (blk_cell P2.out 0).trans rfl; have zc0 := blk_frozen P2.out 0; have c1 := (blk_cell P2.out 1).trans rfl; have zc1 := blk_frozen P2.out 1; have c2 := (blk_cell P2.out 2).trans rfl; have zc2 := blk_frozen P2.out 2; have q0 := (blk_cell Q2.out 0).trans rfl; have zq0 := blk_frozen Q2.out 0; have q1 := (blk_cell Q2.out 1).trans rfl; have zq1 := blk_frozen Q2.out 1; have q2 := (blk_cell Q2.out 2).trans rfl; have zq2 := blk_frozen Q2.out 2; have n1 : g2 ≠ g1 := (by have e1 := blk_lt B1.out; have e2 := gq_g2.out; omega); have n2 := n1.symm; have G2 := Aside0.mk (show w.heap.size ≤ g2 by rw [gq_g2.out]; exact HB1.out.size); clear hb HB1 B1 B2))
  refine (HS.out _).mono ?_
  rintro e w3 ⟨rfl, hb⟩
  have HB3 := Aside0.mk (below_step HB2.out hb)
  have P3 := Aside0.mk (blk_below P2.out hb)
  have Q3 := Aside0.mk (blk_below Q2.out hb)
  clear hb HB2 P2 Q2 c0 c1 c2 zc0 zc1 zc2 q0 q1 q2 zq0 zq1 zq2
  have c0 := (blk_cell P3.out 0).trans rfl; have zc0 := blk_frozen P3.out 0; have c1 := (blk_cell P3.out 1).trans rfl; have zc1 := blk_frozen P3.out 1; have c2 := (blk_cell P3.out 2).trans rfl; have zc2 := blk_frozen P3.out 2
  have q0 := (blk_cell Q3.out 0).trans rfl; have zq0 := blk_frozen Q3.out 0; have q1 := (blk_cell Q3.out 1).trans rfl; have zq1 := blk_frozen Q3.out 1; have q2 := (blk_cell Q3.out 2).trans rfl; have zq2 := blk_frozen Q3.out 2
  go_wp2
  exact bodyPost_ret (v := decG neg s c) (by simp [results, Tryd.results38, go_sem, q0, q1, q2]) rfl ⟨rfl, by repeat (first | (with_reducible first | exact HB3.out | apply below_alloc | apply pw_below_drewN | apply below_drew1 | refine below_set ?_ G2.out | refine below_set ?_ (Nat.le_refl _)) | exact HB3.out)⟩
set_option maxHeartbeats 4000000 in
theorem round_down (neg : Bool) (s c k : Nat) (w : World) (h9 : s ≤ 19) (hk : k < s) (m : Nat) (hr : ∀ w0, Below w.heap.size w w0 → Calls Tryd.prog 58 #[.int .u64 (c : Int), .int .i64 (wrap64 ((s : Int) - (k : Int)))] w0 fun e w' => e = .returned (.int .u64 (m : Int)) ∧ Below w0.heap.size w0 w') :
    Calls Tryd.prog 38 #[decG neg s c, .int .i64 k] w fun e w' => e = .returned (decOf neg (m : Nat) k) ∧ Below w.heap.size w w' := by
  have hk0 : (0 : Int) ≤ (k : Int) := Int.natCast_nonneg k
  have HB := Aside0.mk (Below.refl w.heap.size w)
  have HS := Aside0.mk (fun w => scale_is neg s c w (Int.natCast_nonneg s) (by omega))
  have HT := Aside0.mk hr
  have HI := Aside0.mk (show (k : Int) ≤ 127 by omega)
  clear hr h9
  go_enter Tryd.func38, Tryd.ntmps38
  go_wp2_with (first | (((with_reducible refine gate_dst (N := 2) rfl ?_); refine box_event ?hg (N := 2) ?hd (cs := #[.bool neg, .int .i8 (s : Int), .int .u64 (c : Int)]) (t := 64) ?hr ?_; (case hd => rfl); (case hg => rfl); (case hr => first | (go_simp; done) | (go_simp; rfl)); intro g1 hgq w1 hbx hb; have B1 := Aside0.mk hbx; have gq_g1 := Aside0.mk hgq; clear hbx hgq); have HB1 := Aside0.mk (below_step HB.out hb); have c0 := (blk_cell B1.out 0).trans rfl; have zc0 := blk_frozen B1.out 0; have c1 := (blk_cell B1.out 1).trans rfl; have zc1 := blk_frozen B1.out 1; have c2 := (blk_cell B1.out 2).trans rfl; have zc2 := blk_frozen B1.out 2; clear hb HB) | (((with_reducible refine gate_dst (N := 4) rfl ?_); refine box_event ?hg (N := 4) ?hd (cs := #[.bool false, .int .i8 0, .int .u64 0]) (t := 64) ?hr ?_; (case hd => rfl); (case hg => rfl); (case hr => first | (go_simp; done) | (go_simp; rfl)); intro g2 hgq w2 hbx hb; have B2 := Aside0.mk hbx; have gq_g2 := Aside0.mk hgq; clear hbx hgq); have HB2 := Aside0.mk (below_step HB1.out hb); have P2 := Aside0.mk (blk_below B1.out hb); have Q2 := B2; clear c0 c1 c2 zc0 zc1 zc2; have c0 := (blk_cell P2.out 0).trans rfl; have zc0 := blk_frozen P2.out 0; have c1 := (blk_cell P2.out 1).trans rfl; have zc1 := blk_frozen P2.out 1; have c2 := (blk_cell P2.out 2).trans rfl; have zc2 := blk_frozen P2.out 2; have q0 := (blk_cell Q2.out 0).trans rfl; have zq0 := blk_frozen Q2.out 0; have q1 := (blk_cell Q2.out 1).trans rfl; have zq1 := blk_frozen Q2.out 1; have q2 := (blk_cell Q2.out 2).trans rfl; have zq2 := blk_frozen Q2.out 2; have n1 : g2 ≠ g1 := (by have e1 := blk_lt B1.out; have e2 := gq_g2.out; omega); have n2 := n1.symm; have G2 := Aside0.mk (show w.heap.size ≤ g2 by rw [gq_g2.out]; exact HB1.out.size); clear hb HB1 B1 B2))
  refine (HS.out _).mono ?_
  rintro e w3 ⟨rfl, hb⟩
  have HB3 := Aside0.mk (below_step HB2.out hb)
  have P3 := Aside0.mk (blk_below P2.out hb)
  have Q3 := Aside0.mk (blk_below Q2.out hb)
  clear hb HB2 P2 Q2 c0 c1 c2 zc0 zc1 zc2 q0 q1 q2 zq0 zq1 zq2
  have c0 := (blk_cell P3.out 0).trans rfl; have zc0 := blk_frozen P3.out 0; have c1 := (blk_cell P3.out 1).trans rfl; have zc1 := blk_frozen P3.out 1; have c2 := (blk_cell P3.out 2).trans rfl; have zc2 := blk_frozen P3.out 2
  have q0 := (blk_cell Q3.out 0).trans rfl; have zq0 := blk_frozen Q3.out 0; have q1 := (blk_cell Q3.out 1).trans rfl; have zq1 := blk_frozen Q3.out 1; have q2 := (blk_cell Q3.out 2).trans rfl; have zq2 := blk_frozen Q3.out 2
  go_wp2_with fail
  refine (HS.out _).mono ?_
  rintro e w4 ⟨rfl, hb⟩
  have HB4 := Aside0.mk (below_step HB3.out hb)
  have P4 := Aside0.mk (blk_below P3.out hb)
  have Q4 := Aside0.mk (blk_below Q3.out hb)
  clear hb HB3 P3 Q3 c0 c1 c2 zc0 zc1 zc2 q0 q1 q2 zq0 zq1 zq2
  have c0 := (blk_cell P4.out 0).trans rfl; have zc0 := blk_frozen P4.out 0; have c1 := (blk_cell P4.out 1).trans rfl; have zc1 := blk_frozen P4.out 1; have c2 := (blk_cell P4.out 2).trans rfl; have zc2 := blk_frozen P4.out 2
  have q0 := (blk_cell Q4.out 0).trans rfl; have zq0 := blk_frozen Q4.out 0; have q1 := (blk_cell Q4.out 1).trans rfl; have zq1 := blk_frozen Q4.out 1; have q2 := (blk_cell Q4.out 2).trans rfl; have zq2 := blk_frozen Q4.out 2
  go_wp2_with fail
  refine (HT.out _ HB4.out).mono ?_
  rintro e w5 ⟨rfl, hb⟩
  have HB5 := Aside0.mk (below_step HB4.out hb)
  have P5 := Aside0.mk (blk_below P4.out hb)
  have Q5 := Aside0.mk (blk_below Q4.out hb)
  clear hb HB4 P4 Q4 c0 c1 c2 zc0 zc1 zc2 q0 q1 q2 zq0 zq1 zq2
  have c0 := (blk_cell P5.out 0).trans rfl; have zc0 := blk_frozen P5.out 0; have c1 := (blk_cell P5.out 1).trans rfl; have zc1 := blk_frozen P5.out 1; have c2 := (blk_cell P5.out 2).trans rfl; have zc2 := blk_frozen P5.out 2
  have q0 := (blk_cell Q5.out 0).trans rfl; have zq0 := blk_frozen Q5.out 0; have q1 := (blk_cell Q5.out 1).trans rfl; have zq1 := blk_frozen Q5.out 1; have q2 := (blk_cell Q5.out 2).trans rfl; have zq2 := blk_frozen Q5.out 2
  go_wp2_with fail
  refine (isNeg_is neg s c _).mono ?_
  rintro e w6 ⟨rfl, hb⟩
  have HB6 := Aside0.mk (below_step HB5.out hb)
  have P6 := Aside0.mk (blk_below P5.out hb)
  have Q6 := Aside0.mk (blk_below Q5.out hb)
  clear hb HB5 P5 Q5 c0 c1 c2 zc0 zc1 zc2 q0 q1 q2 zq0 zq1 zq2
  have c0 := (blk_cell P6.out 0).trans rfl; have zc0 := blk_frozen P6.out 0; have c1 := (blk_cell P6.out 1).trans rfl; have zc1 := blk_frozen P6.out 1; have c2 := (blk_cell P6.out 2).trans rfl; have zc2 := blk_frozen P6.out 2
  have q0 := (blk_cell Q6.out 0).trans rfl; have zq0 := blk_frozen Q6.out 0; have q1 := (blk_cell Q6.out 1).trans rfl; have zq1 := blk_frozen Q6.out 1; have q2 := (blk_cell Q6.out 2).trans rfl; have zq2 := blk_frozen Q6.out 2
  go_wp2_with fail
  refine (newUnsafe_is neg ((m : Nat) : Int) k _ hk0 HI.out).mono ?_
  rintro e w7 ⟨rfl, hb⟩
  have HB7 := Aside0.mk (below_step HB6.out hb)
  have P7 := Aside0.mk (blk_below P6.out hb)
  have Q7 := Aside0.mk (blk_below Q6.out hb)
  clear hb HB6 P6 Q6 c0 c1 c2 zc0 zc1 zc2 q0 q1 q2 zq0 zq1 zq2
  have c0 := (blk_cell P7.out 0).trans rfl; have zc0 := blk_frozen P7.out 0; have c1 := (blk_cell P7.out 1).trans rfl; have zc1 := blk_frozen P7.out 1; have c2 := (blk_cell P7.out 2).trans rfl; have zc2 := blk_frozen P7.out 2
  have q0 := (blk_cell Q7.out 0).trans rfl; have zq0 := blk_frozen Q7.out 0; have q1 := (blk_cell Q7.out 1).trans rfl; have zq1 := blk_frozen Q7.out 1; have q2 := (blk_cell Q7.out 2).trans rfl; have zq2 := blk_frozen Q7.out 2
  go_wp2
  exact bodyPost_ret (v := decOf neg (m : Nat) k) (by simp [results, Tryd.results38, go_sem, q0, q1, q2]) rfl ⟨rfl, by repeat (first | (with_reducible first | exact HB7.out | apply below_alloc | apply pw_below_drewN | apply below_drew1 | refine below_set ?_ G2.out | refine below_set ?_ (Nat.le_refl _)) | exact HB7.out)⟩
theorem floor_keep (neg : Bool) (s c k : Int) (w : World) (h0 : 0 ≤ s) (h9 : s ≤ 19) (hk0 : 0 ≤ k) (hk : s ≤ k) :
    Calls Tryd.prog 47 #[decG neg s c, .int .i64 k] w fun e w' => e = .returned (decG neg s c) ∧ Below w.heap.size w w' := by
  have HB := Aside0.mk (Below.refl w.heap.size w)
  have HS := Aside0.mk (fun w => scale_is neg s c w h0 (by omega))
  clear h0 h9
  go_enter Tryd.func47, Tryd.ntmps47
  go_wp2_with (first | (((with_reducible refine gate_dst (N := 2) rfl ?_); refine box_event ?hg (N := 2) ?hd (cs := #[.bool neg, .int .i8 s, .int .u64 c]) (t := 64) ?hr ?_; (case hd => rfl); (case hg => rfl); (case hr => first | (go_simp; done) | (go_simp; rfl)); intro g1 hgq w1 hbx hb; have B1 := Aside0.mk hbx; have gq_g1 := Aside0.mk hgq; clear hbx hgq); have HB1 := Aside0.mk (below_step HB.out hb); have c0 := (blk_cell B1.out 0).trans rfl; have zc0 := blk_frozen B1.out 0; have c1 := (blk_cell B1.out 1).trans rfl; have zc1 := blk_frozen B1.out 1; have c2 := (blk_cell B1.out 2).trans rfl; have zc2 := blk_frozen B1.out 2; clear hb HB) | (((with_reducible refine gate_dst (N := 4) rfl ?_); refine box_event ?hg (N := 4) ?hd (cs := #[.bool false, .int .i8 0, .int .u64 0]) (t := 64) ?hr ?_; (case hd => rfl); (case hg => rfl); (case hr => first | (go_simp; done) | (go_simp; rfl)); intro g2 hgq w2 hbx hb; have B2 := Aside0.mk hbx; have gq_g2 := Aside0.mk hgq; clear hbx hgq); have HB2 := Aside0.mk (below_step HB1.out hb); have P2 := Aside0.mk (blk_below B1.out hb); have Q2 := B2; clear c0 c1 c2 zc0 zc1 zc2; have c0 := (blk_cell P2.out 0).trans rfl; have zc0 := blk_frozen P2.out 0; have c1 := (blk_cell P2.out 1).trans rfl; have zc1 := blk_frozen P2.out 1; have c2 := (blk_cell P2.out 2).trans rfl; have zc2 := blk_frozen P2.out 2; have q0 := (blk_cell Q2.out 0).trans rfl; have zq0 := blk_frozen Q2.out 0; have q1 := (blk_cell Q2.out 1).trans rfl; have zq1 := blk_frozen Q2.out 1; have q2 := (blk_cell Q2.out 2).trans rfl; have zq2 := blk_frozen Q2.out 2; have n1 : g2 ≠ g1 := (by have e1 := blk_lt B1.out; have e2 := gq_g2.out; omega); have n2 := n1.symm; have G2 := Aside0.mk (show w.heap.size ≤ g2 by rw [gq_g2.out]; exact HB1.out.size); clear hb HB1 B1 B2))
  refine (HS.out _).mono ?_
  rintro e w3 ⟨rfl, hb⟩
  have HB3 := Aside0.mk (below_step HB2.out hb)
  have P3 := Aside0.mk (blk_below P2.out hb)
  have Q3 := Aside0.mk (blk_below Q2.out hb)
  clear hb HB2 P2 Q2 c0 c1 c2 zc0 zc1 zc2 q0 q1 q2 zq0 zq1 zq2
  have c0 := (blk_cell P3.out 0).trans rfl; have zc0 := blk_frozen P3.out 0; have c1 := (blk_cell P3.out 1).trans rfl; have zc1 := blk_frozen P3.out 1; have c2 := (blk_cell P3.out 2).trans rfl; have zc2 := blk_frozen P3.out 2
  have q0 := (blk_cell Q3.out 0).trans rfl; have zq0 := blk_frozen Q3.out 0; have q1 := (blk_cell Q3.out 1).trans rfl; have zq1 := blk_frozen Q3.out 1; have q2 := (blk_cell Q3.out 2).trans rfl; have zq2 := blk_frozen Q3.out 2
  go_wp2
  exact bodyPost_ret (v := decG neg s c) (by simp [results, Tryd.results47, go_sem, q0, q1, q2]) rfl ⟨rfl, by repeat (first | (with_reducible first | exact HB3.out | apply below_alloc | apply pw_below_drewN | apply below_drew1 | refine below_set ?_ G2.out | refine below_set ?_ (Nat.le_refl _)) | exact HB3.out)⟩
set_option maxHeartbeats 4000000 in
theorem floor_neg  (s c k : Nat) (w : World) (h9 : s ≤ 19) (hk : k < s) (m : Nat) (hr : ∀ w0, Below w.heap.size w w0 → Calls Tryd.prog 65 #[.int .u64 (c : Int), .int .i64 (wrap64 ((s : Int) - (k : Int)))] w0 fun e w' => e = .returned (.int .u64 (m : Int)) ∧ Below w0.heap.size w0 w') :
    Calls Tryd.prog 47 #[decG true s c, .int .i64 k] w fun e w' => e = .returned (decOf true (m : Nat) k) ∧ Below w.heap.size w w' := by
  have hk0 : (0 : Int) ≤ (k : Int) := Int.natCast_nonneg k
  have HB := Aside0.mk (Below.refl w.heap.size w)
  have HS := Aside0.mk (fun w => scale_is true s c w (Int.natCast_nonneg s) (by omega))
  have HT := Aside0.mk hr
  have HI := Aside0.mk (show (k : Int) ≤ 127 by omega)
  clear hr h9
  go_enter Tryd.func47, Tryd.ntmps47
  go_wp2_with (first | (((with_reducible refine gate_dst (N := 2) rfl ?_); refine box_event ?hg (N := 2) ?hd (cs := #[.bool true, .int .i8 (s : Int), .int .u64 (c : Int)]) (t := 64) ?hr ?_; (case hd => rfl); (case hg => rfl); (case hr => first | (go_simp; done) | (go_simp; rfl)); intro g1 hgq w1 hbx hb; have B1 := Aside0.mk hbx; have gq_g1 := Aside0.mk hgq; clear hbx hgq); have HB1 := Aside0.mk (below_step HB.out hb); have c0 := (blk_cell B1.out 0).trans rfl; have zc0 := blk_frozen B1.out 0; have c1 := (blk_cell B1.out 1).trans rfl; have zc1 := blk_frozen B1.out 1; have c2 := (blk_cell B1.out 2).trans rfl; have zc2 := blk_frozen B1.out 2; clear hb HB) | (((with_reducible refine gate_dst (N := 4) rfl ?_); refine box_event ?hg (N := 4) ?hd (cs := #[.bool false, .int .i8 0, .int .u64 0]) (t := 64) ?hr ?_; (case hd => rfl); (case hg => rfl); (case hr => first | (go_simp; done) | (go_simp; rfl)); intro g2 hgq w2 hbx hb; have B2 := Aside0.mk hbx; have gq_g2 := Aside0.mk hgq; clear hbx hgq); have HB2 := Aside0.mk (below_step HB1.out hb); have P2 := Aside0.mk (blk_below B1.out hb); have Q2 := B2; clear c0 c1 c2 zc0 zc1 zc2; have c0 := (blk_cell P2.out 0).trans rfl; have zc0 := blk_frozen P2.out 0; have c1 := (blk_cell P2.out 1).trans rfl; have zc1 := blk_frozen P2.out 1; have c2 := (blk_cell P2.out 2).trans rfl; have zc2 := blk_frozen P2.out 2; have q0 := (blk_cell Q2.out 0).trans rfl; have zq0 := blk_frozen Q2.out 0; have q1 := (blk_cell Q2.out 1).trans rfl; have zq1 := blk_frozen Q2.out 1; have q2 := (blk_cell Q2.out 2).trans rfl; have zq2 := blk_frozen Q2.out 2; have n1 : g2 ≠ g1 := (by have e1 := blk_lt B1.out; have e2 := gq_g2.out; omega); have n2 := n1.symm; have G2 := Aside0.mk (show w.heap.size ≤ g2 by rw [gq_g2.out]; exact HB1.out.size); clear hb HB1 B1 B2))
  refine (HS.out _).mono ?_
  rintro e w3 ⟨rfl, hb⟩
  have HB3 := Aside0.mk (below_step HB2.out hb)
  have P3 := Aside0.mk (blk_below P2.out hb)
  have Q3 := Aside0.mk (blk_below Q2.out hb)
  clear hb HB2 P2 Q2 c0 c1 c2 zc0 zc1 zc2 q0 q1 q2 zq0 zq1 zq2
  have c0 := (blk_cell P3.out 0).trans rfl; have zc0 := blk_frozen P3.out 0; have c1 := (blk_cell P3.out 1).trans rfl; have zc1 := blk_frozen P3.out 1; have c2 := (blk_cell P3.out 2).trans rfl; have zc2 := blk_frozen P3.out 2
  have q0 := (blk_cell Q3.out 0).trans rfl; have zq0 := blk_frozen Q3.out 0; have q1 := (blk_cell Q3.out 1).trans rfl; have zq1 := blk_frozen Q3.out 1; have q2 := (blk_cell Q3.out 2).trans rfl; have zq2 := blk_frozen Q3.out 2
  go_wp2_with fail
  refine (isNeg_is true s c _).mono ?_
  rintro e w4 ⟨rfl, hb⟩
  have HB4 := Aside0.mk (below_step HB3.out hb)
  have P4 := Aside0.mk (blk_below P3.out hb)
  have Q4 := Aside0.mk (blk_below Q3.out hb)
  clear hb HB3 P3 Q3 c0 c1 c2 zc0 zc1 zc2 q0 q1 q2 zq0 zq1 zq2
  have c0 := (blk_cell P4.out 0).trans rfl; have zc0 := blk_frozen P4.out 0; have c1 := (blk_cell P4.out 1).trans rfl; have zc1 := blk_frozen P4.out 1; have c2 := (blk_cell P4.out 2).trans rfl; have zc2 := blk_frozen P4.out 2
  have q0 := (blk_cell Q4.out 0).trans rfl; have zq0 := blk_frozen Q4.out 0; have q1 := (blk_cell Q4.out 1).trans rfl; have zq1 := blk_frozen Q4.out 1; have q2 := (blk_cell Q4.out 2).trans rfl; have zq2 := blk_frozen Q4.out 2
  go_wp2_with fail
  refine (HS.out _).mono ?_
  rintro e w5 ⟨rfl, hb⟩
  have HB5 := Aside0.mk (below_step HB4.out hb)
  have P5 := Aside0.mk (blk_below P4.out hb)
  have Q5 := Aside0.mk (blk_below Q4.out hb)
  clear hb HB4 P4 Q4 c0 c1 c2 zc0 zc1 zc2 q0 q1 q2 zq0 zq1 zq2
  have c0 := (blk_cell P5.out 0).trans rfl; have zc0 := blk_frozen P5.out 0; have c1 := (blk_cell P5.out 1).trans rfl; have zc1 := blk_frozen P5.out 1; have c2 := (blk_cell P5.out 2).trans rfl; have zc2 := blk_frozen P5.out 2
  have q0 := (blk_cell Q5.out 0).trans rfl; have zq0 := blk_frozen Q5.out 0; have q1 := (blk_cell Q5.out 1).trans rfl; have zq1 := blk_frozen Q5.out 1; have q2 := (blk_cell Q5.out 2).trans rfl; have zq2 := blk_frozen Q5.out 2
  go_wp2_with fail
  refine (HT.out _ HB5.out).mono ?_
  rintro e w6 ⟨rfl, hb⟩
  have HB6 := Aside0.mk (below_step HB5.out hb)
  have P6 := Aside0.mk (blk_below P5.out hb)
  have Q6 := Aside0.mk (blk_below Q5.out hb)
  clear hb HB5 P5 Q5 c0 c1 c2 zc0 zc1 zc2 q0 q1 q2 zq0 zq1 zq2
  have c0 := (blk_cell P6.out 0).trans rfl; have zc0 := blk_frozen P6.out 0; have c1 := (blk_cell P6.out 1).trans rfl; have zc1 := blk_frozen P6.out 1; have c2 := (blk_cell P6.out 2).trans rfl; have zc2 := blk_frozen P6.out 2
  have q0 := (blk_cell Q6.out 0).trans rfl; have zq0 := blk_frozen Q6.out 0; have q1 := (blk_cell Q6.out 1).trans rfl; have zq1 := blk_frozen Q6.out 1; have q2 := (blk_cell Q6.out 2).trans rfl; have zq2 := blk_frozen Q6.out 2
  go_wp2_with fail
  refine (isNeg_is true s c _).mono ?_
  rintro e w7 ⟨rfl, hb⟩
  have HB7 := Aside0.mk (below_step HB6.out hb)
  have P7 := Aside0.mk (blk_below P6.out hb)
  have Q7 := Aside0.mk (blk_below Q6.out hb)
  clear hb HB6 P6 Q6 c0 c1 c2 zc0 zc1 zc2 q0 q1 q2 zq0 zq1 zq2
  have c0 := (blk_cell P7.out 0).trans rfl; have zc0 := blk_frozen P7.out 0; have c1 := (blk_cell P7.out 1).trans rfl; have zc1 := blk_frozen P7.out 1; have c2 := (blk_cell P7.out 2).trans rfl; have zc2 := blk_frozen P7.out 2
  have q0 := (blk_cell Q7.out 0).trans rfl; have zq0 := blk_frozen Q7.out 0; have q1 := (blk_cell Q7.out 1).trans rfl; have zq1 := blk_frozen Q7.out 1; have q2 := (blk_cell Q7.out 2).trans rfl; have zq2 := blk_frozen Q7.out 2
  go_wp2_with fail
  refine (newUnsafe_is true ((m : Nat) : Int) k _ hk0 HI.out).mono ?_
  rintro e w8 ⟨rfl, hb⟩
  have HB8 := Aside0.mk (below_step HB7.out hb)
  have P8 := Aside0.mk (blk_below P7.out hb)
  have Q8 := Aside0.mk (blk_below Q7.out hb)
  clear hb HB7 P7 Q7 c0 c1 c2 zc0 zc1 zc2 q0 q1 q2 zq0 zq1 zq2
  have c0 := (blk_cell P8.out 0).trans rfl; have zc0 := blk_frozen P8.out 0; have c1 := (blk_cell P8.out 1).trans rfl; have zc1 := blk_frozen P8.out 1; have c2 := (blk_cell P8.out 2).trans rfl; have zc2 := blk_frozen P8.out 2
  have q0 := (blk_cell Q8.out 0).trans rfl; have zq0 := blk_frozen Q8.out 0; have q1 := (blk_cell Q8.out 1).trans rfl; have zq1 := blk_frozen Q8.out 1; have q2 := (blk_cell Q8.out 2).trans rfl; have zq2 := blk_frozen Q8.out 2
  go_wp2
  exact bodyPost_ret (v := decOf true (m : Nat) k) (by simp [results, Tryd.results47, go_sem, q0, q1, q2]) rfl ⟨rfl, by repeat (first | (with_reducible first | exact HB8.out | apply below_alloc | apply pw_below_drewN | apply below_drew1 | refine below_set ?_ G2.out | refine below_set ?_ (Nat.le_refl _)) | exact HB8.out)⟩
set_option maxHeartbeats 4000000 in
theorem floor_pos  (s c k : Nat) (w : World) (h9 : s ≤ 19) (hk : k < s) (m : Nat) (hr : ∀ w0, Below w.heap.size w w0 → Calls Tryd.prog 66 #[.int .u64 (c : Int), .int .i64 (wrap64 ((s : Int) - (k : Int)))] w0 fun e w' => e = .returned (.int .u64 (m : Int)) ∧ Below w0.heap.size w0 w') :
    Calls Tryd.prog 47 #[decG false s c, .int .i64 k] w fun e w' => e = .returned (decOf false (m : Nat) k) ∧ Below w.heap.size w w' := by
  have hk0 : (0 : Int) ≤ (k : Int) := Int.natCast_nonneg k
  have HB := Aside0.mk (Below.refl w.heap.size w)
  have HS := Aside0.mk (fun w => scale_is false s c w (Int.natCast_nonneg s) (by omega))
  have HT := Aside0.mk hr
  have HI := Aside0.mk (show (k : Int) ≤ 127 by omega)
  clear hr h9
  go_enter Tryd.func47, Tryd.ntmps47
  go_wp2_with (first | (((with_reducible refine gate_dst (N := 2) rfl ?_); refine box_event ?hg (N := 2) ?hd (cs := #[.bool false, .int .i8 (s : Int), .int .u64 (c : Int)]) (t := 64) ?hr ?_; (case hd => rfl); (case hg => rfl); (case hr => first | (go_simp; done) | (go_simp; rfl)); intro g1 hgq w1 hbx hb; have B1 := Aside0.mk hbx; have gq_g1 := Aside0.mk hgq; clear hbx hgq); have HB1 := Aside0.mk (below_step HB.out hb); have c0 := (blk_cell B1.out 0).trans rfl; have zc0 := blk_frozen B1.out 0; have c1 := (blk_cell B1.out 1).trans rfl; have zc1 := blk_frozen B1.out 1; have c2 := (blk_cell B1.out 2).trans rfl; have zc2 := blk_frozen B1.out 2; clear hb HB) | (((with_reducible refine gate_dst (N := 4) rfl ?_); refine box_event ?hg (N := 4) ?hd (cs := #[.bool false, .int .i8 0, .int .u64 0]) (t := 64) ?hr ?_; (case hd => rfl); (case hg => rfl); (case hr => first | (go_simp; done) | (go_simp; rfl)); intro g2 hgq w2 hbx hb; have B2 := Aside0.mk hbx; have gq_g2 := Aside0.mk hgq; clear hbx hgq); have HB2 := Aside0.mk (below_step HB1.out hb); have P2 := Aside0.mk (blk_below B1.out hb); have Q2 := B2; clear c0 c1 c2 zc0 zc1 zc2; have c0 := (blk_cell P2.out 0).trans rfl; have zc0 := blk_frozen P2.out 0; have c1 := (blk_cell P2.out 1).trans rfl; have zc1 := blk_frozen P2.out 1; have c2 := (blk_cell P2.out 2).trans rfl; have zc2 := blk_frozen P2.out 2; have q0 := (blk_cell Q2.out 0).trans rfl; have zq0 := blk_frozen Q2.out 0; have q1 := (blk_cell Q2.out 1).trans rfl; have zq1 := blk_frozen Q2.out 1; have q2 := (blk_cell Q2.out 2).trans rfl; have zq2 := blk_frozen Q2.out 2; have n1 : g2 ≠ g1 := (by have e1 := blk_lt B1.out; have e2 := gq_g2.out; omega); have n2 := n1.symm; have G2 := Aside0.mk (show w.heap.size ≤ g2 by rw [gq_g2.out]; exact HB1.out.size); clear hb HB1 B1 B2))
  refine (HS.out _).mono ?_
  rintro e w3 ⟨rfl, hb⟩
  have HB3 := Aside0.mk (below_step HB2.out hb)
  have P3 := Aside0.mk (blk_below P2.out hb)
  have Q3 := Aside0.mk (blk_below Q2.out hb)
  clear hb HB2 P2 Q2 c0 c1 c2 zc0 zc1 zc2 q0 q1 q2 zq0 zq1 zq2
  have c0 := (blk_cell P3.out 0).trans rfl; have zc0 := blk_frozen P3.out 0; have c1 := (blk_cell P3.out 1).trans rfl; have zc1 := blk_frozen P3.out 1; have c2 := (blk_cell P3.out 2).trans rfl; have zc2 := blk_frozen P3.out 2
  have q0 := (blk_cell Q3.out 0).trans rfl; have zq0 := blk_frozen Q3.out 0; have q1 := (blk_cell Q3.out 1).trans rfl; have zq1 := blk_frozen Q3.out 1; have q2 := (blk_cell Q3.out 2).trans rfl; have zq2 := blk_frozen Q3.out 2
  go_wp2_with fail
  refine (isNeg_is false s c _).mono ?_
  rintro e w4 ⟨rfl, hb⟩
  have HB4 := Aside0.mk (below_step HB3.out hb)
  have P4 := Aside0.mk (blk_below P3.out hb)
  have Q4 := Aside0.mk (blk_below Q3.out hb)
  clear hb HB3 P3 Q3 c0 c1 c2 zc0 zc1 zc2 q0 q1 q2 zq0 zq1 zq2
  have c0 := (blk_cell P4.out 0).trans rfl; have zc0 := blk_frozen P4.out 0; have c1 := (blk_cell P4.out 1).trans rfl; have zc1 := blk_frozen P4.out 1; have c2 := (blk_cell P4.out 2).trans rfl; have zc2 := blk_frozen P4.out 2
  have q0 := (blk_cell Q4.out 0).trans rfl; have zq0 := blk_frozen Q4.out 0; have q1 := (blk_cell Q4.out 1).trans rfl; have zq1 := blk_frozen Q4.out 1; have q2 := (blk_cell Q4.out 2).trans rfl; have zq2 := blk_frozen Q4.out 2
  go_wp2_with fail
  refine (HS.out _).mono ?_
  rintro e w5 ⟨rfl, hb⟩
  have HB5 := Aside0.mk (below_step HB4.out hb)
  have P5 := Aside0.mk (blk_below P4.out hb)
  have Q5 := Aside0.mk (blk_below Q4.out hb)
  clear hb HB4 P4 Q4 c0 c1 c2 zc0 zc1 zc2 q0 q1 q2 zq0 zq1 zq2
  have c0 := (blk_cell P5.out 0).trans rfl; have zc0 := blk_frozen P5.out 0; have c1 := (blk_cell P5.out 1).trans rfl; have zc1 := blk_frozen P5.out 1; have c2 := (blk_cell P5.out 2).trans rfl; have zc2 := blk_frozen P5.out 2
  have q0 := (blk_cell Q5.out 0).trans rfl; have zq0 := blk_frozen Q5.out 0; have q1 := (blk_cell Q5.out 1).trans rfl; have zq1 := blk_frozen Q5.out 1; have q2 := (blk_cell Q5.out 2).trans rfl; have zq2 := blk_frozen Q5.out 2
  go_wp2_with fail
  refine (HT.out _ HB5.out).mono ?_
  rintro e w6 ⟨rfl, hb⟩
  have HB6 := Aside0.mk (below_step HB5.out hb)
  have P6 := Aside0.mk (blk_below P5.out hb)
  have Q6 := Aside0.mk (blk_below Q5.out hb)
  clear hb HB5 P5 Q5 c0 c1 c2 zc0 zc1 zc2 q0 q1 q2 zq0 zq1 zq2
  have c0 := (blk_cell P6.out 0).trans rfl; have zc0 := blk_frozen P6.out 0; have c1 := (blk_cell P6.out 1).trans rfl; have zc1 := blk_frozen P6.out 1; have c2 := (blk_cell P6.out 2).trans rfl; have zc2 := blk_frozen P6.out 2
  have q0 := (blk_cell Q6.out 0).trans rfl; have zq0 := blk_frozen Q6.out 0; have q1 := (blk_cell Q6.out 1).trans rfl; have zq1 := blk_frozen Q6.out 1; have q2 := (blk_cell Q6.out 2).trans rfl; have zq2 := blk_frozen Q6.out 2
  go_wp2_with fail
  refine (isNeg_is false s c _).mono ?_
  rintro e w7 ⟨rfl, hb⟩
  have HB7 := Aside0.mk (below_step HB6.out hb)
  have P7 := Aside0.mk (blk_below P6.out hb)
  have Q7 := Aside0.mk (blk_below Q6.out hb)
  clear hb HB6 P6 Q6 c0 c1 c2 zc0 zc1 zc2 q0 q1 q2 zq0 zq1 zq2
  have c0 := (blk_cell P7.out 0).trans rfl; have zc0 := blk_frozen P7.out 0; have c1 := (blk_cell P7.out 1).trans rfl; have zc1 := blk_frozen P7.out 1; have c2 := (blk_cell P7.out 2).trans rfl; have zc2 := blk_frozen P7.out 2
  have q0 := (blk_cell Q7.out 0).trans rfl; have zq0 := blk_frozen Q7.out 0; have q1 := (blk_cell Q7.out 1).trans rfl; have zq1 := blk_frozen Q7.out 1; have q2 := (blk_cell Q7.out 2).trans rfl; have zq2 := blk_frozen Q7.out 2
  go_wp2_with fail
  refine (newUnsafe_is false ((m : Nat) : Int) k _ hk0 HI.out).mono ?_
  rintro e w8 ⟨rfl, hb⟩
  have HB8 := Aside0.mk (below_step HB7.out hb)
  have P8 := Aside0.mk (blk_below P7.out hb)
  have Q8 := Aside0.mk (blk_below Q7.out hb)
  clear hb HB7 P7 Q7 c0 c1 c2 zc0 zc1 zc2 q0 q1 q2 zq0 zq1 zq2
  have c0 := (blk_cell P8.out 0).trans rfl; have zc0 := blk_frozen P8.out 0; have c1 := (blk_cell P8.out 1).trans rfl; have zc1 := blk_frozen P8.out 1; have c2 := (blk_cell P8.out 2).trans rfl; have zc2 := blk_frozen P8.out 2
  have q0 := (blk_cell Q8.out 0).trans rfl; have zq0 := blk_frozen Q8.out 0; have q1 := (blk_cell Q8.out 1).trans rfl; have zq1 := blk_frozen Q8.out 1; have q2 := (blk_cell Q8.out 2).trans rfl; have zq2 := blk_frozen Q8.out 2
  go_wp2
  exact bodyPost_ret (v := decOf false (m : Nat) k) (by simp [results, Tryd.results47, go_sem, q0, q1, q2]) rfl ⟨rfl, by repeat (first | (with_reducible first | exact HB8.out | apply below_alloc | apply pw_below_drewN | apply below_drew1 | refine below_set ?_ G2.out | refine below_set ?_ (Nat.le_refl _)) | exact HB8.out)⟩
end Go.Proofs.YtcgdphciepdkiaaDoor.G
namespace Go.Proofs.YtcgdphciepdkiaaDoor.G
open Go.RowKit Go.Proofs.YtcgdphciepdkiaaDoorW.PrintWords Go.Proofs.YtcgdphciepdkiaaDoorW.PrintLast Go.Proofs.YtcgdphciepdkiaaDoorW.PrintMore Go.Proofs.YtcgdphciepdkiaaDoor.S Go.Proofs.YtcgdphciepdkiaaDoor.Lm
attribute [local go_sem] max2_int min2_int max_two min_two max_three min_three max_four min_four
set_option linter.unusedVariables false
set_option linter.unusedSimpArgs false

theorem round_keep_0 (neg : Bool) (s c k : Int) (w : World) (h0 : 0 ≤ s) (h9 : s ≤ 19) (hk0 : k < 0) (hk : s = 0) :
    Calls Tryd.prog 38 #[decG neg s c, .int .i64 k] w fun e w' => e = .returned (decG neg 0 c) ∧ Below w.heap.size w w' := by
  have HB := Aside0.mk (Below.refl w.heap.size w)
  subst hk
  have HS := Aside0.mk (fun w => scale_is neg 0 c w (by omega) (by omega))
  clear h0 h9
  go_enter Tryd.func38, Tryd.ntmps38
  go_wp2_with (first | (((with_reducible refine gate_dst (N := 2) rfl ?_); refine box_event ?hg (N := 2) ?hd (cs := #[.bool neg, .int .i8 0, .int .u64 c]) (t := 64) ?hr ?_; (case hd => rfl); (case hg => rfl); (case hr => first | (go_simp; done) | (go_simp; rfl)); intro g1 hgq w1 hbx hb; have B1 := Aside0.mk hbx; have gq_g1 := Aside0.mk hgq; clear hbx hgq); have HB1 := Aside0.mk (below_step HB.out hb); have c0 := (blk_cell B1.out 0).trans rfl; have zc0 := blk_frozen B1.out 0; have c1 := (blk_cell B1.out 1).trans rfl; have zc1 := blk_frozen B1.out 1; have c2 := (blk_cell B1.out 2).trans rfl; have zc2 := blk_frozen B1.out 2; clear hb HB) | (((with_reducible refine gate_dst (N := 4) rfl ?_); refine box_event ?hg (N := 4) ?hd (cs := #[.bool false, .int .i8 0, .int .u64 0]) (t := 64) ?hr ?_; (case hd => rfl); (case hg => rfl); (case hr => first | (go_simp; done) | (go_simp; rfl)); intro g2 hgq w2 hbx hb; have B2 := Aside0.mk hbx; have gq_g2 := Aside0.mk hgq; clear hbx hgq); have HB2 := Aside0.mk (below_step HB1.out hb); have P2 := Aside0.mk (blk_below B1.out hb); have Q2 := B2; clear c0 c1 c2 zc0 zc1 zc2; have c0 := (blk_cell P2.out 0).trans rfl; have zc0 := blk_frozen P2.out 0; have c1 := (blk_cell P2.out 1).trans rfl; have zc1 := blk_frozen P2.out 1; have c2 := (blk_cell P2.out 2).trans rfl; have zc2 := blk_frozen P2.out 2; have q0 := (blk_cell Q2.out 0).trans rfl; have zq0 := blk_frozen Q2.out 0; have q1 := (blk_cell Q2.out 1).trans rfl; have zq1 := blk_frozen Q2.out 1; have q2 := (blk_cell Q2.out 2).trans rfl; have zq2 := blk_frozen Q2.out 2; have n1 : g2 ≠ g1 := (by have e1 := blk_lt B1.out; have e2 := gq_g2.out; omega); have n2 := n1.symm; have G2 := Aside0.mk (show w.heap.size ≤ g2 by rw [gq_g2.out]; exact HB1.out.size); clear hb HB1 B1 B2))
  refine (HS.out _).mono ?_
  rintro e w3 ⟨rfl, hb⟩
  have HB3 := Aside0.mk (below_step HB2.out hb)
  have P3 := Aside0.mk (blk_below P2.out hb)
  have Q3 := Aside0.mk (blk_below Q2.out hb)
  clear hb HB2 P2 Q2 c0 c1 c2 zc0 zc1 zc2 q0 q1 q2 zq0 zq1 zq2
  have c0 := (blk_cell P3.out 0).trans rfl; have zc0 := blk_frozen P3.out 0; have c1 := (blk_cell P3.out 1).trans rfl; have zc1 := blk_frozen P3.out 1; have c2 := (blk_cell P3.out 2).trans rfl; have zc2 := blk_frozen P3.out 2
  have q0 := (blk_cell Q3.out 0).trans rfl; have zq0 := blk_frozen Q3.out 0; have q1 := (blk_cell Q3.out 1).trans rfl; have zq1 := blk_frozen Q3.out 1; have q2 := (blk_cell Q3.out 2).trans rfl; have zq2 := blk_frozen Q3.out 2
  go_wp2
  exact bodyPost_ret (v := decG neg 0 c) (by simp [results, Tryd.results38, go_sem, q0, q1, q2]) rfl ⟨rfl, by repeat (first | (with_reducible first | exact HB3.out | apply below_alloc | apply pw_below_drewN | apply below_drew1 | refine below_set ?_ G2.out | refine below_set ?_ (Nat.le_refl _)) | exact HB3.out)⟩
set_option maxHeartbeats 4000000 in
theorem round_down_0 (neg : Bool) (s c : Nat) (k : Int) (w : World) (h9 : s ≤ 19) (hk0 : k < 0) (hk : 0 < s) (m : Nat) (hr : ∀ w0, Below w.heap.size w w0 → Calls Tryd.prog 58 #[.int .u64 (c : Int), .int .i64 (wrap64 (s : Int))] w0 fun e w' => e = .returned (.int .u64 (m : Int)) ∧ Below w0.heap.size w0 w') :
    Calls Tryd.prog 38 #[decG neg s c, .int .i64 k] w fun e w' => e = .returned (decOf neg (m : Nat) 0) ∧ Below w.heap.size w w' := by
  have HB := Aside0.mk (Below.refl w.heap.size w)
  have HS := Aside0.mk (fun w => scale_is neg s c w (Int.natCast_nonneg s) (by omega))
  have HT := Aside0.mk hr
  clear hr h9
  go_enter Tryd.func38, Tryd.ntmps38
  go_wp2_with (first | (((with_reducible refine gate_dst (N := 2) rfl ?_); refine box_event ?hg (N := 2) ?hd (cs := #[.bool neg, .int .i8 (s : Int), .int .u64 (c : Int)]) (t := 64) ?hr ?_; (case hd => rfl); (case hg => rfl); (case hr => first | (go_simp; done) | (go_simp; rfl)); intro g1 hgq w1 hbx hb; have B1 := Aside0.mk hbx; have gq_g1 := Aside0.mk hgq; clear hbx hgq); have HB1 := Aside0.mk (below_step HB.out hb); have c0 := (blk_cell B1.out 0).trans rfl; have zc0 := blk_frozen B1.out 0; have c1 := (blk_cell B1.out 1).trans rfl; have zc1 := blk_frozen B1.out 1; have c2 := (blk_cell B1.out 2).trans rfl; have zc2 := blk_frozen B1.out 2; clear hb HB) | (((with_reducible refine gate_dst (N := 4) rfl ?_); refine box_event ?hg (N := 4) ?hd (cs := #[.bool false, .int .i8 0, .int .u64 0]) (t := 64) ?hr ?_; (case hd => rfl); (case hg => rfl); (case hr => first | (go_simp; done) | (go_simp; rfl)); intro g2 hgq w2 hbx hb; have B2 := Aside0.mk hbx; have gq_g2 := Aside0.mk hgq; clear hbx hgq); have HB2 := Aside0.mk (below_step HB1.out hb); have P2 := Aside0.mk (blk_below B1.out hb); have Q2 := B2; clear c0 c1 c2 zc0 zc1 zc2; have c0 := (blk_cell P2.out 0).trans rfl; have zc0 := blk_frozen P2.out 0; have c1 := (blk_cell P2.out 1).trans rfl; have zc1 := blk_frozen P2.out 1; have c2 := (blk_cell P2.out 2).trans rfl; have zc2 := blk_frozen P2.out 2; have q0 := (blk_cell Q2.out 0).trans rfl; have zq0 := blk_frozen Q2.out 0; have q1 := (blk_cell Q2.out 1).trans rfl; have zq1 := blk_frozen Q2.out 1; have q2 := (blk_cell Q2.out 2).trans rfl; have zq2 := blk_frozen Q2.out 2; have n1 : g2 ≠ g1 := (by have e1 := blk_lt B1.out; have e2 := gq_g2.out; omega); have n2 := n1.symm; have G2 := Aside0.mk (show w.heap.size ≤ g2 by rw [gq_g2.out]; exact HB1.out.size); clear hb HB1 B1 B2))
  refine (HS.out _).mono ?_
  rintro e w3 ⟨rfl, hb⟩
  have HB3 := Aside0.mk (below_step HB2.out hb)
  have P3 := Aside0.mk (blk_below P2.out hb)
  have Q3 := Aside0.mk (blk_below Q2.out hb)
  clear hb HB2 P2 Q2 c0 c1 c2 zc0 zc1 zc2 q0 q1 q2 zq0 zq1 zq2
  have c0 := (blk_cell P3.out 0).trans rfl; have zc0 := blk_frozen P3.out 0; have c1 := (blk_cell P3.out 1).trans rfl; have zc1 := blk_frozen P3.out 1; have c2 := (blk_cell P3.out 2).trans rfl; have zc2 := blk_frozen P3.out 2
  have q0 := (blk_cell Q3.out 0).trans rfl; have zq0 := blk_frozen Q3.out 0; have q1 := (blk_cell Q3.out 1).trans rfl; have zq1 := blk_frozen Q3.out 1; have q2 := (blk_cell Q3.out 2).trans rfl; have zq2 := blk_frozen Q3.out 2
  go_wp2_with fail
  refine (HS.out _).mono ?_
  rintro e w4 ⟨rfl, hb⟩
  have HB4 := Aside0.mk (below_step HB3.out hb)
  have P4 := Aside0.mk (blk_below P3.out hb)
  have Q4 := Aside0.mk (blk_below Q3.out hb)
  clear hb HB3 P3 Q3 c0 c1 c2 zc0 zc1 zc2 q0 q1 q2 zq0 zq1 zq2
  have c0 := (blk_cell P4.out 0).trans rfl; have zc0 := blk_frozen P4.out 0; have c1 := (blk_cell P4.out 1).trans rfl; have zc1 := blk_frozen P4.out 1; have c2 := (blk_cell P4.out 2).trans rfl; have zc2 := blk_frozen P4.out 2
  have q0 := (blk_cell Q4.out 0).trans rfl; have zq0 := blk_frozen Q4.out 0; have q1 := (blk_cell Q4.out 1).trans rfl; have zq1 := blk_frozen Q4.out 1; have q2 := (blk_cell Q4.out 2).trans rfl; have zq2 := blk_frozen Q4.out 2
  go_wp2_with fail
  refine (HT.out _ HB4.out).mono ?_
  rintro e w5 ⟨rfl, hb⟩
  have HB5 := Aside0.mk (below_step HB4.out hb)
  have P5 := Aside0.mk (blk_below P4.out hb)
  have Q5 := Aside0.mk (blk_below Q4.out hb)
  clear hb HB4 P4 Q4 c0 c1 c2 zc0 zc1 zc2 q0 q1 q2 zq0 zq1 zq2
  have c0 := (blk_cell P5.out 0).trans rfl; have zc0 := blk_frozen P5.out 0; have c1 := (blk_cell P5.out 1).trans rfl; have zc1 := blk_frozen P5.out 1; have c2 := (blk_cell P5.out 2).trans rfl; have zc2 := blk_frozen P5.out 2
  have q0 := (blk_cell Q5.out 0).trans rfl; have zq0 := blk_frozen Q5.out 0; have q1 := (blk_cell Q5.out 1).trans rfl; have zq1 := blk_frozen Q5.out 1; have q2 := (blk_cell Q5.out 2).trans rfl; have zq2 := blk_frozen Q5.out 2
  go_wp2_with fail
  refine (isNeg_is neg s c _).mono ?_
  rintro e w6 ⟨rfl, hb⟩
  have HB6 := Aside0.mk (below_step HB5.out hb)
  have P6 := Aside0.mk (blk_below P5.out hb)
  have Q6 := Aside0.mk (blk_below Q5.out hb)
  clear hb HB5 P5 Q5 c0 c1 c2 zc0 zc1 zc2 q0 q1 q2 zq0 zq1 zq2
  have c0 := (blk_cell P6.out 0).trans rfl; have zc0 := blk_frozen P6.out 0; have c1 := (blk_cell P6.out 1).trans rfl; have zc1 := blk_frozen P6.out 1; have c2 := (blk_cell P6.out 2).trans rfl; have zc2 := blk_frozen P6.out 2
  have q0 := (blk_cell Q6.out 0).trans rfl; have zq0 := blk_frozen Q6.out 0; have q1 := (blk_cell Q6.out 1).trans rfl; have zq1 := blk_frozen Q6.out 1; have q2 := (blk_cell Q6.out 2).trans rfl; have zq2 := blk_frozen Q6.out 2
  go_wp2_with fail
  refine (newUnsafe_is neg ((m : Nat) : Int) 0 _ (by omega) (by omega)).mono ?_
  rintro e w7 ⟨rfl, hb⟩
  have HB7 := Aside0.mk (below_step HB6.out hb)
  have P7 := Aside0.mk (blk_below P6.out hb)
  have Q7 := Aside0.mk (blk_below Q6.out hb)
  clear hb HB6 P6 Q6 c0 c1 c2 zc0 zc1 zc2 q0 q1 q2 zq0 zq1 zq2
  have c0 := (blk_cell P7.out 0).trans rfl; have zc0 := blk_frozen P7.out 0; have c1 := (blk_cell P7.out 1).trans rfl; have zc1 := blk_frozen P7.out 1; have c2 := (blk_cell P7.out 2).trans rfl; have zc2 := blk_frozen P7.out 2
  have q0 := (blk_cell Q7.out 0).trans rfl; have zq0 := blk_frozen Q7.out 0; have q1 := (blk_cell Q7.out 1).trans rfl; have zq1 := blk_frozen Q7.out 1; have q2 := (blk_cell Q7.out 2).trans rfl; have zq2 := blk_frozen Q7.out 2
  go_wp2
  exact bodyPost_ret (v := decOf neg (m : Nat) 0) (by simp [results, Tryd.results38, go_sem, q0, q1, q2]) rfl ⟨rfl, by repeat (first | (with_reducible first | exact HB7.out | apply below_alloc | apply pw_below_drewN | apply below_drew1 | refine below_set ?_ G2.out | refine below_set ?_ (Nat.le_refl _)) | exact HB7.out)⟩
theorem floor_keep_0 (neg : Bool) (s c k : Int) (w : World) (h0 : 0 ≤ s) (h9 : s ≤ 19) (hk0 : k < 0) (hk : s = 0) :
    Calls Tryd.prog 47 #[decG neg s c, .int .i64 k] w fun e w' => e = .returned (decG neg 0 c) ∧ Below w.heap.size w w' := by
  have HB := Aside0.mk (Below.refl w.heap.size w)
  subst hk
  have HS := Aside0.mk (fun w => scale_is neg 0 c w (by omega) (by omega))
  clear h0 h9
  go_enter Tryd.func47, Tryd.ntmps47
  go_wp2_with (first | (((with_reducible refine gate_dst (N := 2) rfl ?_); refine box_event ?hg (N := 2) ?hd (cs := #[.bool neg, .int .i8 0, .int .u64 c]) (t := 64) ?hr ?_; (case hd => rfl); (case hg => rfl); (case hr => first | (go_simp; done) | (go_simp; rfl)); intro g1 hgq w1 hbx hb; have B1 := Aside0.mk hbx; have gq_g1 := Aside0.mk hgq; clear hbx hgq); have HB1 := Aside0.mk (below_step HB.out hb); have c0 := (blk_cell B1.out 0).trans rfl; have zc0 := blk_frozen B1.out 0; have c1 := (blk_cell B1.out 1).trans rfl; have zc1 := blk_frozen B1.out 1; have c2 := (blk_cell B1.out 2).trans rfl; have zc2 := blk_frozen B1.out 2; clear hb HB) | (((with_reducible refine gate_dst (N := 4) rfl ?_); refine box_event ?hg (N := 4) ?hd (cs := #[.bool false, .int .i8 0, .int .u64 0]) (t := 64) ?hr ?_; (case hd => rfl); (case hg => rfl); (case hr => first | (go_simp; done) | (go_simp; rfl)); intro g2 hgq w2 hbx hb; have B2 := Aside0.mk hbx; have gq_g2 := Aside0.mk hgq; clear hbx hgq); have HB2 := Aside0.mk (below_step HB1.out hb); have P2 := Aside0.mk (blk_below B1.out hb); have Q2 := B2; clear c0 c1 c2 zc0 zc1 zc2; have c0 := (blk_cell P2.out 0).trans rfl; have zc0 := blk_frozen P2.out 0; have c1 := (blk_cell P2.out 1).trans rfl; have zc1 := blk_frozen P2.out 1; have c2 := (blk_cell P2.out 2).trans rfl; have zc2 := blk_frozen P2.out 2; have q0 := (blk_cell Q2.out 0).trans rfl; have zq0 := blk_frozen Q2.out 0; have q1 := (blk_cell Q2.out 1).trans rfl; have zq1 := blk_frozen Q2.out 1; have q2 := (blk_cell Q2.out 2).trans rfl; have zq2 := blk_frozen Q2.out 2; have n1 : g2 ≠ g1 := (by have e1 := blk_lt B1.out; have e2 := gq_g2.out; omega); have n2 := n1.symm; have G2 := Aside0.mk (show w.heap.size ≤ g2 by rw [gq_g2.out]; exact HB1.out.size); clear hb HB1 B1 B2))
  refine (HS.out _).mono ?_
  rintro e w3 ⟨rfl, hb⟩
  have HB3 := Aside0.mk (below_step HB2.out hb)
  have P3 := Aside0.mk (blk_below P2.out hb)
  have Q3 := Aside0.mk (blk_below Q2.out hb)
  clear hb HB2 P2 Q2 c0 c1 c2 zc0 zc1 zc2 q0 q1 q2 zq0 zq1 zq2
  have c0 := (blk_cell P3.out 0).trans rfl; have zc0 := blk_frozen P3.out 0; have c1 := (blk_cell P3.out 1).trans rfl; have zc1 := blk_frozen P3.out 1; have c2 := (blk_cell P3.out 2).trans rfl; have zc2 := blk_frozen P3.out 2
  have q0 := (blk_cell Q3.out 0).trans rfl; have zq0 := blk_frozen Q3.out 0; have q1 := (blk_cell Q3.out 1).trans rfl; have zq1 := blk_frozen Q3.out 1; have q2 := (blk_cell Q3.out 2).trans rfl; have zq2 := blk_frozen Q3.out 2
  go_wp2
  exact bodyPost_ret (v := decG neg 0 c) (by simp [results, Tryd.results47, go_sem, q0, q1, q2]) rfl ⟨rfl, by repeat (first | (with_reducible first | exact HB3.out | apply below_alloc | apply pw_below_drewN | apply below_drew1 | refine below_set ?_ G2.out | refine below_set ?_ (Nat.le_refl _)) | exact HB3.out)⟩
set_option maxHeartbeats 4000000 in
theorem floor_neg_0  (s c : Nat) (k : Int) (w : World) (h9 : s ≤ 19) (hk0 : k < 0) (hk : 0 < s) (m : Nat) (hr : ∀ w0, Below w.heap.size w w0 → Calls Tryd.prog 65 #[.int .u64 (c : Int), .int .i64 (wrap64 (s : Int))] w0 fun e w' => e = .returned (.int .u64 (m : Int)) ∧ Below w0.heap.size w0 w') :
    Calls Tryd.prog 47 #[decG true s c, .int .i64 k] w fun e w' => e = .returned (decOf true (m : Nat) 0) ∧ Below w.heap.size w w' := by
  have HB := Aside0.mk (Below.refl w.heap.size w)
  have HS := Aside0.mk (fun w => scale_is true s c w (Int.natCast_nonneg s) (by omega))
  have HT := Aside0.mk hr
  clear hr h9
  go_enter Tryd.func47, Tryd.ntmps47
  go_wp2_with (first | (((with_reducible refine gate_dst (N := 2) rfl ?_); refine box_event ?hg (N := 2) ?hd (cs := #[.bool true, .int .i8 (s : Int), .int .u64 (c : Int)]) (t := 64) ?hr ?_; (case hd => rfl); (case hg => rfl); (case hr => first | (go_simp; done) | (go_simp; rfl)); intro g1 hgq w1 hbx hb; have B1 := Aside0.mk hbx; have gq_g1 := Aside0.mk hgq; clear hbx hgq); have HB1 := Aside0.mk (below_step HB.out hb); have c0 := (blk_cell B1.out 0).trans rfl; have zc0 := blk_frozen B1.out 0; have c1 := (blk_cell B1.out 1).trans rfl; have zc1 := blk_frozen B1.out 1; have c2 := (blk_cell B1.out 2).trans rfl; have zc2 := blk_frozen B1.out 2; clear hb HB) | (((with_reducible refine gate_dst (N := 4) rfl ?_); refine box_event ?hg (N := 4) ?hd (cs := #[.bool false, .int .i8 0, .int .u64 0]) (t := 64) ?hr ?_; (case hd => rfl); (case hg => rfl); (case hr => first | (go_simp; done) | (go_simp; rfl)); intro g2 hgq w2 hbx hb; have B2 := Aside0.mk hbx; have gq_g2 := Aside0.mk hgq; clear hbx hgq); have HB2 := Aside0.mk (below_step HB1.out hb); have P2 := Aside0.mk (blk_below B1.out hb); have Q2 := B2; clear c0 c1 c2 zc0 zc1 zc2; have c0 := (blk_cell P2.out 0).trans rfl; have zc0 := blk_frozen P2.out 0; have c1 := (blk_cell P2.out 1).trans rfl; have zc1 := blk_frozen P2.out 1; have c2 := (blk_cell P2.out 2).trans rfl; have zc2 := blk_frozen P2.out 2; have q0 := (blk_cell Q2.out 0).trans rfl; have zq0 := blk_frozen Q2.out 0; have q1 := (blk_cell Q2.out 1).trans rfl; have zq1 := blk_frozen Q2.out 1; have q2 := (blk_cell Q2.out 2).trans rfl; have zq2 := blk_frozen Q2.out 2; have n1 : g2 ≠ g1 := (by have e1 := blk_lt B1.out; have e2 := gq_g2.out; omega); have n2 := n1.symm; have G2 := Aside0.mk (show w.heap.size ≤ g2 by rw [gq_g2.out]; exact HB1.out.size); clear hb HB1 B1 B2))
  refine (HS.out _).mono ?_
  rintro e w3 ⟨rfl, hb⟩
  have HB3 := Aside0.mk (below_step HB2.out hb)
  have P3 := Aside0.mk (blk_below P2.out hb)
  have Q3 := Aside0.mk (blk_below Q2.out hb)
  clear hb HB2 P2 Q2 c0 c1 c2 zc0 zc1 zc2 q0 q1 q2 zq0 zq1 zq2
  have c0 := (blk_cell P3.out 0).trans rfl; have zc0 := blk_frozen P3.out 0; have c1 := (blk_cell P3.out 1).trans rfl; have zc1 := blk_frozen P3.out 1; have c2 := (blk_cell P3.out 2).trans rfl; have zc2 := blk_frozen P3.out 2
  have q0 := (blk_cell Q3.out 0).trans rfl; have zq0 := blk_frozen Q3.out 0; have q1 := (blk_cell Q3.out 1).trans rfl; have zq1 := blk_frozen Q3.out 1; have q2 := (blk_cell Q3.out 2).trans rfl; have zq2 := blk_frozen Q3.out 2
  go_wp2_with fail
  refine (isNeg_is true s c _).mono ?_
  rintro e w4 ⟨rfl, hb⟩
  have HB4 := Aside0.mk (below_step HB3.out hb)
  have P4 := Aside0.mk (blk_below P3.out hb)
  have Q4 := Aside0.mk (blk_below Q3.out hb)
  clear hb HB3 P3 Q3 c0 c1 c2 zc0 zc1 zc2 q0 q1 q2 zq0 zq1 zq2
  have c0 := (blk_cell P4.out 0).trans rfl; have zc0 := blk_frozen P4.out 0; have c1 := (blk_cell P4.out 1).trans rfl; have zc1 := blk_frozen P4.out 1; have c2 := (blk_cell P4.out 2).trans rfl; have zc2 := blk_frozen P4.out 2
  have q0 := (blk_cell Q4.out 0).trans rfl; have zq0 := blk_frozen Q4.out 0; have q1 := (blk_cell Q4.out 1).trans rfl; have zq1 := blk_frozen Q4.out 1; have q2 := (blk_cell Q4.out 2).trans rfl; have zq2 := blk_frozen Q4.out 2
  go_wp2_with fail
  refine (HS.out _).mono ?_
  rintro e w5 ⟨rfl, hb⟩
  have HB5 := Aside0.mk (below_step HB4.out hb)
  have P5 := Aside0.mk (blk_below P4.out hb)
  have Q5 := Aside0.mk (blk_below Q4.out hb)
  clear hb HB4 P4 Q4 c0 c1 c2 zc0 zc1 zc2 q0 q1 q2 zq0 zq1 zq2
  have c0 := (blk_cell P5.out 0).trans rfl; have zc0 := blk_frozen P5.out 0; have c1 := (blk_cell P5.out 1).trans rfl; have zc1 := blk_frozen P5.out 1; have c2 := (blk_cell P5.out 2).trans rfl; have zc2 := blk_frozen P5.out 2
  have q0 := (blk_cell Q5.out 0).trans rfl; have zq0 := blk_frozen Q5.out 0; have q1 := (blk_cell Q5.out 1).trans rfl; have zq1 := blk_frozen Q5.out 1; have q2 := (blk_cell Q5.out 2).trans rfl; have zq2 := blk_frozen Q5.out 2
  go_wp2_with fail
  refine (HT.out _ HB5.out).mono ?_
  rintro e w6 ⟨rfl, hb⟩
  have HB6 := Aside0.mk (below_step HB5.out hb)
  have P6 := Aside0.mk (blk_below P5.out hb)
  have Q6 := Aside0.mk (blk_below Q5.out hb)
  clear hb HB5 P5 Q5 c0 c1 c2 zc0 zc1 zc2 q0 q1 q2 zq0 zq1 zq2
  have c0 := (blk_cell P6.out 0).trans rfl; have zc0 := blk_frozen P6.out 0; have c1 := (blk_cell P6.out 1).trans rfl; have zc1 := blk_frozen P6.out 1; have c2 := (blk_cell P6.out 2).trans rfl; have zc2 := blk_frozen P6.out 2
  have q0 := (blk_cell Q6.out 0).trans rfl; have zq0 := blk_frozen Q6.out 0; have q1 := (blk_cell Q6.out 1).trans rfl; have zq1 := blk_frozen Q6.out 1; have q2 := (blk_cell Q6.out 2).trans rfl; have zq2 := blk_frozen Q6.out 2
  go_wp2_with fail
  refine (isNeg_is true s c _).mono ?_
  rintro e w7 ⟨rfl, hb⟩
  have HB7 := Aside0.mk (below_step HB6.out hb)
  have P7 := Aside0.mk (blk_below P6.out hb)
  have Q7 := Aside0.mk (blk_below Q6.out hb)
  clear hb HB6 P6 Q6 c0 c1 c2 zc0 zc1 zc2 q0 q1 q2 zq0 zq1 zq2
  have c0 := (blk_cell P7.out 0).trans rfl; have zc0 := blk_frozen P7.out 0; have c1 := (blk_cell P7.out 1).trans rfl; have zc1 := blk_frozen P7.out 1; have c2 := (blk_cell P7.out 2).trans rfl; have zc2 := blk_frozen P7.out 2
  have q0 := (blk_cell Q7.out 0).trans rfl; have zq0 := blk_frozen Q7.out 0; have q1 := (blk_cell Q7.out 1).trans rfl; have zq1 := blk_frozen Q7.out 1; have q2 := (blk_cell Q7.out 2).trans rfl; have zq2 := blk_frozen Q7.out 2
  go_wp2_with fail
  refine (newUnsafe_is true ((m : Nat) : Int) 0 _ (by omega) (by omega)).mono ?_
  rintro e w8 ⟨rfl, hb⟩
  have HB8 := Aside0.mk (below_step HB7.out hb)
  have P8 := Aside0.mk (blk_below P7.out hb)
  have Q8 := Aside0.mk (blk_below Q7.out hb)
  clear hb HB7 P7 Q7 c0 c1 c2 zc0 zc1 zc2 q0 q1 q2 zq0 zq1 zq2
  have c0 := (blk_cell P8.out 0).trans rfl; have zc0 := blk_frozen P8.out 0; have c1 := (blk_cell P8.out 1).trans rfl; have zc1 := blk_frozen P8.out 1; have c2 := (blk_cell P8.out 2).trans rfl; have zc2 := blk_frozen P8.out 2
  have q0 := (blk_cell Q8.out 0).trans rfl; have zq0 := blk_frozen Q8.out 0; have q1 := (blk_cell Q8.out 1).trans rfl; have zq1 := blk_frozen Q8.out 1; have q2 := (blk_cell Q8.out 2).trans rfl; have zq2 := blk_frozen Q8.out 2
  go_wp2
  exact bodyPost_ret (v := decOf true (m : Nat) 0) (by simp [results, Tryd.results47, go_sem, q0, q1, q2]) rfl ⟨rfl, by repeat (first | (with_reducible first | exact HB8.out | apply below_alloc | apply pw_below_drewN | apply below_drew1 | refine below_set ?_ G2.out | refine below_set ?_ (Nat.le_refl _)) | exact HB8.out)⟩
set_option maxHeartbeats 4000000 in
theorem floor_pos_0  (s c : Nat) (k : Int) (w : World) (h9 : s ≤ 19) (hk0 : k < 0) (hk : 0 < s) (m : Nat) (hr : ∀ w0, Below w.heap.size w w0 → Calls Tryd.prog 66 #[.int .u64 (c : Int), .int .i64 (wrap64 (s : Int))] w0 fun e w' => e = .returned (.int .u64 (m : Int)) ∧ Below w0.heap.size w0 w') :
    Calls Tryd.prog 47 #[decG false s c, .int .i64 k] w fun e w' => e = .returned (decOf false (m : Nat) 0) ∧ Below w.heap.size w w' := by
  have HB := Aside0.mk (Below.refl w.heap.size w)
  have HS := Aside0.mk (fun w => scale_is false s c w (Int.natCast_nonneg s) (by omega))
  have HT := Aside0.mk hr
  clear hr h9
  go_enter Tryd.func47, Tryd.ntmps47
  go_wp2_with (first | (((with_reducible refine gate_dst (N := 2) rfl ?_); refine box_event ?hg (N := 2) ?hd (cs := #[.bool false, .int .i8 (s : Int), .int .u64 (c : Int)]) (t := 64) ?hr ?_; (case hd => rfl); (case hg => rfl); (case hr => first | (go_simp; done) | (go_simp; rfl)); intro g1 hgq w1 hbx hb; have B1 := Aside0.mk hbx; have gq_g1 := Aside0.mk hgq; clear hbx hgq); have HB1 := Aside0.mk (below_step HB.out hb); have c0 := (blk_cell B1.out 0).trans rfl; have zc0 := blk_frozen B1.out 0; have c1 := (blk_cell B1.out 1).trans rfl; have zc1 := blk_frozen B1.out 1; have c2 := (blk_cell B1.out 2).trans rfl; have zc2 := blk_frozen B1.out 2; clear hb HB) | (((with_reducible refine gate_dst (N := 4) rfl ?_); refine box_event ?hg (N := 4) ?hd (cs := #[.bool false, .int .i8 0, .int .u64 0]) (t := 64) ?hr ?_; (case hd => rfl); (case hg => rfl); (case hr => first | (go_simp; done) | (go_simp; rfl)); intro g2 hgq w2 hbx hb; have B2 := Aside0.mk hbx; have gq_g2 := Aside0.mk hgq; clear hbx hgq); have HB2 := Aside0.mk (below_step HB1.out hb); have P2 := Aside0.mk (blk_below B1.out hb); have Q2 := B2; clear c0 c1 c2 zc0 zc1 zc2; have c0 := (blk_cell P2.out 0).trans rfl; have zc0 := blk_frozen P2.out 0; have c1 := (blk_cell P2.out 1).trans rfl; have zc1 := blk_frozen P2.out 1; have c2 := (blk_cell P2.out 2).trans rfl; have zc2 := blk_frozen P2.out 2; have q0 := (blk_cell Q2.out 0).trans rfl; have zq0 := blk_frozen Q2.out 0; have q1 := (blk_cell Q2.out 1).trans rfl; have zq1 := blk_frozen Q2.out 1; have q2 := (blk_cell Q2.out 2).trans rfl; have zq2 := blk_frozen Q2.out 2; have n1 : g2 ≠ g1 := (by have e1 := blk_lt B1.out; have e2 := gq_g2.out; omega); have n2 := n1.symm; have G2 := Aside0.mk (show w.heap.size ≤ g2 by rw [gq_g2.out]; exact HB1.out.size); clear hb HB1 B1 B2))
  refine (HS.out _).mono ?_
  rintro e w3 ⟨rfl, hb⟩
  have HB3 := Aside0.mk (below_step HB2.out hb)
  have P3 := Aside0.mk (blk_below P2.out hb)
  have Q3 := Aside0.mk (blk_below Q2.out hb)
  clear hb HB2 P2 Q2 c0 c1 c2 zc0 zc1 zc2 q0 q1 q2 zq0 zq1 zq2
  have c0 := (blk_cell P3.out 0).trans rfl; have zc0 := blk_frozen P3.out 0; have c1 := (blk_cell P3.out 1).trans rfl; have zc1 := blk_frozen P3.out 1; have c2 := (blk_cell P3.out 2).trans rfl; have zc2 := blk_frozen P3.out 2
  have q0 := (blk_cell Q3.out 0).trans rfl; have zq0 := blk_frozen Q3.out 0; have q1 := (blk_cell Q3.out 1).trans rfl; have zq1 := blk_frozen Q3.out 1; have q2 := (blk_cell Q3.out 2).trans rfl; have zq2 := blk_frozen Q3.out 2
  go_wp2_with fail
  refine (isNeg_is false s c _).mono ?_
  rintro e w4 ⟨rfl, hb⟩
  have HB4 := Aside0.mk (below_step HB3.out hb)
  have P4 := Aside0.mk (blk_below P3.out hb)
  have Q4 := Aside0.mk (blk_below Q3.out hb)
  clear hb HB3 P3 Q3 c0 c1 c2 zc0 zc1 zc2 q0 q1 q2 zq0 zq1 zq2
  have c0 := (blk_cell P4.out 0).trans rfl; have zc0 := blk_frozen P4.out 0; have c1 := (blk_cell P4.out 1).trans rfl; have zc1 := blk_frozen P4.out 1; have c2 := (blk_cell P4.out 2).trans rfl; have zc2 := blk_frozen P4.out 2
  have q0 := (blk_cell Q4.out 0).trans rfl; have zq0 := blk_frozen Q4.out 0; have q1 := (blk_cell Q4.out 1).trans rfl; have zq1 := blk_frozen Q4.out 1; have q2 := (blk_cell Q4.out 2).trans rfl; have zq2 := blk_frozen Q4.out 2
  go_wp2_with fail
  refine (HS.out _).mono ?_
  rintro e w5 ⟨rfl, hb⟩
  have HB5 := Aside0.mk (below_step HB4.out hb)
  have P5 := Aside0.mk (blk_below P4.out hb)
  have Q5 := Aside0.mk (blk_below Q4.out hb)
  clear hb HB4 P4 Q4 c0 c1 c2 zc0 zc1 zc2 q0 q1 q2 zq0 zq1 zq2
  have c0 := (blk_cell P5.out 0).trans rfl; have zc0 := blk_frozen P5.out 0; have c1 := (blk_cell P5.out 1).trans rfl; have zc1 := blk_frozen P5.out 1; have c2 := (blk_cell P5.out 2).trans rfl; have zc2 := blk_frozen P5.out 2
  have q0 := (blk_cell Q5.out 0).trans rfl; have zq0 := blk_frozen Q5.out 0; have q1 := (blk_cell Q5.out 1).trans rfl; have zq1 := blk_frozen Q5.out 1; have q2 := (blk_cell Q5.out 2).trans rfl; have zq2 := blk_frozen Q5.out 2
  go_wp2_with fail
  refine (HT.out _ HB5.out).mono ?_
  rintro e w6 ⟨rfl, hb⟩
  have HB6 := Aside0.mk (below_step HB5.out hb)
  have P6 := Aside0.mk (blk_below P5.out hb)
  have Q6 := Aside0.mk (blk_below Q5.out hb)
  clear hb HB5 P5 Q5 c0 c1 c2 zc0 zc1 zc2 q0 q1 q2 zq0 zq1 zq2
  have c0 := (blk_cell P6.out 0).trans rfl; have zc0 := blk_frozen P6.out 0; have c1 := (blk_cell P6.out 1).trans rfl; have zc1 := blk_frozen P6.out 1; have c2 := (blk_cell P6.out 2).trans rfl; have zc2 := blk_frozen P6.out 2
  have q0 := (blk_cell Q6.out 0).trans rfl; have zq0 := blk_frozen Q6.out 0; have q1 := (blk_cell Q6.out 1).trans rfl; have zq1 := blk_frozen Q6.out 1; have q2 := (blk_cell Q6.out 2).trans rfl; have zq2 := blk_frozen Q6.out 2
  go_wp2_with fail
  refine (isNeg_is false s c _).mono ?_
  rintro e w7 ⟨rfl, hb⟩
  have HB7 := Aside0.mk (below_step HB6.out hb)
  have P7 := Aside0.mk (blk_below P6.out hb)
  have Q7 := Aside0.mk (blk_below Q6.out hb)
  clear hb HB6 P6 Q6 c0 c1 c2 zc0 zc1 zc2 q0 q1 q2 zq0 zq1 zq2
  have c0 := (blk_cell P7.out 0).trans rfl; have zc0 := blk_frozen P7.out 0; have c1 := (blk_cell P7.out 1).trans rfl; have zc1 := blk_frozen P7.out 1; have c2 := (blk_cell P7.out 2).trans rfl; have zc2 := blk_frozen P7.out 2
  have q0 := (blk_cell Q7.out 0).trans rfl; have zq0 := blk_frozen Q7.out 0; have q1 := (blk_cell Q7.out 1).trans rfl; have zq1 := blk_frozen Q7.out 1; have q2 := (blk_cell Q7.out 2).trans rfl; have zq2 := blk_frozen Q7.out 2
  go_wp2_with fail
  refine (newUnsafe_is false ((m : Nat) : Int) 0 _ (by omega) (by omega)).mono ?_
  rintro e w8 ⟨rfl, hb⟩
  have HB8 := Aside0.mk (below_step HB7.out hb)
  have P8 := Aside0.mk (blk_below P7.out hb)
  have Q8 := Aside0.mk (blk_below Q7.out hb)
  clear hb HB7 P7 Q7 c0 c1 c2 zc0 zc1 zc2 q0 q1 q2 zq0 zq1 zq2
  have c0 := (blk_cell P8.out 0).trans rfl; have zc0 := blk_frozen P8.out 0; have c1 := (blk_cell P8.out 1).trans rfl; have zc1 := blk_frozen P8.out 1; have c2 := (blk_cell P8.out 2).trans rfl; have zc2 := blk_frozen P8.out 2
  have q0 := (blk_cell Q8.out 0).trans rfl; have zq0 := blk_frozen Q8.out 0; have q1 := (blk_cell Q8.out 1).trans rfl; have zq1 := blk_frozen Q8.out 1; have q2 := (blk_cell Q8.out 2).trans rfl; have zq2 := blk_frozen Q8.out 2
  go_wp2
  exact bodyPost_ret (v := decOf false (m : Nat) 0) (by simp [results, Tryd.results47, go_sem, q0, q1, q2]) rfl ⟨rfl, by repeat (first | (with_reducible first | exact HB8.out | apply below_alloc | apply pw_below_drewN | apply below_drew1 | refine below_set ?_ G2.out | refine below_set ?_ (Nat.le_refl _)) | exact HB8.out)⟩
end Go.Proofs.YtcgdphciepdkiaaDoor.G
