/-
  THE WALK of the law of FixFloor: what it answers, of what the thin package answers.
-/
import Derived.Test.YtcgdphciepdkiaaDoorGMake
import Derived.Test.YtcgdphciepdkiaaDoorSTo
import Derived.Outline
namespace Go.Proofs.YtcgdphciepdkiaaDoor.G
open Go.RowKit Go.Proofs.YtcgdphciepdkiaaDoorW.PrintWords Go.Proofs.YtcgdphciepdkiaaDoorW.PrintLast Go.Proofs.YtcgdphciepdkiaaDoorW.PrintMore Go.Proofs.YtcgdphciepdkiaaDoor.S Go.Proofs.YtcgdphciepdkiaaDoor.Lm
set_option linter.unusedVariables false
set_option linter.unusedSimpArgs false

theorem lawFloor_no (neg : Bool) (c s k : Int) (r1 : Bool) (r2 r3 f : Int) (w : World) (hi : ∀ w0, Below w.heap.size w w0 → Calls Tryd.prog 23 #[fixI neg c s, .int .i64 k] w0 fun e w' => e = .returned (.tuple #[fixI r1 r2 r3, .int .i64 f]) ∧ Below w0.heap.size w0 w')
    (h : spec_FixIs.f neg c s = some false) :
    Calls Tryd.prog 7 #[fixI neg c s, .int .i64 k] w fun e w' => e = .returned (.bool true) ∧ Below w.heap.size w w' := by
  have HI := Aside0.mk hi
  have HB := Aside0.mk (Below.refl w.heap.size w)
  have HF := Aside0.mk h
  clear hi h
  go_enter Tryd.func7, Tryd.ntmps7
  go_wp2_with (((with_reducible refine gate_dst (N := 2) rfl ?_); refine box_event ?hg (N := 2) ?hd (cs := #[.bool neg, .int .u64 c, .int .i64 s]) (t := 34) ?hr ?_; (case hd => rfl); (case hg => rfl); (case hr => first | (go_simp; done) | (go_simp; rfl)); intro g1 hgq w1 hbx hb; have B1 := Aside0.mk hbx; have gq_g1 := Aside0.mk hgq; clear hbx hgq); have HB1 := Aside0.mk (below_step HB.out hb); have c0 := (blk_cell B1.out 0).trans rfl; have zc0 := blk_frozen B1.out 0; have c1 := (blk_cell B1.out 1).trans rfl; have zc1 := blk_frozen B1.out 1; have c2 := (blk_cell B1.out 2).trans rfl; have zc2 := blk_frozen B1.out 2; clear hb HB)
  refine (HI.out _ HB1.out).mono ?_
  rintro e w2 ⟨rfl, hb⟩
  have HB2 := Aside0.mk (below_step HB1.out hb)
  have B2 := Aside0.mk (blk_below B1.out hb)
  clear hb HB1 B1 HI c0 c1 c2 zc0 zc1 zc2
  have c0 := (blk_cell B2.out 0).trans rfl; have zc0 := blk_frozen B2.out 0; have c1 := (blk_cell B2.out 1).trans rfl; have zc1 := blk_frozen B2.out 1; have c2 := (blk_cell B2.out 2).trans rfl; have zc2 := blk_frozen B2.out 2
  go_wp2_with (((with_reducible refine gate_dst (N := 5) rfl ?_); refine box_event ?hg (N := 5) ?hd (cs := #[.bool false, .int .u64 0, .int .i64 0]) (t := 34) ?hr ?_; (case hd => rfl); (case hg => rfl); (case hr => first | (go_simp; done) | (go_simp; rfl)); intro g3 hgq w3 hbx hb; have B3 := Aside0.mk hbx; have gq_g3 := Aside0.mk hgq; clear hbx hgq); have q0 := (blk_cell B3.out 0).trans rfl; have zq0 := blk_frozen B3.out 0; have q1 := (blk_cell B3.out 1).trans rfl; have zq1 := blk_frozen B3.out 1; have q2 := (blk_cell B3.out 2).trans rfl; have zq2 := blk_frozen B3.out 2; have B4 := Aside0.mk (blk_below B2.out hb); clear c0 c1 c2 zc0 zc1 zc2; have c0 := (blk_cell B4.out 0).trans rfl; have zc0 := blk_frozen B4.out 0; have c1 := (blk_cell B4.out 1).trans rfl; have zc1 := blk_frozen B4.out 1; have c2 := (blk_cell B4.out 2).trans rfl; have zc2 := blk_frozen B4.out 2; have HB3 := Aside0.mk (below_step HB2.out hb); have n1 : g3 ≠ g1 := (by have e1 := blk_lt B2.out; have e2 := gq_g3.out; omega); have n2 := n1.symm; have G3 := Aside0.mk (show w.heap.size ≤ g3 by rw [gq_g3.out]; exact HB2.out.size); clear hb HB2 B2)
  refine (spec_FixIs.calls neg c s _ _ HF.out).mono ?_
  rintro e w4 ⟨rfl, hb⟩
  have HB4 := Aside0.mk (below_step (below_set (j := 2) (v := .int .i64 r3) (below_set (j := 1) (v := .int .u64 r2) (below_set (j := 0) (v := .bool r1) HB3.out G3.out) G3.out) G3.out) hb)
  clear hb HB3
  go_wp2_with fail
  exact bodyPost_ret (v := .bool true) (by simp [results, Tryd.results7, go_sem]) rfl ⟨rfl, by repeat (first | (with_reducible first | exact HB4.out | apply below_alloc | apply pw_below_drewN | apply below_drew1 | refine below_set ?_ (Nat.le_refl _)) | exact HB4.out)⟩
theorem lawFloor_yes (neg : Bool) (c s k : Int) (r1 : Bool) (r2 r3 f : Int) (w : World) (hi : ∀ w0, Below w.heap.size w w0 → Calls Tryd.prog 23 #[fixI neg c s, .int .i64 k] w0 fun e w' => e = .returned (.tuple #[fixI r1 r2 r3, .int .i64 f]) ∧ Below w0.heap.size w0 w')
    (kf : Nat) (h0 : spec_FixIs.f neg c s = some true) (h : laws_gvTo.f kf neg c s r1 r2 r3 f k 2 = some true) :
    Calls Tryd.prog 7 #[fixI neg c s, .int .i64 k] w fun e w' => e = .returned (.bool true) ∧ Below w.heap.size w w' := by
  have HI := Aside0.mk hi
  have HB := Aside0.mk (Below.refl w.heap.size w)
  have HF := Aside0.mk h0
  have HG := Aside0.mk (fun w => laws_gvTo.calls kf neg c s r1 r2 r3 f k 2 true w h)
  clear hi h h0
  go_enter Tryd.func7, Tryd.ntmps7
  go_wp2_with (((with_reducible refine gate_dst (N := 2) rfl ?_); refine box_event ?hg (N := 2) ?hd (cs := #[.bool neg, .int .u64 c, .int .i64 s]) (t := 34) ?hr ?_; (case hd => rfl); (case hg => rfl); (case hr => first | (go_simp; done) | (go_simp; rfl)); intro g1 hgq w1 hbx hb; have B1 := Aside0.mk hbx; have gq_g1 := Aside0.mk hgq; clear hbx hgq); have HB1 := Aside0.mk (below_step HB.out hb); have c0 := (blk_cell B1.out 0).trans rfl; have zc0 := blk_frozen B1.out 0; have c1 := (blk_cell B1.out 1).trans rfl; have zc1 := blk_frozen B1.out 1; have c2 := (blk_cell B1.out 2).trans rfl; have zc2 := blk_frozen B1.out 2; clear hb HB)
  refine (HI.out _ HB1.out).mono ?_
  rintro e w2 ⟨rfl, hb⟩
  have HB2 := Aside0.mk (below_step HB1.out hb)
  have B2 := Aside0.mk (blk_below B1.out hb)
  clear hb HB1 B1 HI c0 c1 c2 zc0 zc1 zc2
  have c0 := (blk_cell B2.out 0).trans rfl; have zc0 := blk_frozen B2.out 0; have c1 := (blk_cell B2.out 1).trans rfl; have zc1 := blk_frozen B2.out 1; have c2 := (blk_cell B2.out 2).trans rfl; have zc2 := blk_frozen B2.out 2
  go_wp2_with (((with_reducible refine gate_dst (N := 5) rfl ?_); refine box_event ?hg (N := 5) ?hd (cs := #[.bool false, .int .u64 0, .int .i64 0]) (t := 34) ?hr ?_; (case hd => rfl); (case hg => rfl); (case hr => first | (go_simp; done) | (go_simp; rfl)); intro g3 hgq w3 hbx hb; have B3 := Aside0.mk hbx; have gq_g3 := Aside0.mk hgq; clear hbx hgq); have q0 := (blk_cell B3.out 0).trans rfl; have zq0 := blk_frozen B3.out 0; have q1 := (blk_cell B3.out 1).trans rfl; have zq1 := blk_frozen B3.out 1; have q2 := (blk_cell B3.out 2).trans rfl; have zq2 := blk_frozen B3.out 2; have B4 := Aside0.mk (blk_below B2.out hb); clear c0 c1 c2 zc0 zc1 zc2; have c0 := (blk_cell B4.out 0).trans rfl; have zc0 := blk_frozen B4.out 0; have c1 := (blk_cell B4.out 1).trans rfl; have zc1 := blk_frozen B4.out 1; have c2 := (blk_cell B4.out 2).trans rfl; have zc2 := blk_frozen B4.out 2; have HB3 := Aside0.mk (below_step HB2.out hb); have n1 : g3 ≠ g1 := (by have e1 := blk_lt B2.out; have e2 := gq_g3.out; omega); have n2 := n1.symm; have G3 := Aside0.mk (show w.heap.size ≤ g3 by rw [gq_g3.out]; exact HB2.out.size); clear hb HB2 B2)
  refine (spec_FixIs.calls neg c s _ _ HF.out).mono ?_
  rintro e w4 ⟨rfl, hb⟩
  have HB4 := Aside0.mk (below_step (below_set (j := 2) (v := .int .i64 r3) (below_set (j := 1) (v := .int .u64 r2) (below_set (j := 0) (v := .bool r1) HB3.out G3.out) G3.out) G3.out) hb)
  have B5 := Aside0.mk (blk_below (blk_put (cs' := #[.bool r1, .int .u64 r2, .int .i64 r3]) (blk_put (cs' := #[.bool r1, .int .u64 r2, .int .i64 0]) (blk_put (cs' := #[.bool r1, .int .u64 0, .int .i64 0]) B3.out 0 (.bool r1) rfl) 1 (.int .u64 r2) rfl) 2 (.int .i64 r3) rfl) hb)
  have B6 := Aside0.mk (blk_below (blk_far (p := ⟨g3, 2, none⟩) (blk_far (p := ⟨g3, 1, none⟩) (blk_far (p := ⟨g3, 0, none⟩) B4.out n2 (.bool r1)) n2 (.int .u64 r2)) n2 (.int .i64 r3)) hb)
  clear hb HB3 B3 B4 c0 c1 c2 zc0 zc1 zc2 q0 q1 q2 zq0 zq1 zq2
  have c0 := (blk_cell B6.out 0).trans rfl; have zc0 := blk_frozen B6.out 0; have c1 := (blk_cell B6.out 1).trans rfl; have zc1 := blk_frozen B6.out 1; have c2 := (blk_cell B6.out 2).trans rfl; have zc2 := blk_frozen B6.out 2
  have q0 := (blk_cell B5.out 0).trans rfl; have zq0 := blk_frozen B5.out 0; have q1 := (blk_cell B5.out 1).trans rfl; have zq1 := blk_frozen B5.out 1; have q2 := (blk_cell B5.out 2).trans rfl; have zq2 := blk_frozen B5.out 2
  go_wp2_with fail
  refine (HG.out _).mono ?_
  rintro e w5 ⟨rfl, hb⟩
  have HB5 := Aside0.mk (below_step HB4.out hb)
  clear hb HB4
  go_wp2_with fail
  exact bodyPost_ret (v := .bool true) (by simp [results, Tryd.results7, go_sem]) rfl ⟨rfl, by repeat (first | (with_reducible first | exact HB5.out | apply below_alloc | apply pw_below_drewN | apply below_drew1 | refine below_set ?_ (Nat.le_refl _)) | exact HB5.out)⟩
end Go.Proofs.YtcgdphciepdkiaaDoor.G
