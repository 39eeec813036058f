/- CONTRACTS of spec_wholeOf: each as the plain function beside it. (Began as print.sh's text for this seat; the turns are those of wip/tools/split.py.) -/
import Derived.Test.YtghabdpbacgicaaGreatDoorS0
namespace Go.Proofs.YtghabdpbacgicaaGreatDoor.S
open Go.RowKit Go.Proofs.YtghabdpbacgicaaGreatDoorW.PrintWords Go.Proofs.YtghabdpbacgicaaGreatDoorW.PrintLast Go.Proofs.YtghabdpbacgicaaGreatDoorW.PrintMore
attribute [local go_sem] max2_int min2_int max_two min_two max_three min_three max_four min_four   -- for this text's walks alone
set_option linter.unusedVariables false
set_option linter.unusedSimpArgs false

/-! ### spec_wholeOf: function 32 -/
def spec_wholeOf.f (a0 : Bool) (l1 : List Int) : Option (Bool × List Int) := if a0 = true then (some (decide (0 < l1.length), l1)) else (some (false, l1))
set_option maxHeartbeats 8000000 in
set_option maxRecDepth 100000 in
theorem spec_wholeOf.calls (a0 : Bool) (P1_ : Nat → Prop) (A1 : Option Addr) (c1 : Nat) (l1 : List Int) (r1 : Bool) (r2 : List Int) (w : World) (hs1 : Kd.V (Kd.int .u32) 76 w w.heap.size (fun k_ => P1_ k_) (.slice A1 l1.length c1) l1) (h : spec_wholeOf.f a0 l1 = some (r1, r2)) :
    Calls Tryz.prog 32 #[.bool a0, .slice A1 l1.length c1] w fun e w' => ∃ v1_ : Value, e = .returned (.agg #[.bool r1, v1_]) ∧ Kd.V (Kd.int .u32) 76 w' w.heap.size (fun k_ => (P1_ k_ ∨ w.heap.size ≤ k_)) v1_ r2 ∧ Below w.heap.size w w' := by
  have hu28 := Tryz.underlying28
  have HO1 := Aside0.mk (show Kd.V (Kd.int .u32) 76 w w.heap.size (fun k_ => (P1_ k_ ∨ w.heap.size ≤ k_)) (.slice A1 l1.length c1) l1 from Kd.V_mono hs1 (fun k_ hk => .inl hk))
  have HB := Aside0.mk (Below.refl w.heap.size w)
  have H : (if a0 = true then (some (decide (0 < l1.length), l1)) else (some (false, l1))) = some (r1, r2) := h
  clear h
  by_cases c3 : a0 = true
  · subst c3
    have H1 : (some (decide (0 < l1.length), l1)) = some (r1, r2) := by rw [if_pos rfl] at H; exact H
    clear H
    have H := H1
    clear H1
    simp only [Option.some.injEq, Prod.mk.injEq] at H
    obtain ⟨rfl, rfl⟩ := H
    go_enter Tryz.func32, Tryz.ntmps32
    go_wp2_with (first | ((with_reducible refine gate_dst (N := 4) rfl ?_); (try (refine gate_guard (by rfl) ?_; dsimp only)); refine box_event ?hg (N := 4) ?hd (cs := #[.bool false, .slice none 0 0]) (t := 28) ?hr ?_; (case hd => rfl); (case hg => rfl); (case hr => first | (go_simp; done) | (go_simp; rfl)); intro gb111 hg w4 hbox hb; have n0_ := Aside0.mk (Kd.V_below (Kd.V_elderB (by (with_reducible repeat (first | apply Kd.V_alloc | apply Kd.V_drewN | apply Kd.V_drew)); exact HO1.out) gb111 (Nat.le_of_eq hg.symm)) hb); have n1_ := Aside0.mk (below_step (by repeat (first | (with_reducible first | exact HB.out | apply below_alloc | apply pw_below_drewN | apply below_drew1) | exact HB.out)) hb); have n2_ := Aside0.mk (hbox); have n3_ := Aside0.mk ((by rw [hg]; exact (below_size (by repeat (first | (with_reducible first | exact HB.out | apply below_alloc | apply pw_below_drewN | apply below_drew1) | exact HB.out))) : w.heap.size ≤ gb111)); have n4_ := Aside0.mk ((by rw [hg]; exact (below_size (by repeat (first | (with_reducible first | exact HB.out | apply below_alloc | apply pw_below_drewN | apply below_drew1) | exact HB.out))) : w.heap.size ≤ gb111)); clear HO1; clear HB; have HO1 := n0_; have HB := n1_; have BK111 := n2_; have GW111 := n3_; have GE111 := n4_; clear n0_ n1_ n2_ n3_ n4_; clear hb hbox hg; have hcz5_0 : w4.cell? ⟨gb111, 0, none⟩ = some (.bool false) := (blk_cell BK111.out 0).trans rfl; have hcz5_1 : w4.cell? ⟨gb111, 1, none⟩ = some (.slice none 0 0) := (blk_cell BK111.out 1).trans rfl; have hfz5_0 := blk_frozen BK111.out 0; have hfz5_1 := blk_frozen BK111.out 1))
    refine bodyPost_ret (results_cell_row rfl _ _ gb111 28 #[.bool (decide (0 < l1.length)), .slice A1 l1.length c1] (0, 0) _ rfl (by (with_reducible repeat (first | refine blk_drewN ?_ _ | refine blk_drew ?_ | refine blk_alloc ?_ _)); refine blk_put (cs := #[.bool (decide (0 < l1.length)), .slice none 0 0]) ?_ 1 _ rfl; (with_reducible repeat (first | refine blk_drewN ?_ _ | refine blk_drew ?_ | refine blk_alloc ?_ _)); refine blk_put (cs := #[.bool false, .slice none 0 0]) ?_ 0 _ rfl; (with_reducible repeat (first | refine blk_drewN ?_ _ | refine blk_drew ?_ | refine blk_alloc ?_ _)); exact BK111.out) Tryz.underlying28 rfl (by kernel_rfl)) rfl ?_
    exact ⟨_, by first | rfl | (simp [errW_none, errW_some] <;> rfl) | (simp [*, errW_none, errW_some] <;> rfl), by (with_reducible repeat (first | apply Kd.V_alloc | apply Kd.V_drewN | apply Kd.V_drew)); exact Kd.V_mono (Kd.V_far (p := ⟨gb111, 1, none⟩) (Kd.V_far (p := ⟨gb111, 0, none⟩) (Kd.V_mono HO1.out (fun k_ hk => (⟨hk, hk.2⟩ : _ ∧ k_ ≠ gb111))) (fun _ hk => hk.2) (.bool (decide (0 < l1.length)))) (fun _ hk => hk.2) (.slice A1 l1.length c1)) (fun _ hk => hk.1.1), by repeat (first | (with_reducible first | exact HB.out | apply below_alloc | apply pw_below_drewN | apply below_drew1 | refine below_set ?_ GE111.out) | exact HB.out)⟩
  · replace c3 := Bool.eq_false_iff.mpr c3
    subst c3
    have H1 : (some (false, l1)) = some (r1, r2) := by rw [if_neg (show ¬ (false = true) by decide)] at H; exact H
    clear H
    have H := H1
    clear H1
    simp only [Option.some.injEq, Prod.mk.injEq] at H
    obtain ⟨rfl, rfl⟩ := H
    go_enter Tryz.func32, Tryz.ntmps32
    go_wp2_with (first | ((with_reducible refine gate_dst (N := 4) rfl ?_); (try (refine gate_guard (by rfl) ?_; dsimp only)); refine box_event ?hg (N := 4) ?hd (cs := #[.bool false, .slice none 0 0]) (t := 28) ?hr ?_; (case hd => rfl); (case hg => rfl); (case hr => first | (go_simp; done) | (go_simp; rfl)); intro gb111 hg w6 hbox hb; have n0_ := Aside0.mk (Kd.V_below (Kd.V_elderB (by (with_reducible repeat (first | apply Kd.V_alloc | apply Kd.V_drewN | apply Kd.V_drew)); exact HO1.out) gb111 (Nat.le_of_eq hg.symm)) hb); have n1_ := Aside0.mk (below_step (by repeat (first | (with_reducible first | exact HB.out | apply below_alloc | apply pw_below_drewN | apply below_drew1) | exact HB.out)) hb); have n2_ := Aside0.mk (hbox); have n3_ := Aside0.mk ((by rw [hg]; exact (below_size (by repeat (first | (with_reducible first | exact HB.out | apply below_alloc | apply pw_below_drewN | apply below_drew1) | exact HB.out))) : w.heap.size ≤ gb111)); have n4_ := Aside0.mk ((by rw [hg]; exact (below_size (by repeat (first | (with_reducible first | exact HB.out | apply below_alloc | apply pw_below_drewN | apply below_drew1) | exact HB.out))) : w.heap.size ≤ gb111)); clear HO1; clear HB; have HO1 := n0_; have HB := n1_; have BK111 := n2_; have GW111 := n3_; have GE111 := n4_; clear n0_ n1_ n2_ n3_ n4_; clear hb hbox hg; have hcz7_0 : w6.cell? ⟨gb111, 0, none⟩ = some (.bool false) := (blk_cell BK111.out 0).trans rfl; have hcz7_1 : w6.cell? ⟨gb111, 1, none⟩ = some (.slice none 0 0) := (blk_cell BK111.out 1).trans rfl; have hfz7_0 := blk_frozen BK111.out 0; have hfz7_1 := blk_frozen BK111.out 1))
    refine bodyPost_ret (results_cell_row rfl _ _ gb111 28 #[.bool false, .slice A1 l1.length c1] (0, 0) _ rfl (by (with_reducible repeat (first | refine blk_drewN ?_ _ | refine blk_drew ?_ | refine blk_alloc ?_ _)); refine blk_put (cs := #[.bool false, .slice none 0 0]) ?_ 1 _ rfl; (with_reducible repeat (first | refine blk_drewN ?_ _ | refine blk_drew ?_ | refine blk_alloc ?_ _)); refine blk_put (cs := #[.bool false, .slice none 0 0]) ?_ 0 _ rfl; (with_reducible repeat (first | refine blk_drewN ?_ _ | refine blk_drew ?_ | refine blk_alloc ?_ _)); exact BK111.out) Tryz.underlying28 rfl (by kernel_rfl)) rfl ?_
    exact ⟨_, by first | rfl | (simp [errW_none, errW_some] <;> rfl) | (simp [*, errW_none, errW_some] <;> rfl), by (with_reducible repeat (first | apply Kd.V_alloc | apply Kd.V_drewN | apply Kd.V_drew)); exact Kd.V_mono (Kd.V_far (p := ⟨gb111, 1, none⟩) (Kd.V_far (p := ⟨gb111, 0, none⟩) (Kd.V_mono HO1.out (fun k_ hk => (⟨hk, hk.2⟩ : _ ∧ k_ ≠ gb111))) (fun _ hk => hk.2) (.bool false)) (fun _ hk => hk.2) (.slice A1 l1.length c1)) (fun _ hk => hk.1.1), by repeat (first | (with_reducible first | exact HB.out | apply below_alloc | apply pw_below_drewN | apply below_drew1 | refine below_set ?_ GE111.out) | exact HB.out)⟩


end Go.Proofs.YtghabdpbacgicaaGreatDoor.S
