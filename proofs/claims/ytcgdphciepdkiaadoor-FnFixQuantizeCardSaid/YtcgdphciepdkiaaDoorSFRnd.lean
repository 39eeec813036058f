/- CONTRACTS of spec_Frac_Round: each as the plain function beside it. (Began as print.sh's text for this seat; the turns are those of wip/tools/split.py.) -/
import Derived.Test.YtcgdphciepdkiaaDoorSMul
import Derived.Test.YtcgdphciepdkiaaDoorSPow
import Derived.Test.YtcgdphciepdkiaaDoorSCmp
import Derived.Test.YtcgdphciepdkiaaDoorSWOf
import Derived.Test.YtcgdphciepdkiaaDoorSDiv
import Derived.Test.YtcgdphciepdkiaaDoorSAdd
import Derived.Test.YtcgdphciepdkiaaDoorSRnd
namespace Go.Proofs.YtcgdphciepdkiaaDoor.S
open Go.RowKit Go.Proofs.YtcgdphciepdkiaaDoorW.PrintWords Go.Proofs.YtcgdphciepdkiaaDoorW.PrintLast Go.Proofs.YtcgdphciepdkiaaDoorW.PrintMore
attribute [local go_sem] max2_int min2_int max_two min_two max_three min_three max_four min_four   -- for this text's walks alone
set_option linter.unusedVariables false
set_option linter.unusedSimpArgs false

/-! ### spec_Frac_Round: function 41 -/
mutual
def spec_Frac_Round.j0 : Nat → Int → Int → List Int → List Int → Bool → List Int → List Int → Option (Bool × List Int × Int)
  | 0, _, _, _, _, _, _, _ => none
  | k + 1, x1, x2, x7, x8, x368000, x368001, x368002 => (spec_NatDiv.f k x7 x8).bind fun bt381 => (if (bt381.2.length : Int) > 0 then ((spec_NatAdd.f k bt381.2 bt381.2).bind fun t387 => ((spec_NatCmp.f k t387 x8).bind fun t390 => (if (bt381.1.length : Int) > 0 then (if 0 < (bt381.1.length : Int) then ((spec_rounds.f x2 x368000 t390 ((Int.tmod (rd bt381.1 0) 2) == 1)).bind fun t392 => (spec_Frac_Round.j1 k x1 bt381.1 t392 x368000 x368001 x368002)) else (none)) else ((spec_rounds.f x2 x368000 t390 false).bind fun t393 => (spec_Frac_Round.j1 k x1 bt381.1 t393 x368000 x368001 x368002))))) else (spec_Frac_Round.j1 k x1 bt381.1 false x368000 x368001 x368002))
def spec_Frac_Round.j1 : Nat → Int → List Int → Bool → Bool → List Int → List Int → Option (Bool × List Int × Int)
  | 0, _, _, _, _, _, _ => none
  | k + 1, x1, x9, x57, x368000, x368001, x368002 => if x57 = true then ((spec_one.f).bind fun t394 => ((spec_NatAdd.f k x9 t394).bind fun t397 => ((spec_wholeOf.f x368000 t397).bind fun bt400 => (some (bt400.1, bt400.2, wrap64 (-x1)))))) else ((spec_wholeOf.f x368000 x9).bind fun bt404 => (some (bt404.1, bt404.2, wrap64 (-x1))))
end
def spec_Frac_Round.f (k : Nat) (a0_0 : Bool) (l0_1 : List Int) (l0_2 : List Int) (a1 : Int) (a2 : Int) : Option (Bool × List Int × Int) := if a1 ≥ 0 then ((spec_Pow10.f k a1).bind fun t369 => ((spec_NatMul.f k l0_1 t369).bind fun t372 => (spec_Frac_Round.j0 k a1 a2 t372 l0_2 a0_0 l0_1 l0_2))) else ((spec_Pow10.f k (wrap64 (-a1))).bind fun t375 => ((spec_NatMul.f k l0_2 t375).bind fun t378 => (spec_Frac_Round.j0 k a1 a2 l0_1 t378 a0_0 l0_1 l0_2)))
theorem spec_Frac_Round.mono_l : ∀ k, (∀ y0 y1 y2 y3 y4 y5 y6, LeO (spec_Frac_Round.j0 k y0 y1 y2 y3 y4 y5 y6) (spec_Frac_Round.j0 (k + 1) y0 y1 y2 y3 y4 y5 y6)) ∧ (∀ y0 y1 y2 y3 y4 y5, LeO (spec_Frac_Round.j1 k y0 y1 y2 y3 y4 y5) (spec_Frac_Round.j1 (k + 1) y0 y1 y2 y3 y4 y5))
  | 0 => ⟨fun _ _ _ _ _ _ _ r h => by simp [spec_Frac_Round.j0] at h, fun _ _ _ _ _ _ r h => by simp [spec_Frac_Round.j1] at h⟩
  | k + 1 => by
    obtain ⟨ih0, ih1⟩ := spec_Frac_Round.mono_l k
    refine ⟨?_, ?_⟩
    · intro y0 y1 y2 y3 y4 y5 y6
      unfold spec_Frac_Round.j0
      repeat' first
      | (with_reducible exact ih0 _ _ _ _ _ _ _)
      | (with_reducible exact ih1 _ _ _ _ _ _)
      | (with_reducible exact spec_NatAdd.mono _ _ _)
      | (with_reducible exact spec_NatCmp.mono _ _ _)
      | (with_reducible exact spec_NatDiv.mono _ _ _)
      | (with_reducible exact spec_NatMul.mono _ _ _)
      | (with_reducible exact spec_Pow10.mono _ _)
      | (with_reducible exact LeO.refl _)
      | (with_reducible exact LeO.none _)
      | (with_reducible refine LeO.ite ?_ ?_)
      | (with_reducible refine LeO.bind ?_ (fun _ => ?_))
      | exact ih0 _ _ _ _ _ _ _
      | exact ih1 _ _ _ _ _ _
      | exact spec_NatAdd.mono _ _ _
      | exact spec_NatCmp.mono _ _ _
      | exact spec_NatDiv.mono _ _ _
      | exact spec_NatMul.mono _ _ _
      | exact spec_Pow10.mono _ _
      | exact LeO.none _
      | refine LeO.ite ?_ ?_
      | refine LeO.bind ?_ (fun _ => ?_)
    · intro y0 y1 y2 y3 y4 y5
      unfold spec_Frac_Round.j1
      repeat' first
      | (with_reducible exact ih0 _ _ _ _ _ _ _)
      | (with_reducible exact ih1 _ _ _ _ _ _)
      | (with_reducible exact spec_NatAdd.mono _ _ _)
      | (with_reducible exact spec_NatCmp.mono _ _ _)
      | (with_reducible exact spec_NatDiv.mono _ _ _)
      | (with_reducible exact spec_NatMul.mono _ _ _)
      | (with_reducible exact spec_Pow10.mono _ _)
      | (with_reducible exact LeO.refl _)
      | (with_reducible exact LeO.none _)
      | (with_reducible refine LeO.ite ?_ ?_)
      | (with_reducible refine LeO.bind ?_ (fun _ => ?_))
      | exact ih0 _ _ _ _ _ _ _
      | exact ih1 _ _ _ _ _ _
      | exact spec_NatAdd.mono _ _ _
      | exact spec_NatCmp.mono _ _ _
      | exact spec_NatDiv.mono _ _ _
      | exact spec_NatMul.mono _ _ _
      | exact spec_Pow10.mono _ _
      | exact LeO.none _
      | refine LeO.ite ?_ ?_
      | refine LeO.bind ?_ (fun _ => ?_)
theorem spec_Frac_Round.mono : ∀ a0 a1 a2 a3 a4 k, LeO (spec_Frac_Round.f k a0 a1 a2 a3 a4) (spec_Frac_Round.f (k + 1) a0 a1 a2 a3 a4) := by
  intro a0 a1 a2 a3 a4 k
  obtain ⟨ih0, ih1⟩ := spec_Frac_Round.mono_l k
  unfold spec_Frac_Round.f
  repeat' first
      | (with_reducible exact ih0 _ _ _ _ _ _ _)
      | (with_reducible exact ih1 _ _ _ _ _ _)
      | (with_reducible exact spec_NatAdd.mono _ _ _)
      | (with_reducible exact spec_NatCmp.mono _ _ _)
      | (with_reducible exact spec_NatDiv.mono _ _ _)
      | (with_reducible exact spec_NatMul.mono _ _ _)
      | (with_reducible exact spec_Pow10.mono _ _)
      | (with_reducible exact LeO.refl _)
      | (with_reducible exact LeO.none _)
      | (with_reducible refine LeO.ite ?_ ?_)
      | (with_reducible refine LeO.bind ?_ (fun _ => ?_))
      | exact ih0 _ _ _ _ _ _ _
      | exact ih1 _ _ _ _ _ _
      | exact spec_NatAdd.mono _ _ _
      | exact spec_NatCmp.mono _ _ _
      | exact spec_NatDiv.mono _ _ _
      | exact spec_NatMul.mono _ _ _
      | exact spec_Pow10.mono _ _
      | exact LeO.none _
      | refine LeO.ite ?_ ?_
      | refine LeO.bind ?_ (fun _ => ?_)
def spec_Frac_Round.T6 : Bool × List (List Nat × List Nat) := (true, [([], []), ([0], [0]), ([1], [1]), ([2], [2]), ([3], [3]), ([3], [3]), ([5, 3], [3, 5]), ([6, 3], [3, 6]), ([3], [3]), ([3], [3]), ([8, 9, 3, 3], [3, 8, 9]), ([3], [3]), ([10, 11, 10, 3], [3, 10, 11]), ([3], [3]), ([13, 3], [3, 13]), ([14, 3], [3, 14]), ([15, 12, 3], [3, 15]), ([16], [16]), ([17, 16], [16, 17]), ([18, 16], [16, 18]), ([19, 16], [16, 19]), ([20, 16], [16, 20]), ([16, 21, 3], [3, 16, 21]), ([4, 7, 12, 22, 16, 3], [3, 4, 7, 12, 22]), ([3, 23], [3, 23])])
def spec_Frac_Round.B6 : List Nat := [0, 1, 3, 7, 15, 15, 47, 111, 15, 15, 783, 15, 3855, 15, 8207, 24591, 65295, 130831, 261903, 524047, 1048335, 2096911, 4194063, 8388607, 16777215]
theorem spec_Frac_Round.tab6 : rtab .any (opsOf Tryd.f41 6) = spec_Frac_Round.T6 := by kernel_rfl
theorem spec_Frac_Round.bits6 : waitsOk spec_Frac_Round.T6.2 spec_Frac_Round.B6 = true := by kernel_rfl
set_option maxHeartbeats 8000000 in
set_option maxRecDepth 100000 in
theorem spec_Frac_Round.calls (k : Nat) (a0_0 : Bool) (P0_1_ : Nat → Prop) (A0_1 : Option Addr) (c0_1 : Nat) (l0_1 : List Int) (P0_2_ : Nat → Prop) (A0_2 : Option Addr) (c0_2 : Nat) (l0_2 : List Int) (a1 : Int) (a2 : Int) (r1 : Bool) (r2 : List Int) (r3 : Int) (w : World) (hs0_1 : Kd.V (Kd.int .u32) 59 w w.heap.size (fun k_ => P0_1_ k_) (.slice A0_1 l0_1.length c0_1) l0_1) (hs0_2 : Kd.V (Kd.int .u32) 59 w w.heap.size (fun k_ => P0_2_ k_) (.slice A0_2 l0_2.length c0_2) l0_2) (h : spec_Frac_Round.f k a0_0 l0_1 l0_2 a1 a2 = some (r1, r2, r3)) :
    Calls Tryd.prog 41 #[.agg #[.bool a0_0, .slice A0_1 l0_1.length c0_1, .slice A0_2 l0_2.length c0_2], .int .i64 a1, .int .i64 a2] w fun e w' => ∃ v1_ : Value, e = .returned (.agg #[.bool r1, v1_, .int .i64 r3]) ∧ Kd.V (Kd.int .u32) 59 w' w.heap.size (fun k_ => ((P0_1_ k_ ∨ P0_2_ k_) ∨ w.heap.size ≤ k_)) v1_ r2 ∧ Below w.heap.size w w' := by
  have hu78 := Tryd.underlying78
  have hu40 := Tryd.underlying40
  have HO0_1 := Aside0.mk (show Kd.V (Kd.int .u32) 59 w w.heap.size (fun k_ => ((P0_1_ k_ ∨ P0_2_ k_) ∨ w.heap.size ≤ k_)) (.slice A0_1 l0_1.length c0_1) l0_1 from Kd.V_mono hs0_1 (fun k_ hk => .inl (.inl hk)))
  have HO0_2 := Aside0.mk (show Kd.V (Kd.int .u32) 59 w w.heap.size (fun k_ => ((P0_1_ k_ ∨ P0_2_ k_) ∨ w.heap.size ≤ k_)) (.slice A0_2 l0_2.length c0_2) l0_2 from Kd.V_mono hs0_2 (fun k_ hk => .inl (.inr hk)))
  have HB := Aside0.mk (Below.refl w.heap.size w)
  have H : (if a1 ≥ 0 then ((spec_Pow10.f k a1).bind fun t369 => ((spec_NatMul.f k l0_1 t369).bind fun t372 => (spec_Frac_Round.j0 k a1 a2 t372 l0_2 a0_0 l0_1 l0_2))) else ((spec_Pow10.f k (wrap64 (-a1))).bind fun t375 => ((spec_NatMul.f k l0_2 t375).bind fun t378 => (spec_Frac_Round.j0 k a1 a2 l0_1 t378 a0_0 l0_1 l0_2)))) = some (r1, r2, r3) := h
  clear h
  have HC4 := Aside0.mk H
  clear H
  go_enter Tryd.func41, Tryd.ntmps41
  try go_wp2_with (first | ((with_reducible refine gate_dst (N := 3) rfl ?_); (try (refine gate_guard (by rfl) ?_; dsimp only)); refine box_event ?hg (N := 3) ?hd (cs := #[.bool a0_0, .slice A0_1 l0_1.length c0_1, .slice A0_2 l0_2.length c0_2]) (t := 78) ?hr ?_; (case hd => rfl); (case hg => rfl); (case hr => first | (go_simp; done) | (go_simp; rfl)); intro gb367 hg w5 hbox hb; have n0_ := Aside0.mk (Kd.V_below (Kd.V_elderB (by (with_reducible repeat (first | apply Kd.V_alloc | apply Kd.V_drewN | apply Kd.V_drew)); exact HO0_1.out) gb367 (Nat.le_of_eq hg.symm)) hb); have n1_ := Aside0.mk (Kd.V_below (Kd.V_elderB (by (with_reducible repeat (first | apply Kd.V_alloc | apply Kd.V_drewN | apply Kd.V_drew)); exact HO0_2.out) gb367 (Nat.le_of_eq hg.symm)) hb); have n2_ := Aside0.mk (below_step (by repeat (first | (with_reducible first | exact HB.out | apply below_alloc | apply pw_below_drewN | apply below_drew1) | exact HB.out)) hb); have n3_ := Aside0.mk (hbox); have n4_ := Aside0.mk ((by rw [hg]; exact (below_size (by repeat (first | (with_reducible first | exact HB.out | apply below_alloc | apply pw_below_drewN | apply below_drew1) | exact HB.out))) : w.heap.size ≤ gb367)); have n5_ := Aside0.mk ((by rw [hg]; exact (below_size (by repeat (first | (with_reducible first | exact HB.out | apply below_alloc | apply pw_below_drewN | apply below_drew1) | exact HB.out))) : w.heap.size ≤ gb367)); clear HO0_1; clear HO0_2; clear HB; have HO0_1 := n0_; have HO0_2 := n1_; have HB := n2_; have BK367 := n3_; have GW367 := n4_; have GE367 := n5_; clear n0_ n1_ n2_ n3_ n4_ n5_; clear hb hbox hg) | ((with_reducible refine gate_dst (N := 6) rfl ?_); (try (refine gate_guard (by rfl) ?_; dsimp only)); refine box_event ?hg (N := 6) ?hd (cs := #[.bool false, .slice none 0 0, .int .i64 0]) (t := 40) ?hr ?_; (case hd => rfl); (case hg => rfl); (case hr => first | (go_simp; done) | (go_simp; rfl)); intro gb368 hg w6 hbox hb; have n0_ := Aside0.mk (Kd.V_below (Kd.V_elderB (by (with_reducible repeat (first | apply Kd.V_alloc | apply Kd.V_drewN | apply Kd.V_drew)); exact HO0_1.out) gb368 (Nat.le_of_eq hg.symm)) hb); have n1_ := Aside0.mk (Kd.V_below (Kd.V_elderB (by (with_reducible repeat (first | apply Kd.V_alloc | apply Kd.V_drewN | apply Kd.V_drew)); exact HO0_2.out) gb368 (Nat.le_of_eq hg.symm)) hb); have n2_ := Aside0.mk (blk_below (g := gb367) (o := .cells #[.bool a0_0, .slice A0_1 l0_1.length c0_1, .slice A0_2 l0_2.length c0_2] 78 (0, 0)) (by (with_reducible repeat (first | refine blk_drewN ?_ _ | refine blk_drew ?_ | refine blk_alloc ?_ _)); exact BK367.out) hb); have n3_ := Aside0.mk (below_step (by repeat (first | (with_reducible first | exact HB.out | apply below_alloc | apply pw_below_drewN | apply below_drew1 | refine below_set ?_ GE367.out) | exact HB.out)) hb); have n4_ := Aside0.mk (hbox); have n5_ := Aside0.mk ((by rw [hg]; exact (below_size (by repeat (first | (with_reducible first | exact HB.out | apply below_alloc | apply pw_below_drewN | apply below_drew1 | refine below_set ?_ GE367.out) | exact HB.out))) : w.heap.size ≤ gb368)); have n6_ := Aside0.mk ((by rw [hg]; exact (below_size (by repeat (first | (with_reducible first | exact HB.out | apply below_alloc | apply pw_below_drewN | apply below_drew1 | refine below_set ?_ GE367.out) | exact HB.out))) : w.heap.size ≤ gb368)); have n7_ := Aside0.mk ((by rw [hg]; exact Nat.ne_of_lt (blk_lt (g := gb367) (o := .cells #[.bool a0_0, .slice A0_1 l0_1.length c0_1, .slice A0_2 l0_2.length c0_2] 78 (0, 0)) (by (with_reducible repeat (first | refine blk_drewN ?_ _ | refine blk_drew ?_ | refine blk_alloc ?_ _)); exact BK367.out)) : gb367 ≠ gb368)); have n8_ := Aside0.mk ((by rw [hg]; exact Nat.ne_of_gt (blk_lt (g := gb367) (o := .cells #[.bool a0_0, .slice A0_1 l0_1.length c0_1, .slice A0_2 l0_2.length c0_2] 78 (0, 0)) (by (with_reducible repeat (first | refine blk_drewN ?_ _ | refine blk_drew ?_ | refine blk_alloc ?_ _)); exact BK367.out)) : gb368 ≠ gb367)); clear HO0_1; clear HO0_2; clear BK367; clear HB; have HO0_1 := n0_; have HO0_2 := n1_; have BK367 := n2_; have HB := n3_; have BK368 := n4_; have GW368 := n5_; have GE368 := n6_; have NB367_368 := n7_; have NB368_367 := n8_; clear n0_ n1_ n2_ n3_ n4_ n5_ n6_ n7_ n8_; clear hb hbox hg))
  have n0_ := Aside0.mk (Kd.V_drew HO0_1.out)
  have n1_ := Aside0.mk (Kd.V_drew HO0_2.out)
  have n2_ := Aside0.mk (blk_drew BK367.out)
  have n3_ := Aside0.mk (blk_drew BK368.out)
  have n4_ := Aside0.mk (below_drew1 HB.out)
  clear HO0_1
  clear HO0_2
  clear BK367
  clear BK368
  clear HB
  have HO0_1 := n0_
  have HO0_2 := n1_
  have BK367 := n2_
  have BK368 := n3_
  have HB := n4_
  clear n0_ n1_ n2_ n3_ n4_
  refine start_ (n := 7) (S := fun w' => w'.cell? ⟨gb367, 0, none⟩ = some (.bool a0_0) ∧ w'.cell? ⟨gb367, 1, none⟩ = some (.slice A0_1 l0_1.length c0_1) ∧ w'.cell? ⟨gb367, 2, none⟩ = some (.slice A0_2 l0_2.length c0_2)) (ds := []) #[false, false, false, false, false, false, false] (by kernel_rfl) rfl rfl ⟨(blk_cell BK367.out 0).trans rfl, (blk_cell BK367.out 1).trans rfl, (blk_cell BK367.out 2).trans rfl⟩ (fun hHeld => ?_)
  generalize w6.drew = w7 at HO0_1 HO0_2 BK367 BK368 HB hHeld ⊢
  refine pure_ (i := 0) (N := some 11) (v := ?_) (a' := ?_) #[true, false, false, false, false, false, false] rfl rfl (by kernel_rfl) (fun _ _ _ h => h) (Or.inl ⟨by rfl, ?_⟩) ?_ ?_
  rotate_left
  · intro w'
    go_simp
    with_reducible rfl
  rotate_left
  · simp only [Act.put, List.setIfInBounds_toArray, List.set_cons_zero, List.set_cons_succ, i64_w, i32_w]
    rfl
  refine pure_ (i := 1) (N := some 12) (v := ?_) (a' := ?_) #[true, true, false, false, false, false, false] rfl rfl (by kernel_rfl) (fun _ _ _ h => h) (Or.inl ⟨by rfl, ?_⟩) ?_ ?_
  rotate_left
  · intro w'
    go_simp
    with_reducible rfl
  rotate_left
  · simp only [Act.put, List.setIfInBounds_toArray, List.set_cons_zero, List.set_cons_succ, i64_w, i32_w]
    rfl
  refine pure_ (i := 3) (N := some 14) (v := ?_) (a' := ?_) #[true, true, false, true, false, false, false] rfl rfl (by kernel_rfl) (fun _ _ _ h => h) (Or.inl ⟨by rfl, ?_⟩) ?_ ?_
  rotate_left
  · intro w'
    go_simp
    with_reducible rfl
  rotate_left
  · simp only [Act.put, List.setIfInBounds_toArray, List.set_cons_zero, List.set_cons_succ, i64_w, i32_w]
    rfl
  refine take_ (i := 2) (N := some 13) (v := ?_) (a' := ?_) #[true, true, true, true, false, false, false] rfl rfl (by kernel_rfl) (fun _ _ _ h => h) (Or.inl ⟨by rfl, ?_⟩) hHeld ?_ ?_
  rotate_left
  · rintro w' ⟨s0, s1, s2⟩
    go_simp
    with_reducible rfl
  rotate_left
  · simp only [Act.put, List.setIfInBounds_toArray, List.set_cons_zero, List.set_cons_succ, i64_w, i32_w]
    rfl
  refine pure_ (i := 5) (N := some 7) (v := ?_) (a' := ?_) #[true, true, true, true, false, true, false] rfl rfl (by kernel_rfl) (fun _ _ _ h => h) (Or.inl ⟨by rfl, ?_⟩) ?_ ?_
  rotate_left
  · intro w'
    go_simp
    with_reducible rfl
  rotate_left
  · simp only [Act.put, List.setIfInBounds_toArray, List.set_cons_zero, List.set_cons_succ, i64_w, i32_w]
    rfl
  refine take_ (i := 4) (N := some 15) (v := ?_) (a' := ?_) #[true, true, true, true, true, true, false] rfl rfl (by kernel_rfl) (fun _ _ _ h => h) (Or.inl ⟨by rfl, ?_⟩) hHeld ?_ ?_
  rotate_left
  · rintro w' ⟨s0, s1, s2⟩
    go_simp
    with_reducible rfl
  rotate_left
  · simp only [Act.put, List.setIfInBounds_toArray, List.set_cons_zero, List.set_cons_succ, i64_w, i32_w]
    rfl
  refine pure_ (i := 6) (N := some 8) (v := ?_) (a' := ?_) #[true, true, true, true, true, true, true] rfl rfl (by kernel_rfl) (fun _ _ _ h => h) (Or.inl ⟨by rfl, ?_⟩) ?_ ?_
  rotate_left
  · intro w'
    go_simp
    with_reducible rfl
  rotate_left
  · simp only [Act.put, List.setIfInBounds_toArray, List.set_cons_zero, List.set_cons_succ, i64_w, i32_w]
    rfl
  refine done_ (by kernel_rfl) ?_
  go_upto_if 17 with (fail)
  go_cut [7, 8] (fun v7 v8 wc => ∃ (kq : Nat) (x7_3 : List Int) (x8_3 : List Int), Aside0 (spec_Frac_Round.j0 kq a1 a2 x7_3 x8_3 a0_0 l0_1 l0_2 = some (r1, r2, r3)) ∧ Aside0 (kq ≤ k) ∧ Aside0 (Kd.V (Kd.int .u32) 59 wc w.heap.size (fun k_ => ((P0_1_ k_ ∨ P0_2_ k_) ∨ w.heap.size ≤ k_) ∧ k_ ≠ gb367 ∧ k_ ≠ gb368) v7 x7_3) ∧ Aside0 (Kd.V (Kd.int .u32) 59 wc w.heap.size (fun k_ => ((P0_1_ k_ ∨ P0_2_ k_) ∨ w.heap.size ≤ k_) ∧ k_ ≠ gb367 ∧ k_ ≠ gb368) v8 x8_3) ∧ Aside0 (Kd.V (Kd.int .u32) 59 wc w.heap.size (fun k_ => ((P0_1_ k_ ∨ P0_2_ k_) ∨ w.heap.size ≤ k_) ∧ k_ ≠ gb367 ∧ k_ ≠ gb368) (.slice A0_1 l0_1.length c0_1) l0_1) ∧ Aside0 (Kd.V (Kd.int .u32) 59 wc w.heap.size (fun k_ => ((P0_1_ k_ ∨ P0_2_ k_) ∨ w.heap.size ≤ k_) ∧ k_ ≠ gb367 ∧ k_ ≠ gb368) (.slice A0_2 l0_2.length c0_2) l0_2) ∧ Aside0 (wc.heap[gb367]? = some (.cells #[.bool a0_0, (.slice A0_1 l0_1.length c0_1), (.slice A0_2 l0_2.length c0_2)] 78 (0, 0))) ∧ Aside0 (wc.heap[gb368]? = some (.cells #[.bool false, (.slice none 0 0), .int .i64 0] 40 (0, 0))) ∧ Aside0 (Below w.heap.size w wc))
  case first =>
    have H := HC4.out
    clear HC4
    by_cases c8 : a1 ≥ 0
    · rw [if_pos c8] at H
      have c8b0 : decide (0 ≤ a1) = true := decide_eq_true c8
      clear c8
      (first | rw [c8b0] | (simp only [i64_w, i32_w]; rw [c8b0]) | skip)
      replace H := Option.bind_eq_some_iff.mp H
      obtain ⟨t369, A90, H⟩ := H
      replace H : ((spec_NatMul.f k l0_1 t369).bind fun t372 => (spec_Frac_Round.j0 k a1 a2 t372 l0_2 a0_0 l0_1 l0_2)) = some (r1, r2, r3) := H
      have A9 := Aside0.mk A90
      clear A90
      replace H := Option.bind_eq_some_iff.mp H
      obtain ⟨t372, A100, H⟩ := H
      replace H : (spec_Frac_Round.j0 k a1 a2 t372 l0_2 a0_0 l0_1 l0_2) = some (r1, r2, r3) := H
      have A10 := Aside0.mk A100
      clear A100
      have H' := Aside0.mk H
      clear H
      go_wp2_with (first | ((with_reducible refine gate_callee (f := 14) rfl ?_); refine goesL_ (some 20) rfl rfl Tryd.func14 (by kernel_rfl) rfl #[.int .i64 a1] rfl (by (try simp only [List.map_toArray, List.map_cons, List.map_nil]); first | done | rfl | (simp only [List.length_drop, List.length_take]; rfl)) ?_; (with_reducible refine (spec_Pow10.calls k a1 t369 _ A9.out).mono ?_); rintro e w11 ⟨v370, rfl, ho0, hb⟩; refine ⟨_, rfl, ?_⟩; have n0_ := Aside0.mk (Kd.V_elder' (by (with_reducible repeat (first | apply Kd.V_alloc | apply Kd.V_drewN | apply Kd.V_drew)); exact HO0_1.out) (Kd.R_base ho0) hb); have n1_ := Aside0.mk (Kd.V_elder' (by (with_reducible repeat (first | apply Kd.V_alloc | apply Kd.V_drewN | apply Kd.V_drew)); exact HO0_2.out) (Kd.R_base ho0) hb); have n2_ := Aside0.mk (Kd.R_lower (Kd.R_newM (M := fun k_ => (w.heap.size ≤ k_)) ho0 (below_size (by repeat (first | (with_reducible first | exact HB.out | apply below_alloc | apply pw_below_drewN | apply below_drew1 | refine below_set ?_ GE367.out | refine below_set ?_ GE368.out) | exact HB.out))) (fun k_ h_ => h_)) (below_size (by repeat (first | (with_reducible first | exact HB.out | apply below_alloc | apply pw_below_drewN | apply below_drew1 | refine below_set ?_ GE367.out | refine below_set ?_ GE368.out) | exact HB.out)))); have n3_ := Aside0.mk (blk_below (g := gb367) (o := .cells #[.bool a0_0, .slice A0_1 l0_1.length c0_1, .slice A0_2 l0_2.length c0_2] 78 (0, 0)) (by (with_reducible repeat (first | refine blk_drewN ?_ _ | refine blk_drew ?_ | refine blk_alloc ?_ _)); exact BK367.out) hb); have n4_ := Aside0.mk (blk_below (g := gb368) (o := .cells #[.bool false, .slice none 0 0, .int .i64 0] 40 (0, 0)) (by (with_reducible repeat (first | refine blk_drewN ?_ _ | refine blk_drew ?_ | refine blk_alloc ?_ _)); exact BK368.out) hb); have n5_ := Aside0.mk (below_step (by repeat (first | (with_reducible first | exact HB.out | apply below_alloc | apply pw_below_drewN | apply below_drew1 | refine below_set ?_ GE367.out | refine below_set ?_ GE368.out) | exact HB.out)) hb); clear HO0_1; clear HO0_2; clear BK367; clear BK368; clear HB; have HO0_1 := n0_; have HO0_2 := n1_; have HO371 := n2_; have BK367 := n3_; have BK368 := n4_; have HB := n5_; clear n0_ n1_ n2_ n3_ n4_ n5_; (try clear hb); (try clear hb2); (try clear hk); (try clear hi); (try clear ho0); obtain ⟨Ao12, co12, eo12⟩ := Kd.R_slice HO371.out; subst eo12) | ((with_reducible refine gate_callee (f := 12) rfl ?_); refine goesL_ (some 21) rfl rfl Tryd.func12 (by kernel_rfl) rfl #[.slice A0_1 l0_1.length c0_1, .slice Ao12 t369.length co12] rfl (by (try simp only [List.map_toArray, List.map_cons, List.map_nil]); first | done | rfl | (simp only [List.length_drop, List.length_take]; rfl)) ?_; (with_reducible refine (spec_NatMul.calls k _ _ l0_1 _ _ t369 t372 _ ?side1 ?side2 ?side3 ?side4 A10.out).mono ?_); (case side1 => repeat (first | exact (Kd.V_reads' HO0_1.out).2.2 | (with_reducible refine Kd.C_alloc ?_ _) | (with_reducible refine Kd.C_drewN ?_ _) | (with_reducible refine Kd.C_drew ?_))); (case side2 => exact (Kd.V_reads' HO0_1.out).2.1); (case side3 => repeat (first | exact (Kd.R_reads' HO371.out).2.2 | (with_reducible refine Kd.C_alloc ?_ _) | (with_reducible refine Kd.C_drewN ?_ _) | (with_reducible refine Kd.C_drew ?_))); (case side4 => exact (Kd.R_reads' HO371.out).2.1); rintro e w13 ⟨v373, rfl, ho0, hb⟩; refine ⟨_, rfl, ?_⟩; have n0_ := Aside0.mk (Kd.V_below (by (with_reducible repeat (first | apply Kd.V_alloc | apply Kd.V_drewN | apply Kd.V_drew)); exact HO0_1.out) hb); have n1_ := Aside0.mk (Kd.V_below (by (with_reducible repeat (first | apply Kd.V_alloc | apply Kd.V_drewN | apply Kd.V_drew)); exact HO0_2.out) hb); have n2_ := Aside0.mk (Kd.R_below (by (with_reducible repeat (first | apply Kd.R_alloc | apply Kd.R_drewN | apply Kd.R_drew)); exact HO371.out) hb); have n3_ := Aside0.mk (Kd.V_lower (Kd.V_mono (ok' := fun k_ => ((P0_1_ k_ ∨ P0_2_ k_) ∨ w.heap.size ≤ k_) ∧ some k_ ≠ (.slice Ao12 t369.length co12 : Value).ownBlock ∧ k_ ≠ gb367 ∧ k_ ≠ gb368) ho0 (fun k_ hk_ => ⟨(.inr (Nat.le_trans (below_size (by repeat (first | (with_reducible first | exact HB.out | apply below_alloc | apply pw_below_drewN | apply below_drew1 | refine below_set ?_ GE367.out | refine below_set ?_ GE368.out) | exact HB.out))) hk_)), (Kd.fresh' (Kd.R_lt (by (with_reducible repeat (first | apply Kd.R_alloc | apply Kd.R_drewN | apply Kd.R_drew)); exact HO371.out)) k_ hk_), (Kd.freshB (g := gb367) (o := .cells #[.bool a0_0, .slice A0_1 l0_1.length c0_1, .slice A0_2 l0_2.length c0_2] 78 (0, 0)) (by (with_reducible repeat (first | refine blk_drewN ?_ _ | refine blk_drew ?_ | refine blk_alloc ?_ _)); exact BK367.out) k_ hk_), (Kd.freshB (g := gb368) (o := .cells #[.bool false, .slice none 0 0, .int .i64 0] 40 (0, 0)) (by (with_reducible repeat (first | refine blk_drewN ?_ _ | refine blk_drew ?_ | refine blk_alloc ?_ _)); exact BK368.out) k_ hk_)⟩)) (below_size (by repeat (first | (with_reducible first | exact HB.out | apply below_alloc | apply pw_below_drewN | apply below_drew1 | refine below_set ?_ GE367.out | refine below_set ?_ GE368.out) | exact HB.out)))); have n4_ := Aside0.mk (blk_below (g := gb367) (o := .cells #[.bool a0_0, .slice A0_1 l0_1.length c0_1, .slice A0_2 l0_2.length c0_2] 78 (0, 0)) (by (with_reducible repeat (first | refine blk_drewN ?_ _ | refine blk_drew ?_ | refine blk_alloc ?_ _)); exact BK367.out) hb); have n5_ := Aside0.mk (blk_below (g := gb368) (o := .cells #[.bool false, .slice none 0 0, .int .i64 0] 40 (0, 0)) (by (with_reducible repeat (first | refine blk_drewN ?_ _ | refine blk_drew ?_ | refine blk_alloc ?_ _)); exact BK368.out) hb); have n6_ := Aside0.mk (below_step (by repeat (first | (with_reducible first | exact HB.out | apply below_alloc | apply pw_below_drewN | apply below_drew1 | refine below_set ?_ GE367.out | refine below_set ?_ GE368.out) | exact HB.out)) hb); clear HO0_1; clear HO0_2; clear HO371; clear BK367; clear BK368; clear HB; have HO0_1 := n0_; have HO0_2 := n1_; have HO371 := n2_; have HO374 := n3_; have BK367 := n4_; have BK368 := n5_; have HB := n6_; clear n0_ n1_ n2_ n3_ n4_ n5_ n6_; (try clear hb); (try clear hb2); (try clear hk); (try clear hi); (try clear ho0)))
      go_meet
      case rel => exact ⟨_, (t372), (l0_2), H', ⟨by first | omega | exact Nat.le_refl _⟩, ⟨by (with_reducible repeat (first | apply Kd.V_alloc | apply Kd.V_drewN | apply Kd.V_drew)); exact Kd.V_mono HO374.out (fun _ hk => ⟨hk.1, ⟨hk.2.2.1, hk.2.2.2⟩⟩)⟩, ⟨by (with_reducible repeat (first | apply Kd.V_alloc | apply Kd.V_drewN | apply Kd.V_drew)); exact Kd.V_mono HO0_2.out (fun _ hk => ⟨hk.1.1.1, ⟨hk.1.1.2, hk.1.2⟩⟩)⟩, ⟨by (with_reducible repeat (first | apply Kd.V_alloc | apply Kd.V_drewN | apply Kd.V_drew)); exact Kd.V_mono HO0_1.out (fun _ hk => ⟨hk.1.1.1, ⟨hk.1.1.2, hk.1.2⟩⟩)⟩, ⟨by (with_reducible repeat (first | apply Kd.V_alloc | apply Kd.V_drewN | apply Kd.V_drew)); exact Kd.V_mono HO0_2.out (fun _ hk => ⟨hk.1.1.1, ⟨hk.1.1.2, hk.1.2⟩⟩)⟩, ⟨by (with_reducible repeat (first | refine blk_drewN ?_ _ | refine blk_drew ?_ | refine blk_alloc ?_ _)); exact BK367.out⟩, ⟨by (with_reducible repeat (first | refine blk_drewN ?_ _ | refine blk_drew ?_ | refine blk_alloc ?_ _)); exact BK368.out⟩, ⟨by repeat (first | (with_reducible first | exact HB.out | apply below_alloc | apply pw_below_drewN | apply below_drew1 | refine below_set ?_ GE367.out | refine below_set ?_ GE368.out) | exact HB.out)⟩⟩
    · rw [if_neg c8] at H
      have c8b0 : decide (0 ≤ a1) = false := decide_eq_false c8
      clear c8
      (first | rw [c8b0] | (simp only [i64_w, i32_w]; rw [c8b0]) | skip)
      replace H := Option.bind_eq_some_iff.mp H
      obtain ⟨t375, A140, H⟩ := H
      replace H : ((spec_NatMul.f k l0_2 t375).bind fun t378 => (spec_Frac_Round.j0 k a1 a2 l0_1 t378 a0_0 l0_1 l0_2)) = some (r1, r2, r3) := H
      have A14 := Aside0.mk A140
      clear A140
      replace H := Option.bind_eq_some_iff.mp H
      obtain ⟨t378, A150, H⟩ := H
      replace H : (spec_Frac_Round.j0 k a1 a2 l0_1 t378 a0_0 l0_1 l0_2) = some (r1, r2, r3) := H
      have A15 := Aside0.mk A150
      clear A150
      have H' := Aside0.mk H
      clear H
      go_wp2_with (first | ((with_reducible refine gate_callee (f := 14) rfl ?_); refine goesL_ (some 25) rfl rfl Tryd.func14 (by kernel_rfl) rfl #[.int .i64 (wrap64 (-a1))] rfl (by (try simp only [List.map_toArray, List.map_cons, List.map_nil]); first | done | rfl | (simp only [List.length_drop, List.length_take]; rfl)) ?_; (with_reducible refine (spec_Pow10.calls k (wrap64 (-a1)) t375 _ A14.out).mono ?_); rintro e w16 ⟨v376, rfl, ho0, hb⟩; refine ⟨_, rfl, ?_⟩; have n0_ := Aside0.mk (Kd.V_elder' (by (with_reducible repeat (first | apply Kd.V_alloc | apply Kd.V_drewN | apply Kd.V_drew)); exact HO0_1.out) (Kd.R_base ho0) hb); have n1_ := Aside0.mk (Kd.V_elder' (by (with_reducible repeat (first | apply Kd.V_alloc | apply Kd.V_drewN | apply Kd.V_drew)); exact HO0_2.out) (Kd.R_base ho0) hb); have n2_ := Aside0.mk (Kd.R_lower (Kd.R_newM (M := fun k_ => (w.heap.size ≤ k_)) ho0 (below_size (by repeat (first | (with_reducible first | exact HB.out | apply below_alloc | apply pw_below_drewN | apply below_drew1 | refine below_set ?_ GE367.out | refine below_set ?_ GE368.out) | exact HB.out))) (fun k_ h_ => h_)) (below_size (by repeat (first | (with_reducible first | exact HB.out | apply below_alloc | apply pw_below_drewN | apply below_drew1 | refine below_set ?_ GE367.out | refine below_set ?_ GE368.out) | exact HB.out)))); have n3_ := Aside0.mk (blk_below (g := gb367) (o := .cells #[.bool a0_0, .slice A0_1 l0_1.length c0_1, .slice A0_2 l0_2.length c0_2] 78 (0, 0)) (by (with_reducible repeat (first | refine blk_drewN ?_ _ | refine blk_drew ?_ | refine blk_alloc ?_ _)); exact BK367.out) hb); have n4_ := Aside0.mk (blk_below (g := gb368) (o := .cells #[.bool false, .slice none 0 0, .int .i64 0] 40 (0, 0)) (by (with_reducible repeat (first | refine blk_drewN ?_ _ | refine blk_drew ?_ | refine blk_alloc ?_ _)); exact BK368.out) hb); have n5_ := Aside0.mk (below_step (by repeat (first | (with_reducible first | exact HB.out | apply below_alloc | apply pw_below_drewN | apply below_drew1 | refine below_set ?_ GE367.out | refine below_set ?_ GE368.out) | exact HB.out)) hb); clear HO0_1; clear HO0_2; clear BK367; clear BK368; clear HB; have HO0_1 := n0_; have HO0_2 := n1_; have HO377 := n2_; have BK367 := n3_; have BK368 := n4_; have HB := n5_; clear n0_ n1_ n2_ n3_ n4_ n5_; (try clear hb); (try clear hb2); (try clear hk); (try clear hi); (try clear ho0); obtain ⟨Ao17, co17, eo17⟩ := Kd.R_slice HO377.out; subst eo17) | ((with_reducible refine gate_callee (f := 12) rfl ?_); refine goesL_ (some 26) rfl rfl Tryd.func12 (by kernel_rfl) rfl #[.slice A0_2 l0_2.length c0_2, .slice Ao17 t375.length co17] rfl (by (try simp only [List.map_toArray, List.map_cons, List.map_nil]); first | done | rfl | (simp only [List.length_drop, List.length_take]; rfl)) ?_; (with_reducible refine (spec_NatMul.calls k _ _ l0_2 _ _ t375 t378 _ ?side1 ?side2 ?side3 ?side4 A15.out).mono ?_); (case side1 => repeat (first | exact (Kd.V_reads' HO0_2.out).2.2 | (with_reducible refine Kd.C_alloc ?_ _) | (with_reducible refine Kd.C_drewN ?_ _) | (with_reducible refine Kd.C_drew ?_))); (case side2 => exact (Kd.V_reads' HO0_2.out).2.1); (case side3 => repeat (first | exact (Kd.R_reads' HO377.out).2.2 | (with_reducible refine Kd.C_alloc ?_ _) | (with_reducible refine Kd.C_drewN ?_ _) | (with_reducible refine Kd.C_drew ?_))); (case side4 => exact (Kd.R_reads' HO377.out).2.1); rintro e w18 ⟨v379, rfl, ho0, hb⟩; refine ⟨_, rfl, ?_⟩; have n0_ := Aside0.mk (Kd.V_below (by (with_reducible repeat (first | apply Kd.V_alloc | apply Kd.V_drewN | apply Kd.V_drew)); exact HO0_1.out) hb); have n1_ := Aside0.mk (Kd.V_below (by (with_reducible repeat (first | apply Kd.V_alloc | apply Kd.V_drewN | apply Kd.V_drew)); exact HO0_2.out) hb); have n2_ := Aside0.mk (Kd.R_below (by (with_reducible repeat (first | apply Kd.R_alloc | apply Kd.R_drewN | apply Kd.R_drew)); exact HO377.out) hb); have n3_ := Aside0.mk (Kd.V_lower (Kd.V_mono (ok' := fun k_ => ((P0_1_ k_ ∨ P0_2_ k_) ∨ w.heap.size ≤ k_) ∧ some k_ ≠ (.slice Ao17 t375.length co17 : Value).ownBlock ∧ k_ ≠ gb367 ∧ k_ ≠ gb368) ho0 (fun k_ hk_ => ⟨(.inr (Nat.le_trans (below_size (by repeat (first | (with_reducible first | exact HB.out | apply below_alloc | apply pw_below_drewN | apply below_drew1 | refine below_set ?_ GE367.out | refine below_set ?_ GE368.out) | exact HB.out))) hk_)), (Kd.fresh' (Kd.R_lt (by (with_reducible repeat (first | apply Kd.R_alloc | apply Kd.R_drewN | apply Kd.R_drew)); exact HO377.out)) k_ hk_), (Kd.freshB (g := gb367) (o := .cells #[.bool a0_0, .slice A0_1 l0_1.length c0_1, .slice A0_2 l0_2.length c0_2] 78 (0, 0)) (by (with_reducible repeat (first | refine blk_drewN ?_ _ | refine blk_drew ?_ | refine blk_alloc ?_ _)); exact BK367.out) k_ hk_), (Kd.freshB (g := gb368) (o := .cells #[.bool false, .slice none 0 0, .int .i64 0] 40 (0, 0)) (by (with_reducible repeat (first | refine blk_drewN ?_ _ | refine blk_drew ?_ | refine blk_alloc ?_ _)); exact BK368.out) k_ hk_)⟩)) (below_size (by repeat (first | (with_reducible first | exact HB.out | apply below_alloc | apply pw_below_drewN | apply below_drew1 | refine below_set ?_ GE367.out | refine below_set ?_ GE368.out) | exact HB.out)))); have n4_ := Aside0.mk (blk_below (g := gb367) (o := .cells #[.bool a0_0, .slice A0_1 l0_1.length c0_1, .slice A0_2 l0_2.length c0_2] 78 (0, 0)) (by (with_reducible repeat (first | refine blk_drewN ?_ _ | refine blk_drew ?_ | refine blk_alloc ?_ _)); exact BK367.out) hb); have n5_ := Aside0.mk (blk_below (g := gb368) (o := .cells #[.bool false, .slice none 0 0, .int .i64 0] 40 (0, 0)) (by (with_reducible repeat (first | refine blk_drewN ?_ _ | refine blk_drew ?_ | refine blk_alloc ?_ _)); exact BK368.out) hb); have n6_ := Aside0.mk (below_step (by repeat (first | (with_reducible first | exact HB.out | apply below_alloc | apply pw_below_drewN | apply below_drew1 | refine below_set ?_ GE367.out | refine below_set ?_ GE368.out) | exact HB.out)) hb); clear HO0_1; clear HO0_2; clear HO377; clear BK367; clear BK368; clear HB; have HO0_1 := n0_; have HO0_2 := n1_; have HO377 := n2_; have HO380 := n3_; have BK367 := n4_; have BK368 := n5_; have HB := n6_; clear n0_ n1_ n2_ n3_ n4_ n5_ n6_; (try clear hb); (try clear hb2); (try clear hk); (try clear hi); (try clear ho0)))
      go_meet
      case rel => exact ⟨_, (l0_1), (t378), H', ⟨by first | omega | exact Nat.le_refl _⟩, ⟨by (with_reducible repeat (first | apply Kd.V_alloc | apply Kd.V_drewN | apply Kd.V_drew)); exact Kd.V_mono HO0_1.out (fun _ hk => ⟨hk.1.1.1, ⟨hk.1.1.2, hk.1.2⟩⟩)⟩, ⟨by (with_reducible repeat (first | apply Kd.V_alloc | apply Kd.V_drewN | apply Kd.V_drew)); exact Kd.V_mono HO380.out (fun _ hk => ⟨hk.1, ⟨hk.2.2.1, hk.2.2.2⟩⟩)⟩, ⟨by (with_reducible repeat (first | apply Kd.V_alloc | apply Kd.V_drewN | apply Kd.V_drew)); exact Kd.V_mono HO0_1.out (fun _ hk => ⟨hk.1.1.1, ⟨hk.1.1.2, hk.1.2⟩⟩)⟩, ⟨by (with_reducible repeat (first | apply Kd.V_alloc | apply Kd.V_drewN | apply Kd.V_drew)); exact Kd.V_mono HO0_2.out (fun _ hk => ⟨hk.1.1.1, ⟨hk.1.1.2, hk.1.2⟩⟩)⟩, ⟨by (with_reducible repeat (first | refine blk_drewN ?_ _ | refine blk_drew ?_ | refine blk_alloc ?_ _)); exact BK367.out⟩, ⟨by (with_reducible repeat (first | refine blk_drewN ?_ _ | refine blk_drew ?_ | refine blk_alloc ?_ _)); exact BK368.out⟩, ⟨by repeat (first | (with_reducible first | exact HB.out | apply below_alloc | apply pw_below_drewN | apply below_drew1 | refine below_set ?_ GE367.out | refine below_set ?_ GE368.out) | exact HB.out)⟩⟩
  case rest =>
    clear HC4
    try clear c1
    try clear p2
    try clear c4
    try clear p6
    try clear c8
    try clear c8b0
    try clear c12
    try clear c14
    obtain ⟨kq, x7_3, x8_3, HA, HJ3, HO_7, HO_8, HO_368001, HO_368002, BK367, BK368, HB⟩ := hcut
    cases kq with
    | zero => exact absurd HA.out (by simp [spec_Frac_Round.j0])
    | succ kj3 =>
      have H := HA.out
      clear HA
      simp only [spec_Frac_Round.j0] at H
      replace H := Option.bind_eq_some_iff.mp H
      obtain ⟨⟨t381, t384⟩, A190, H⟩ := H
      replace H : (if (t384.length : Int) > 0 then ((spec_NatAdd.f kj3 t384 t384).bind fun t387 => ((spec_NatCmp.f kj3 t387 x8_3).bind fun t390 => (if (t381.length : Int) > 0 then (if 0 < (t381.length : Int) then ((spec_rounds.f a2 a0_0 t390 ((Int.tmod (rd t381 0) 2) == 1)).bind fun t392 => (spec_Frac_Round.j1 kj3 a1 t381 t392 a0_0 l0_1 l0_2)) else (none)) else ((spec_rounds.f a2 a0_0 t390 false).bind fun t393 => (spec_Frac_Round.j1 kj3 a1 t381 t393 a0_0 l0_1 l0_2))))) else (spec_Frac_Round.j1 kj3 a1 t381 false a0_0 l0_1 l0_2)) = some (r1, r2, r3) := H
      have A19 := Aside0.mk A190
      clear A190
      have HC20 := Aside0.mk H
      clear H
      obtain ⟨Ao21, co21, eo21⟩ := Kd.V_slice HO_7.out
      subst eo21
      obtain ⟨Ao22, co22, eo22⟩ := Kd.V_slice HO_8.out
      subst eo22
      go_upto_region 6 with (first | ((with_reducible refine gate_callee (f := 60) rfl ?_); refine goesL_ (some 30) rfl rfl Tryd.func60 (by kernel_rfl) rfl #[.slice Ao21 x7_3.length co21, .slice Ao22 x8_3.length co22] rfl (by (try simp only [List.map_toArray, List.map_cons, List.map_nil]); first | done | rfl | (simp only [List.length_drop, List.length_take]; rfl)) ?_; (with_reducible refine (spec_NatDiv.calls kj3 _ _ x7_3 _ _ x8_3 t381 t384 _ ?side1 ?side2 ?side3 ?side4 A19.out).mono ?_); (case side1 => repeat (first | exact (Kd.V_reads' HO_7.out).2.2 | (with_reducible refine Kd.C_alloc ?_ _) | (with_reducible refine Kd.C_drewN ?_ _) | (with_reducible refine Kd.C_drew ?_))); (case side2 => exact (Kd.V_reads' HO_7.out).2.1); (case side3 => repeat (first | exact (Kd.V_reads' HO_8.out).2.2 | (with_reducible refine Kd.C_alloc ?_ _) | (with_reducible refine Kd.C_drewN ?_ _) | (with_reducible refine Kd.C_drew ?_))); (case side4 => exact (Kd.V_reads' HO_8.out).2.1); rintro e w23 ⟨v382, v385, rfl, ho0, ho1, hb⟩; refine ⟨_, rfl, ?_⟩; have n0_ := Aside0.mk (Kd.V_below (by (with_reducible repeat (first | apply Kd.V_alloc | apply Kd.V_drewN | apply Kd.V_drew)); exact HO_7.out) hb); have n1_ := Aside0.mk (Kd.V_below (by (with_reducible repeat (first | apply Kd.V_alloc | apply Kd.V_drewN | apply Kd.V_drew)); exact HO_8.out) hb); have n2_ := Aside0.mk (Kd.V_below (by (with_reducible repeat (first | apply Kd.V_alloc | apply Kd.V_drewN | apply Kd.V_drew)); exact HO_368001.out) hb); have n3_ := Aside0.mk (Kd.V_below (by (with_reducible repeat (first | apply Kd.V_alloc | apply Kd.V_drewN | apply Kd.V_drew)); exact HO_368002.out) hb); have n4_ := Aside0.mk (Kd.V_lower (Kd.V_mono (ok' := fun k_ => ((P0_1_ k_ ∨ P0_2_ k_) ∨ w.heap.size ≤ k_) ∧ k_ ≠ gb367 ∧ k_ ≠ gb368) ho0 (fun k_ hk_ => ⟨(.inr (Nat.le_trans (below_size (by repeat (first | (with_reducible first | exact HB.out | apply below_alloc | apply pw_below_drewN | apply below_drew1 | refine below_set ?_ GE367.out | refine below_set ?_ GE368.out) | exact HB.out))) hk_)), (Kd.freshB (g := gb367) (o := .cells #[.bool a0_0, .slice A0_1 l0_1.length c0_1, .slice A0_2 l0_2.length c0_2] 78 (0, 0)) (by (with_reducible repeat (first | refine blk_drewN ?_ _ | refine blk_drew ?_ | refine blk_alloc ?_ _)); exact BK367.out) k_ hk_), (Kd.freshB (g := gb368) (o := .cells #[.bool false, .slice none 0 0, .int .i64 0] 40 (0, 0)) (by (with_reducible repeat (first | refine blk_drewN ?_ _ | refine blk_drew ?_ | refine blk_alloc ?_ _)); exact BK368.out) k_ hk_)⟩)) (below_size (by repeat (first | (with_reducible first | exact HB.out | apply below_alloc | apply pw_below_drewN | apply below_drew1 | refine below_set ?_ GE367.out | refine below_set ?_ GE368.out) | exact HB.out)))); have n5_ := Aside0.mk (Kd.V_lower (Kd.V_mono (ok' := fun k_ => ((P0_1_ k_ ∨ P0_2_ k_) ∨ w.heap.size ≤ k_) ∧ k_ ≠ gb367 ∧ k_ ≠ gb368) ho1 (fun k_ hk_ => ⟨(.inr (Nat.le_trans (below_size (by repeat (first | (with_reducible first | exact HB.out | apply below_alloc | apply pw_below_drewN | apply below_drew1 | refine below_set ?_ GE367.out | refine below_set ?_ GE368.out) | exact HB.out))) hk_)), (Kd.freshB (g := gb367) (o := .cells #[.bool a0_0, .slice A0_1 l0_1.length c0_1, .slice A0_2 l0_2.length c0_2] 78 (0, 0)) (by (with_reducible repeat (first | refine blk_drewN ?_ _ | refine blk_drew ?_ | refine blk_alloc ?_ _)); exact BK367.out) k_ hk_), (Kd.freshB (g := gb368) (o := .cells #[.bool false, .slice none 0 0, .int .i64 0] 40 (0, 0)) (by (with_reducible repeat (first | refine blk_drewN ?_ _ | refine blk_drew ?_ | refine blk_alloc ?_ _)); exact BK368.out) k_ hk_)⟩)) (below_size (by repeat (first | (with_reducible first | exact HB.out | apply below_alloc | apply pw_below_drewN | apply below_drew1 | refine below_set ?_ GE367.out | refine below_set ?_ GE368.out) | exact HB.out)))); have n6_ := Aside0.mk (blk_below (g := gb367) (o := .cells #[.bool a0_0, .slice A0_1 l0_1.length c0_1, .slice A0_2 l0_2.length c0_2] 78 (0, 0)) (by (with_reducible repeat (first | refine blk_drewN ?_ _ | refine blk_drew ?_ | refine blk_alloc ?_ _)); exact BK367.out) hb); have n7_ := Aside0.mk (blk_below (g := gb368) (o := .cells #[.bool false, .slice none 0 0, .int .i64 0] 40 (0, 0)) (by (with_reducible repeat (first | refine blk_drewN ?_ _ | refine blk_drew ?_ | refine blk_alloc ?_ _)); exact BK368.out) hb); have n8_ := Aside0.mk (below_step (by repeat (first | (with_reducible first | exact HB.out | apply below_alloc | apply pw_below_drewN | apply below_drew1 | refine below_set ?_ GE367.out | refine below_set ?_ GE368.out) | exact HB.out)) hb); clear HO_7; clear HO_8; clear HO_368001; clear HO_368002; clear BK367; clear BK368; clear HB; have HO_7 := n0_; have HO_8 := n1_; have HO_368001 := n2_; have HO_368002 := n3_; have HO383 := n4_; have HO386 := n5_; have BK367 := n6_; have BK368 := n7_; have HB := n8_; clear n0_ n1_ n2_ n3_ n4_ n5_ n6_ n7_ n8_; (try clear hb); (try clear hb2); (try clear hk); (try clear hi); (try clear ho0); (try clear ho1)))
      (try simp only [Act.put, List.setIfInBounds_toArray, List.set_cons_zero, List.set_cons_succ])
      go_cut [57] (fun v57 wc => ∃ (kq : Nat) (x57_19 : Bool), v57 = .bool x57_19 ∧ Aside0 (spec_Frac_Round.j1 kq a1 t381 x57_19 a0_0 l0_1 l0_2 = some (r1, r2, r3)) ∧ Aside0 (kq ≤ kj3) ∧ Aside0 (Kd.V (Kd.int .u32) 59 wc w.heap.size (fun k_ => ((P0_1_ k_ ∨ P0_2_ k_) ∨ w.heap.size ≤ k_) ∧ k_ ≠ gb367 ∧ k_ ≠ gb368) v382 t381) ∧ Aside0 (Kd.V (Kd.int .u32) 59 wc w.heap.size (fun k_ => ((P0_1_ k_ ∨ P0_2_ k_) ∨ w.heap.size ≤ k_) ∧ k_ ≠ gb367 ∧ k_ ≠ gb368) (.slice A0_1 l0_1.length c0_1) l0_1) ∧ Aside0 (Kd.V (Kd.int .u32) 59 wc w.heap.size (fun k_ => ((P0_1_ k_ ∨ P0_2_ k_) ∨ w.heap.size ≤ k_) ∧ k_ ≠ gb367 ∧ k_ ≠ gb368) (.slice A0_2 l0_2.length c0_2) l0_2) ∧ Aside0 (wc.heap[gb367]? = some (.cells #[.bool a0_0, (.slice A0_1 l0_1.length c0_1), (.slice A0_2 l0_2.length c0_2)] 78 (0, 0))) ∧ Aside0 (wc.heap[gb368]? = some (.cells #[.bool false, (.slice none 0 0), .int .i64 0] 40 (0, 0))) ∧ Aside0 (Below w.heap.size w wc))
      case first =>
        have H := HC20.out
        clear HC20
        by_cases c24 : (t384.length : Int) > 0
        · rw [if_pos c24] at H
          have c24b0 : decide (0 < (t384.length : Int)) = true := decide_eq_true c24
          have c24b1 : decide (0 < t384.length) = true := decide_eq_true (by omega)
          clear c24
          (first | rw [c24b0] | (simp only [i64_w, i32_w]; rw [c24b0]) | skip)
          replace H := Option.bind_eq_some_iff.mp H
          obtain ⟨t387, A250, H⟩ := H
          replace H : ((spec_NatCmp.f kj3 t387 x8_3).bind fun t390 => (if (t381.length : Int) > 0 then (if 0 < (t381.length : Int) then ((spec_rounds.f a2 a0_0 t390 ((Int.tmod (rd t381 0) 2) == 1)).bind fun t392 => (spec_Frac_Round.j1 kj3 a1 t381 t392 a0_0 l0_1 l0_2)) else (none)) else ((spec_rounds.f a2 a0_0 t390 false).bind fun t393 => (spec_Frac_Round.j1 kj3 a1 t381 t393 a0_0 l0_1 l0_2)))) = some (r1, r2, r3) := H
          have A25 := Aside0.mk A250
          clear A250
          replace H := Option.bind_eq_some_iff.mp H
          obtain ⟨t390, A260, H⟩ := H
          replace H : (if (t381.length : Int) > 0 then (if 0 < (t381.length : Int) then ((spec_rounds.f a2 a0_0 t390 ((Int.tmod (rd t381 0) 2) == 1)).bind fun t392 => (spec_Frac_Round.j1 kj3 a1 t381 t392 a0_0 l0_1 l0_2)) else (none)) else ((spec_rounds.f a2 a0_0 t390 false).bind fun t393 => (spec_Frac_Round.j1 kj3 a1 t381 t393 a0_0 l0_1 l0_2))) = some (r1, r2, r3) := H
          have A26 := Aside0.mk A260
          clear A260
          by_cases c27 : (t381.length : Int) > 0
          · rw [if_pos c27] at H
            have c27b0 : decide (0 < (t381.length : Int)) = true := decide_eq_true c27
            have c27b1 : decide (0 < t381.length) = true := decide_eq_true (by omega)
            clear c27
            by_cases c28 : 0 < (t381.length : Int)
            · rw [if_pos c28] at H
              have c28b0 : decide (0 < (t381.length : Int)) = true := decide_eq_true c28
              have c28b1 : decide (0 < t381.length) = true := decide_eq_true (by omega)
              clear c28
              replace H := Option.bind_eq_some_iff.mp H
              obtain ⟨t392, A290, H⟩ := H
              replace H : (spec_Frac_Round.j1 kj3 a1 t381 t392 a0_0 l0_1 l0_2) = some (r1, r2, r3) := H
              have A29 := Aside0.mk A290
              clear A290
              have H' := Aside0.mk H
              clear H
              try go_wp2
              have n0_ := Aside0.mk (Kd.V_drew HO_7.out)
              have n1_ := Aside0.mk (Kd.V_drew HO_8.out)
              have n2_ := Aside0.mk (Kd.V_drew HO_368001.out)
              have n3_ := Aside0.mk (Kd.V_drew HO_368002.out)
              have n4_ := Aside0.mk (Kd.V_drew HO383.out)
              have n5_ := Aside0.mk (Kd.V_drew HO386.out)
              have n6_ := Aside0.mk (blk_drew BK367.out)
              have n7_ := Aside0.mk (blk_drew BK368.out)
              have n8_ := Aside0.mk (below_drew1 HB.out)
              clear HO_7
              clear HO_8
              clear HO_368001
              clear HO_368002
              clear HO383
              clear HO386
              clear BK367
              clear BK368
              clear HB
              have HO_7 := n0_
              have HO_8 := n1_
              have HO_368001 := n2_
              have HO_368002 := n3_
              have HO383 := n4_
              have HO386 := n5_
              have BK367 := n6_
              have BK368 := n7_
              have HB := n8_
              clear n0_ n1_ n2_ n3_ n4_ n5_ n6_ n7_ n8_
              obtain ⟨Ao31, co31, eo31⟩ := Kd.V_slice HO386.out
              (first | subst eo31 | (injection eo31 with f1_ f2_ f3_; have f4_ := f1_.symm; have f5_ := f3_.symm; clear f1_ f2_ f3_; subst f4_; subst f5_))
              obtain ⟨Ao32, co32, eo32⟩ := Kd.V_slice HO383.out
              (first | subst eo32 | (injection eo32 with f1_ f2_ f3_; have f4_ := f1_.symm; have f5_ := f3_.symm; clear f1_ f2_ f3_; subst f4_; subst f5_))
              have p391 : 0 ≤ (0 : Int) := (by omega)
              have q391 : 0 < (t381.length : Int) := of_decide_eq_true (by first | (with_reducible assumption) | assumption)
              obtain ⟨ad391, e391, hx391_0⟩ := Kd.at_int (Kd.V_reads' HO383.out).2.2 0 p391 q391
              cases e391
              have qi391 : (0 < t381.length) = True := eq_true (by omega)
              (try rw [show ((0 : Int)).toNat = 0 from rfl] at hx391_0)
              (try rw [Addr.add_zero'] at hx391_0)
              replace p391 := eq_true p391
              replace q391 := eq_true q391
              refine start_ (n := 25) (S := fun w' => w'.cell? ⟨gb367, 0, none⟩ = some (.bool a0_0) ∧ w'.cell? ⟨gb367, 1, none⟩ = some (.slice A0_1 l0_1.length c0_1) ∧ w'.cell? ⟨gb367, 2, none⟩ = some (.slice A0_2 l0_2.length c0_2) ∧ w'.cell? ad391 = some (.int .u32 (rd t381 0))) (ds := []) #[false, false, false, false, false, false, false, false, false, false, false, false, false, false, false, false, false, false, false, false, false, false, false, false, false] (by kernel_rfl) rfl rfl ⟨(blk_cell BK367.out 0).trans rfl, (blk_cell BK367.out 1).trans rfl, (blk_cell BK367.out 2).trans rfl, hx391_0⟩ (fun hHeld => ?_); refine with_tabW spec_Frac_Round.tab6 spec_Frac_Round.bits6 (fun HT_ HW_ => ?_)
              generalize w23.drew = w30 at HO_7 HO_8 HO_368001 HO_368002 HO383 HO386 BK367 BK368 HB hx391_0 hHeld ⊢
              refine pure_ (i := 0) (N := some 33) (v := ?_) (a' := ?_) #[true, false, false, false, false, false, false, false, false, false, false, false, false, false, false, false, false, false, false, false, false, false, false, false, false] rfl rfl (any_of HT_.out (by kernel_rfl)) (fun _ _ _ h => h) (Or.inl ⟨by rfl, ?_⟩) ?_ ?_
              rotate_left
              · intro w'
                go_simp
                with_reducible rfl
              rotate_left
              · simp only [Act.put, List.setIfInBounds_toArray, List.set_cons_zero, List.set_cons_succ, i64_w, i32_w]
                rfl
              refine pure_ (i := 1) (N := some 34) (v := ?_) (a' := ?_) #[true, true, false, false, false, false, false, false, false, false, false, false, false, false, false, false, false, false, false, false, false, false, false, false, false] rfl rfl (any_of HT_.out (by kernel_rfl)) (fun _ _ _ h => h) (Or.inl ⟨by rfl, ?_⟩) ?_ ?_
              rotate_left
              · intro w'
                go_simp
                with_reducible rfl
              rotate_left
              · simp only [Act.put, List.setIfInBounds_toArray, List.set_cons_zero, List.set_cons_succ, i64_w, i32_w]
                rfl
              refine pure_ (i := 2) (N := some 35) (v := ?_) (a' := ?_) #[true, true, true, false, false, false, false, false, false, false, false, false, false, false, false, false, false, false, false, false, false, false, false, false, false] rfl rfl (any_of HT_.out (by kernel_rfl)) (fun _ _ _ h => h) (Or.inl ⟨by rfl, ?_⟩) ?_ ?_
              rotate_left
              · intro w'
                go_simp
                with_reducible rfl
              rotate_left
              · simp only [Act.put, List.setIfInBounds_toArray, List.set_cons_zero, List.set_cons_succ, i64_w, i32_w]
                rfl
              refine pure_ (i := 3) (N := some 36) (v := ?_) (a' := ?_) #[true, true, true, true, false, false, false, false, false, false, false, false, false, false, false, false, false, false, false, false, false, false, false, false, false] rfl rfl (any_of HT_.out (by kernel_rfl)) (fun _ _ _ h => h) (Or.inl ⟨by rfl, ?_⟩) ?_ ?_
              rotate_left
              · intro w'
                go_simp
                with_reducible rfl
              rotate_left
              · simp only [Act.put, List.setIfInBounds_toArray, List.set_cons_zero, List.set_cons_succ, i64_w, i32_w]
                rfl
              refine pure_ (i := 4) (N := some 37) (v := ?_) (a' := ?_) #[true, true, true, true, true, false, false, false, false, false, false, false, false, false, false, false, false, false, false, false, false, false, false, false, false] rfl rfl (any_of HT_.out (by kernel_rfl)) (fun _ _ _ h => h) (Or.inl ⟨by rfl, ?_⟩) ?_ ?_
              rotate_left
              · intro w'
                go_simp
                with_reducible rfl
              rotate_left
              · simp only [Act.put, List.setIfInBounds_toArray, List.set_cons_zero, List.set_cons_succ, i64_w, i32_w]
                rfl
              refine pure_ (i := 5) (N := some 38) (v := ?_) (a' := ?_) #[true, true, true, true, true, true, false, false, false, false, false, false, false, false, false, false, false, false, false, false, false, false, false, false, false] rfl rfl (any_of HT_.out (by kernel_rfl)) (fun _ _ _ h => h) (Or.inl ⟨by rfl, ?_⟩) ?_ ?_
              rotate_left
              · intro w'
                go_simp
                with_reducible rfl
              rotate_left
              · simp only [Act.put, List.setIfInBounds_toArray, List.set_cons_zero, List.set_cons_succ, i64_w, i32_w]
                rfl
              refine pure_ (i := 6) (N := some 39) (v := ?_) (a' := ?_) #[true, true, true, true, true, true, true, false, false, false, false, false, false, false, false, false, false, false, false, false, false, false, false, false, false] rfl rfl (any_of HT_.out (by kernel_rfl)) (fun _ _ _ h => h) (Or.inl ⟨by rfl, ?_⟩) ?_ ?_
              rotate_left
              · intro w'
                go_simp
                with_reducible rfl
              rotate_left
              · simp only [Act.put, List.setIfInBounds_toArray, List.set_cons_zero, List.set_cons_succ, i64_w, i32_w]
                rfl
              refine pure_ (i := 8) (N := some 41) (v := ?_) (a' := ?_) #[true, true, true, true, true, true, true, false, true, false, false, false, false, false, false, false, false, false, false, false, false, false, false, false, false] rfl rfl (any_of HT_.out (by kernel_rfl)) (fun _ _ _ h => h) (Or.inl ⟨by rfl, ?_⟩) ?_ ?_
              rotate_left
              · intro w'
                go_simp
                with_reducible rfl
              rotate_left
              · simp only [Act.put, List.setIfInBounds_toArray, List.set_cons_zero, List.set_cons_succ, i64_w, i32_w]
                rfl
              refine pure_ (i := 9) (N := some 42) (v := ?_) (a' := ?_) #[true, true, true, true, true, true, true, false, true, true, false, false, false, false, false, false, false, false, false, false, false, false, false, false, false] rfl rfl (any_of HT_.out (by kernel_rfl)) (fun _ _ _ h => h) (Or.inl ⟨by rfl, ?_⟩) ?_ ?_
              rotate_left
              · intro w'
                go_simp
                with_reducible rfl
              rotate_left
              · simp only [Act.put, List.setIfInBounds_toArray, List.set_cons_zero, List.set_cons_succ, i64_w, i32_w]
                rfl
              refine pure_ (i := 11) (N := some 44) (v := ?_) (a' := ?_) #[true, true, true, true, true, true, true, false, true, true, false, true, false, false, false, false, false, false, false, false, false, false, false, false, false] rfl rfl (any_of HT_.out (by kernel_rfl)) (fun _ _ _ h => h) (Or.inl ⟨by rfl, ?_⟩) ?_ ?_
              rotate_left
              · intro w'
                go_simp
                with_reducible rfl
              rotate_left
              · simp only [Act.put, List.setIfInBounds_toArray, List.set_cons_zero, List.set_cons_succ, i64_w, i32_w]
                rfl
              refine pure_ (i := 13) (N := some 46) (v := ?_) (a' := ?_) #[true, true, true, true, true, true, true, false, true, true, false, true, false, true, false, false, false, false, false, false, false, false, false, false, false] rfl rfl (any_of HT_.out (by kernel_rfl)) (fun _ _ _ h => h) (Or.inl ⟨by rfl, ?_⟩) ?_ ?_
              rotate_left
              · intro w'
                go_simp
                with_reducible rfl
              rotate_left
              · simp only [Act.put, List.setIfInBounds_toArray, List.set_cons_zero, List.set_cons_succ, i64_w, i32_w]
                rfl
              refine pure_ (i := 14) (N := some 47) (v := ?_) (a' := ?_) #[true, true, true, true, true, true, true, false, true, true, false, true, false, true, true, false, false, false, false, false, false, false, false, false, false] rfl rfl (any_of HT_.out (by kernel_rfl)) (fun _ _ _ h => h) (Or.inl ⟨by rfl, ?_⟩) ?_ ?_
              rotate_left
              · intro w'
                go_simp
                with_reducible rfl
              rotate_left
              · simp only [Act.put, List.setIfInBounds_toArray, List.set_cons_zero, List.set_cons_succ, i64_w, i32_w]
                rfl
              refine pure_ (i := 15) (N := some 48) (v := ?_) (a' := ?_) #[true, true, true, true, true, true, true, false, true, true, false, true, false, true, true, true, false, false, false, false, false, false, false, false, false] rfl rfl (any_of HT_.out (by kernel_rfl)) (fun _ _ _ h => h) (Or.inl ⟨by rfl, ?_⟩) ?_ ?_
              rotate_left
              · intro w'
                go_simp
                with_reducible rfl
              rotate_left
              · simp only [Act.put, List.setIfInBounds_toArray, List.set_cons_zero, List.set_cons_succ, i64_w, i32_w]
                rfl
              refine take_ (i := 7) (N := some 40) (v := ?_) (a' := ?_) #[true, true, true, true, true, true, true, true, true, true, false, true, false, true, true, true, false, false, false, false, false, false, false, false, false] rfl rfl (take_ofW HT_.out HW_.out (by kernel_rfl)) (fun _ _ _ h => h) (Or.inl ⟨by rfl, ?_⟩) hHeld ?_ ?_
              rotate_left
              · rintro w' ⟨s0, s1, s2, s3⟩
                go_simp
                with_reducible rfl
              rotate_left
              · simp only [Act.put, List.setIfInBounds_toArray, List.set_cons_zero, List.set_cons_succ, i64_w, i32_w]
                rfl
              refine one_ (i := 10) (N := some 43) #[true, true, true, true, true, true, true, true, true, true, true, true, false, true, true, true, false, false, false, false, false, false, false, false, false] rfl rfl (one_of HT_.out (by kernel_rfl)) (by decide) (fun K hK => ?_)
              refine goes_ Tryd.func62 (by kernel_rfl) rfl #[.slice Ao31 t384.length co31, .slice Ao31 t384.length co31] (by rfl) rfl rfl (by (try simp only [List.map_toArray, List.map_cons, List.map_nil]); first | done | rfl | (simp only [List.length_drop, List.length_take]; rfl)) ?_
              with_reducible refine (spec_NatAdd.calls kj3 _ _ t384 _ _ t384 t387 _ ?side1 ?side2 ?side3 ?side4 A25.out).mono ?_
              (case side1 => repeat (first | exact (Kd.V_reads' HO386.out).2.2 | (with_reducible refine Kd.C_alloc ?_ _) | (with_reducible refine Kd.C_drewN ?_ _) | (with_reducible refine Kd.C_drew ?_)))
              (case side2 => exact (Kd.V_reads' HO386.out).2.1)
              (case side3 => repeat (first | exact (Kd.V_reads' HO386.out).2.2 | (with_reducible refine Kd.C_alloc ?_ _) | (with_reducible refine Kd.C_drewN ?_ _) | (with_reducible refine Kd.C_drew ?_)))
              (case side4 => exact (Kd.V_reads' HO386.out).2.1)
              rintro e w33 ⟨v388, rfl, ho0, hb⟩
              have HS3_ := (hb.cell (World.block_lt_of_cell? _ _ (hHeld.2.2.2))).trans (hHeld.2.2.2)
              refine ⟨_, rfl, ?_⟩
              have n0_ := Aside0.mk (Kd.V_elder' (by (with_reducible repeat (first | apply Kd.V_alloc | apply Kd.V_drewN | apply Kd.V_drew)); exact HO_7.out) (Kd.R_base ho0) hb)
              have n1_ := Aside0.mk (Kd.V_elder' (by (with_reducible repeat (first | apply Kd.V_alloc | apply Kd.V_drewN | apply Kd.V_drew)); exact HO_8.out) (Kd.R_base ho0) hb)
              have n2_ := Aside0.mk (Kd.V_elder' (by (with_reducible repeat (first | apply Kd.V_alloc | apply Kd.V_drewN | apply Kd.V_drew)); exact HO_368001.out) (Kd.R_base ho0) hb)
              have n3_ := Aside0.mk (Kd.V_elder' (by (with_reducible repeat (first | apply Kd.V_alloc | apply Kd.V_drewN | apply Kd.V_drew)); exact HO_368002.out) (Kd.R_base ho0) hb)
              have n4_ := Aside0.mk (Kd.V_elder' (by (with_reducible repeat (first | apply Kd.V_alloc | apply Kd.V_drewN | apply Kd.V_drew)); exact HO383.out) (Kd.R_base ho0) hb)
              have n5_ := Aside0.mk (Kd.V_elder' (by (with_reducible repeat (first | apply Kd.V_alloc | apply Kd.V_drewN | apply Kd.V_drew)); exact HO386.out) (Kd.R_base ho0) hb)
              have n6_ := Aside0.mk (Kd.R_lower (Kd.R_newM (M := fun k_ => (w.heap.size ≤ k_)) ho0 (below_size (by repeat (first | (with_reducible first | exact HB.out | apply below_alloc | apply pw_below_drewN | apply below_drew1 | refine below_set ?_ GE367.out | refine below_set ?_ GE368.out) | exact HB.out))) (fun k_ h_ => h_)) (below_size (by repeat (first | (with_reducible first | exact HB.out | apply below_alloc | apply pw_below_drewN | apply below_drew1 | refine below_set ?_ GE367.out | refine below_set ?_ GE368.out) | exact HB.out))))
              have n7_ := Aside0.mk (blk_below (g := gb367) (o := .cells #[.bool a0_0, .slice A0_1 l0_1.length c0_1, .slice A0_2 l0_2.length c0_2] 78 (0, 0)) (by (with_reducible repeat (first | refine blk_drewN ?_ _ | refine blk_drew ?_ | refine blk_alloc ?_ _)); exact BK367.out) hb)
              have n8_ := Aside0.mk (blk_below (g := gb368) (o := .cells #[.bool false, .slice none 0 0, .int .i64 0] 40 (0, 0)) (by (with_reducible repeat (first | refine blk_drewN ?_ _ | refine blk_drew ?_ | refine blk_alloc ?_ _)); exact BK368.out) hb)
              have n9_ := Aside0.mk (below_step (by repeat (first | (with_reducible first | exact HB.out | apply below_alloc | apply pw_below_drewN | apply below_drew1 | refine below_set ?_ GE367.out | refine below_set ?_ GE368.out) | exact HB.out)) hb)
              clear HO_7
              clear HO_8
              clear HO_368001
              clear HO_368002
              clear HO383
              clear HO386
              clear BK367
              clear BK368
              clear HB
              have HO_7 := n0_
              have HO_8 := n1_
              have HO_368001 := n2_
              have HO_368002 := n3_
              have HO383 := n4_
              have HO386 := n5_
              have HO389 := n6_
              have BK367 := n7_
              have BK368 := n8_
              have HB := n9_
              clear n0_ n1_ n2_ n3_ n4_ n5_ n6_ n7_ n8_ n9_
              (try clear hb)
              (try clear hb2)
              (try clear hk)
              (try clear hi)
              (try clear ho0)
              obtain ⟨Ao34, co34, eo34⟩ := Kd.R_slice HO389.out
              (first | subst eo34 | (injection eo34 with f1_ f2_ f3_; have f4_ := f1_.symm; have f5_ := f3_.symm; clear f1_ f2_ f3_; subst f4_; subst f5_))
              refine hK.out _ _ ⟨(blk_cell BK367.out 0).trans rfl, (blk_cell BK367.out 1).trans rfl, (blk_cell BK367.out 2).trans rfl, HS3_⟩ (fun hHeld => ?_)
              clear hK K
              refine norm_ (a' := ?_) ?_ ?_
              rotate_left
              · show Act.put _ (some 43) _ = _
                simp only [Act.put, List.setIfInBounds_toArray, List.set_cons_zero, List.set_cons_succ, i64_w, i32_w]
                rfl
              refine one_ (i := 12) (N := some 45) #[true, true, true, true, true, true, true, true, true, true, true, true, true, true, true, true, false, false, false, false, false, false, false, false, false] rfl rfl (one_of HT_.out (by kernel_rfl)) (by decide) (fun K hK => ?_)
              refine goes_ Tryd.func30 (by kernel_rfl) rfl #[.slice Ao34 t387.length co34, .slice Ao22 x8_3.length co22] (by rfl) rfl rfl (by (try simp only [List.map_toArray, List.map_cons, List.map_nil]); first | done | rfl | (simp only [List.length_drop, List.length_take]; rfl)) ?_
              with_reducible refine (spec_NatCmp.calls kj3 _ _ t387 _ _ x8_3 t390 _ ?side1 ?side2 ?side3 ?side4 A26.out).mono ?_
              (case side1 => repeat (first | exact (Kd.R_reads' HO389.out).2.2 | (with_reducible refine Kd.C_alloc ?_ _) | (with_reducible refine Kd.C_drewN ?_ _) | (with_reducible refine Kd.C_drew ?_)))
              (case side2 => exact (Kd.R_reads' HO389.out).2.1)
              (case side3 => repeat (first | exact (Kd.V_reads' HO_8.out).2.2 | (with_reducible refine Kd.C_alloc ?_ _) | (with_reducible refine Kd.C_drewN ?_ _) | (with_reducible refine Kd.C_drew ?_)))
              (case side4 => exact (Kd.V_reads' HO_8.out).2.1)
              rintro e w' ⟨rfl, ⟨nd, rfl⟩⟩
              refine ⟨_, rfl, ?_⟩
              refine hK.out _ _ ⟨(blk_cell BK367.out 0).trans rfl, (blk_cell BK367.out 1).trans rfl, (blk_cell BK367.out 2).trans rfl, hHeld.2.2.2⟩ (fun hHeld => ?_)
              clear hK K
              refine norm_ (a' := ?_) ?_ ?_
              rotate_left
              · show Act.put _ (some 45) _ = _
                simp only [Act.put, List.setIfInBounds_toArray, List.set_cons_zero, List.set_cons_succ, i64_w, i32_w]
                rfl
              refine pure_ (i := 16) (N := some 49) (v := ?_) (a' := ?_) #[true, true, true, true, true, true, true, true, true, true, true, true, true, true, true, true, true, false, false, false, false, false, false, false, false] rfl rfl (any_of HT_.out (by kernel_rfl)) (fun _ _ _ h => h) (Or.inl ⟨by rfl, ?_⟩) ?_ ?_
              rotate_left
              · intro w'
                go_simp
                with_reducible rfl
              rotate_left
              · simp only [Act.put, List.setIfInBounds_toArray, List.set_cons_zero, List.set_cons_succ, i64_w, i32_w]
                rfl
              refine pure_ (i := 17) (N := some 50) (v := ?_) (a' := ?_) #[true, true, true, true, true, true, true, true, true, true, true, true, true, true, true, true, true, true, false, false, false, false, false, false, false] rfl rfl (any_of HT_.out (by kernel_rfl)) (fun _ _ _ h => h) (Or.inl ⟨by rfl, ?_⟩) ?_ ?_
              rotate_left
              · intro w'
                go_simp
                with_reducible rfl
              rotate_left
              · simp only [Act.put, List.setIfInBounds_toArray, List.set_cons_zero, List.set_cons_succ, i64_w, i32_w]
                rfl
              refine pure_ (i := 18) (N := some 51) (v := ?_) (a' := ?_) #[true, true, true, true, true, true, true, true, true, true, true, true, true, true, true, true, true, true, true, false, false, false, false, false, false] rfl rfl (any_of HT_.out (by kernel_rfl)) (fun _ _ _ h => h) (Or.inl ⟨by rfl, ?_⟩) ?_ ?_
              rotate_left
              · intro w'
                go_simp
                with_reducible rfl
              rotate_left
              · simp only [Act.put, List.setIfInBounds_toArray, List.set_cons_zero, List.set_cons_succ, i64_w, i32_w]
                rfl
              refine take_ (i := 19) (N := some 52) (v := ?_) (a' := ?_) #[true, true, true, true, true, true, true, true, true, true, true, true, true, true, true, true, true, true, true, true, false, false, false, false, false] rfl rfl (take_ofW HT_.out HW_.out (by kernel_rfl)) (fun _ _ _ h => h) (Or.inl ⟨by rfl, ?_⟩) hHeld ?_ ?_
              rotate_left
              · rintro w' ⟨s0, s1, s2, s3⟩
                go_simp
                with_reducible rfl
              rotate_left
              · simp only [Act.put, List.setIfInBounds_toArray, List.set_cons_zero, List.set_cons_succ, i64_w, i32_w]
                rfl
              refine pure_ (i := 20) (N := some 53) (v := ?_) (a' := ?_) #[true, true, true, true, true, true, true, true, true, true, true, true, true, true, true, true, true, true, true, true, true, false, false, false, false] rfl rfl (any_of HT_.out (by kernel_rfl)) (fun _ _ _ h => h) (Or.inl ⟨by rfl, ?_⟩) ?_ ?_
              rotate_left
              · intro w'
                go_simp
                with_reducible rfl
              rotate_left
              · simp only [Act.put, List.setIfInBounds_toArray, List.set_cons_zero, List.set_cons_succ, i64_w, i32_w]
                rfl
              refine pure_ (i := 21) (N := some 54) (v := ?_) (a' := ?_) #[true, true, true, true, true, true, true, true, true, true, true, true, true, true, true, true, true, true, true, true, true, true, false, false, false] rfl rfl (any_of HT_.out (by kernel_rfl)) (fun _ _ _ h => h) (Or.inl ⟨by rfl, ?_⟩) ?_ ?_
              rotate_left
              · intro w'
                go_simp
                with_reducible rfl
              rotate_left
              · simp only [Act.put, List.setIfInBounds_toArray, List.set_cons_zero, List.set_cons_succ, i64_w, i32_w]
                rfl
              refine pure_ (i := 22) (N := some 55) (v := ?_) (a' := ?_) #[true, true, true, true, true, true, true, true, true, true, true, true, true, true, true, true, true, true, true, true, true, true, true, false, false] rfl rfl (any_of HT_.out (by kernel_rfl)) (fun _ _ _ h => h) (Or.inl ⟨by rfl, ?_⟩) ?_ ?_
              rotate_left
              · intro w'
                go_simp
                with_reducible rfl
              rotate_left
              · simp only [Act.put, List.setIfInBounds_toArray, List.set_cons_zero, List.set_cons_succ, i64_w, i32_w]
                rfl
              refine one_ (i := 23) (N := some 56) #[true, true, true, true, true, true, true, true, true, true, true, true, true, true, true, true, true, true, true, true, true, true, true, true, false] rfl rfl (one_of HT_.out (by kernel_rfl)) (by decide) (fun K hK => ?_)
              refine goes_ Tryd.func61 (by kernel_rfl) rfl #[.int .i64 a2, .bool a0_0, .int .i64 t390, .bool ((Int.tmod (rd t381 0) 2) == 1)] (by rfl) rfl rfl (by (try simp only [List.map_toArray, List.map_cons, List.map_nil]); first | done | rfl | (simp only [List.length_drop, List.length_take]; rfl)) ?_
              with_reducible refine (spec_rounds.calls a2 a0_0 t390 ((Int.tmod (rd t381 0) 2) == 1) t392 _ A29.out).mono ?_
              rintro e w' ⟨rfl, ⟨nd, rfl⟩⟩
              refine ⟨_, rfl, ?_⟩
              refine hK.out _ _ ⟨(blk_cell BK367.out 0).trans rfl, (blk_cell BK367.out 1).trans rfl, (blk_cell BK367.out 2).trans rfl, hHeld.2.2.2⟩ (fun hHeld => ?_)
              clear hK K
              refine norm_ (a' := ?_) ?_ ?_
              rotate_left
              · show Act.put _ (some 56) _ = _
                simp only [Act.put, List.setIfInBounds_toArray, List.set_cons_zero, List.set_cons_succ, i64_w, i32_w]
                rfl
              refine pure_ (i := 24) (N := some 57) (v := ?_) (a' := ?_) #[true, true, true, true, true, true, true, true, true, true, true, true, true, true, true, true, true, true, true, true, true, true, true, true, true] rfl rfl (any_of HT_.out (by kernel_rfl)) (fun _ _ _ h => h) (Or.inl ⟨by rfl, ?_⟩) ?_ ?_
              rotate_left
              · intro w'
                go_simp
                with_reducible rfl
              rotate_left
              · simp only [Act.put, List.setIfInBounds_toArray, List.set_cons_zero, List.set_cons_succ, i64_w, i32_w]
                rfl
              refine done_ (done_of HT_.out (by kernel_rfl)) ?_
              try go_wp2
              go_meet
              case rel => exact ⟨_, (t392), (by first | rfl | (simp; done) | (simp [*]; done)), H', ⟨by have := HJ3.out; first | omega | exact Nat.le_refl _⟩, ⟨by (with_reducible repeat (first | apply Kd.V_alloc | apply Kd.V_drewN | apply Kd.V_drew)); exact Kd.V_mono HO383.out (fun _ hk => ⟨hk.1.1, ⟨hk.1.2.1, hk.1.2.2⟩⟩)⟩, ⟨by (with_reducible repeat (first | apply Kd.V_alloc | apply Kd.V_drewN | apply Kd.V_drew)); exact Kd.V_mono HO_368001.out (fun _ hk => ⟨hk.1.1, ⟨hk.1.2.1, hk.1.2.2⟩⟩)⟩, ⟨by (with_reducible repeat (first | apply Kd.V_alloc | apply Kd.V_drewN | apply Kd.V_drew)); exact Kd.V_mono HO_368002.out (fun _ hk => ⟨hk.1.1, ⟨hk.1.2.1, hk.1.2.2⟩⟩)⟩, ⟨by (with_reducible repeat (first | refine blk_drewN ?_ _ | refine blk_drew ?_ | refine blk_alloc ?_ _)); exact BK367.out⟩, ⟨by (with_reducible repeat (first | refine blk_drewN ?_ _ | refine blk_drew ?_ | refine blk_alloc ?_ _)); exact BK368.out⟩, ⟨by repeat (first | (with_reducible first | exact HB.out | apply below_alloc | apply pw_below_drewN | apply below_drew1 | refine below_set ?_ GE367.out | refine below_set ?_ GE368.out) | exact HB.out)⟩⟩
            · rw [if_neg c28] at H
              exact absurd H (by simp)
          · rw [if_neg c27] at H
            have c27b0 : decide (0 < (t381.length : Int)) = false := decide_eq_false c27
            have c27b1 : decide (0 < t381.length) = false := decide_eq_false (by omega)
            clear c27
            replace H := Option.bind_eq_some_iff.mp H
            obtain ⟨t393, A350, H⟩ := H
            replace H : (spec_Frac_Round.j1 kj3 a1 t381 t393 a0_0 l0_1 l0_2) = some (r1, r2, r3) := H
            have A35 := Aside0.mk A350
            clear A350
            have H' := Aside0.mk H
            clear H
            try go_wp2
            have n0_ := Aside0.mk (Kd.V_drew HO_7.out)
            have n1_ := Aside0.mk (Kd.V_drew HO_8.out)
            have n2_ := Aside0.mk (Kd.V_drew HO_368001.out)
            have n3_ := Aside0.mk (Kd.V_drew HO_368002.out)
            have n4_ := Aside0.mk (Kd.V_drew HO383.out)
            have n5_ := Aside0.mk (Kd.V_drew HO386.out)
            have n6_ := Aside0.mk (blk_drew BK367.out)
            have n7_ := Aside0.mk (blk_drew BK368.out)
            have n8_ := Aside0.mk (below_drew1 HB.out)
            clear HO_7
            clear HO_8
            clear HO_368001
            clear HO_368002
            clear HO383
            clear HO386
            clear BK367
            clear BK368
            clear HB
            have HO_7 := n0_
            have HO_8 := n1_
            have HO_368001 := n2_
            have HO_368002 := n3_
            have HO383 := n4_
            have HO386 := n5_
            have BK367 := n6_
            have BK368 := n7_
            have HB := n8_
            clear n0_ n1_ n2_ n3_ n4_ n5_ n6_ n7_ n8_
            obtain ⟨Ao37, co37, eo37⟩ := Kd.V_slice HO386.out
            (first | subst eo37 | (injection eo37 with f1_ f2_ f3_; have f4_ := f1_.symm; have f5_ := f3_.symm; clear f1_ f2_ f3_; subst f4_; subst f5_))
            obtain ⟨Ao38, co38, eo38⟩ := Kd.V_slice HO383.out
            (first | subst eo38 | (injection eo38 with f1_ f2_ f3_; have f4_ := f1_.symm; have f5_ := f3_.symm; clear f1_ f2_ f3_; subst f4_; subst f5_))
            refine start_ (n := 25) (S := fun w' => w'.cell? ⟨gb367, 0, none⟩ = some (.bool a0_0) ∧ w'.cell? ⟨gb367, 1, none⟩ = some (.slice A0_1 l0_1.length c0_1) ∧ w'.cell? ⟨gb367, 2, none⟩ = some (.slice A0_2 l0_2.length c0_2)) (ds := []) #[false, false, false, false, false, false, false, false, false, false, false, false, false, false, false, false, false, false, false, false, false, false, false, false, false] (by kernel_rfl) rfl rfl ⟨(blk_cell BK367.out 0).trans rfl, (blk_cell BK367.out 1).trans rfl, (blk_cell BK367.out 2).trans rfl⟩ (fun hHeld => ?_); refine with_tabW spec_Frac_Round.tab6 spec_Frac_Round.bits6 (fun HT_ HW_ => ?_)
            generalize w23.drew = w36 at HO_7 HO_8 HO_368001 HO_368002 HO383 HO386 BK367 BK368 HB hHeld ⊢
            refine pure_ (i := 0) (N := some 33) (v := ?_) (a' := ?_) #[true, false, false, false, false, false, false, false, false, false, false, false, false, false, false, false, false, false, false, false, false, false, false, false, false] rfl rfl (any_of HT_.out (by kernel_rfl)) (fun _ _ _ h => h) (Or.inl ⟨by rfl, ?_⟩) ?_ ?_
            rotate_left
            · intro w'
              go_simp
              with_reducible rfl
            rotate_left
            · simp only [Act.put, List.setIfInBounds_toArray, List.set_cons_zero, List.set_cons_succ, i64_w, i32_w]
              rfl
            refine pure_ (i := 1) (N := some 34) (v := ?_) (a' := ?_) #[true, true, false, false, false, false, false, false, false, false, false, false, false, false, false, false, false, false, false, false, false, false, false, false, false] rfl rfl (any_of HT_.out (by kernel_rfl)) (fun _ _ _ h => h) (Or.inl ⟨by rfl, ?_⟩) ?_ ?_
            rotate_left
            · intro w'
              go_simp
              with_reducible rfl
            rotate_left
            · simp only [Act.put, List.setIfInBounds_toArray, List.set_cons_zero, List.set_cons_succ, i64_w, i32_w]
              rfl
            refine pure_ (i := 2) (N := some 35) (v := ?_) (a' := ?_) #[true, true, true, false, false, false, false, false, false, false, false, false, false, false, false, false, false, false, false, false, false, false, false, false, false] rfl rfl (any_of HT_.out (by kernel_rfl)) (fun _ _ _ h => h) (Or.inl ⟨by rfl, ?_⟩) ?_ ?_
            rotate_left
            · intro w'
              go_simp
              with_reducible rfl
            rotate_left
            · simp only [Act.put, List.setIfInBounds_toArray, List.set_cons_zero, List.set_cons_succ, i64_w, i32_w]
              rfl
            refine pure_ (i := 3) (N := some 36) (v := ?_) (a' := ?_) #[true, true, true, true, false, false, false, false, false, false, false, false, false, false, false, false, false, false, false, false, false, false, false, false, false] rfl rfl (any_of HT_.out (by kernel_rfl)) (fun _ _ _ h => h) (Or.inl ⟨by rfl, ?_⟩) ?_ ?_
            rotate_left
            · intro w'
              go_simp
              with_reducible rfl
            rotate_left
            · simp only [Act.put, List.setIfInBounds_toArray, List.set_cons_zero, List.set_cons_succ, i64_w, i32_w]
              rfl
            refine pure_ (i := 4) (N := some 37) (v := ?_) (a' := ?_) #[true, true, true, true, true, false, false, false, false, false, false, false, false, false, false, false, false, false, false, false, false, false, false, false, false] rfl rfl (any_of HT_.out (by kernel_rfl)) (fun _ _ _ h => h) (Or.inl ⟨by rfl, ?_⟩) ?_ ?_
            rotate_left
            · intro w'
              go_simp
              with_reducible rfl
            rotate_left
            · simp only [Act.put, List.setIfInBounds_toArray, List.set_cons_zero, List.set_cons_succ, i64_w, i32_w]
              rfl
            refine pure_ (i := 5) (N := some 38) (v := ?_) (a' := ?_) #[true, true, true, true, true, true, false, false, false, false, false, false, false, false, false, false, false, false, false, false, false, false, false, false, false] rfl rfl (any_of HT_.out (by kernel_rfl)) (fun _ _ _ h => h) (Or.inl ⟨by rfl, ?_⟩) ?_ ?_
            rotate_left
            · intro w'
              go_simp
              with_reducible rfl
            rotate_left
            · simp only [Act.put, List.setIfInBounds_toArray, List.set_cons_zero, List.set_cons_succ, i64_w, i32_w]
              rfl
            refine pure_ (i := 6) (N := some 39) (v := ?_) (a' := ?_) #[true, true, true, true, true, true, true, false, false, false, false, false, false, false, false, false, false, false, false, false, false, false, false, false, false] rfl rfl (any_of HT_.out (by kernel_rfl)) (fun _ _ _ h => h) (Or.inl ⟨by rfl, ?_⟩) ?_ ?_
            rotate_left
            · intro w'
              go_simp
              with_reducible rfl
            rotate_left
            · simp only [Act.put, List.setIfInBounds_toArray, List.set_cons_zero, List.set_cons_succ, i64_w, i32_w]
              rfl
            refine pure_ (i := 8) (N := some 41) (v := ?_) (a' := ?_) #[true, true, true, true, true, true, true, false, true, false, false, false, false, false, false, false, false, false, false, false, false, false, false, false, false] rfl rfl (any_of HT_.out (by kernel_rfl)) (fun _ _ _ h => h) (Or.inl ⟨by rfl, ?_⟩) ?_ ?_
            rotate_left
            · intro w'
              go_simp
              with_reducible rfl
            rotate_left
            · simp only [Act.put, List.setIfInBounds_toArray, List.set_cons_zero, List.set_cons_succ, i64_w, i32_w]
              rfl
            refine pure_ (i := 9) (N := some 42) (v := ?_) (a' := ?_) #[true, true, true, true, true, true, true, false, true, true, false, false, false, false, false, false, false, false, false, false, false, false, false, false, false] rfl rfl (any_of HT_.out (by kernel_rfl)) (fun _ _ _ h => h) (Or.inl ⟨by rfl, ?_⟩) ?_ ?_
            rotate_left
            · intro w'
              go_simp
              with_reducible rfl
            rotate_left
            · simp only [Act.put, List.setIfInBounds_toArray, List.set_cons_zero, List.set_cons_succ, i64_w, i32_w]
              rfl
            refine pure_ (i := 11) (N := some 44) (v := ?_) (a' := ?_) #[true, true, true, true, true, true, true, false, true, true, false, true, false, false, false, false, false, false, false, false, false, false, false, false, false] rfl rfl (any_of HT_.out (by kernel_rfl)) (fun _ _ _ h => h) (Or.inl ⟨by rfl, ?_⟩) ?_ ?_
            rotate_left
            · intro w'
              go_simp
              with_reducible rfl
            rotate_left
            · simp only [Act.put, List.setIfInBounds_toArray, List.set_cons_zero, List.set_cons_succ, i64_w, i32_w]
              rfl
            refine pure_ (i := 13) (N := some 46) (v := ?_) (a' := ?_) #[true, true, true, true, true, true, true, false, true, true, false, true, false, true, false, false, false, false, false, false, false, false, false, false, false] rfl rfl (any_of HT_.out (by kernel_rfl)) (fun _ _ _ h => h) (Or.inl ⟨by rfl, ?_⟩) ?_ ?_
            rotate_left
            · intro w'
              go_simp
              with_reducible rfl
            rotate_left
            · simp only [Act.put, List.setIfInBounds_toArray, List.set_cons_zero, List.set_cons_succ, i64_w, i32_w]
              rfl
            refine pure_ (i := 14) (N := some 47) (v := ?_) (a' := ?_) #[true, true, true, true, true, true, true, false, true, true, false, true, false, true, true, false, false, false, false, false, false, false, false, false, false] rfl rfl (any_of HT_.out (by kernel_rfl)) (fun _ _ _ h => h) (Or.inl ⟨by rfl, ?_⟩) ?_ ?_
            rotate_left
            · intro w'
              go_simp
              with_reducible rfl
            rotate_left
            · simp only [Act.put, List.setIfInBounds_toArray, List.set_cons_zero, List.set_cons_succ, i64_w, i32_w]
              rfl
            refine pure_ (i := 15) (N := some 48) (v := ?_) (a' := ?_) #[true, true, true, true, true, true, true, false, true, true, false, true, false, true, true, true, false, false, false, false, false, false, false, false, false] rfl rfl (any_of HT_.out (by kernel_rfl)) (fun _ _ _ h => h) (Or.inl ⟨by rfl, ?_⟩) ?_ ?_
            rotate_left
            · intro w'
              go_simp
              with_reducible rfl
            rotate_left
            · simp only [Act.put, List.setIfInBounds_toArray, List.set_cons_zero, List.set_cons_succ, i64_w, i32_w]
              rfl
            refine take_ (i := 7) (N := some 40) (v := ?_) (a' := ?_) #[true, true, true, true, true, true, true, true, true, true, false, true, false, true, true, true, false, false, false, false, false, false, false, false, false] rfl rfl (take_ofW HT_.out HW_.out (by kernel_rfl)) (fun _ _ _ h => h) (Or.inl ⟨by rfl, ?_⟩) hHeld ?_ ?_
            rotate_left
            · rintro w' ⟨s0, s1, s2⟩
              go_simp
              with_reducible rfl
            rotate_left
            · simp only [Act.put, List.setIfInBounds_toArray, List.set_cons_zero, List.set_cons_succ, i64_w, i32_w]
              rfl
            refine one_ (i := 10) (N := some 43) #[true, true, true, true, true, true, true, true, true, true, true, true, false, true, true, true, false, false, false, false, false, false, false, false, false] rfl rfl (one_of HT_.out (by kernel_rfl)) (by decide) (fun K hK => ?_)
            refine goes_ Tryd.func62 (by kernel_rfl) rfl #[.slice Ao37 t384.length co37, .slice Ao37 t384.length co37] (by rfl) rfl rfl (by (try simp only [List.map_toArray, List.map_cons, List.map_nil]); first | done | rfl | (simp only [List.length_drop, List.length_take]; rfl)) ?_
            with_reducible refine (spec_NatAdd.calls kj3 _ _ t384 _ _ t384 t387 _ ?side1 ?side2 ?side3 ?side4 A25.out).mono ?_
            (case side1 => repeat (first | exact (Kd.V_reads' HO386.out).2.2 | (with_reducible refine Kd.C_alloc ?_ _) | (with_reducible refine Kd.C_drewN ?_ _) | (with_reducible refine Kd.C_drew ?_)))
            (case side2 => exact (Kd.V_reads' HO386.out).2.1)
            (case side3 => repeat (first | exact (Kd.V_reads' HO386.out).2.2 | (with_reducible refine Kd.C_alloc ?_ _) | (with_reducible refine Kd.C_drewN ?_ _) | (with_reducible refine Kd.C_drew ?_)))
            (case side4 => exact (Kd.V_reads' HO386.out).2.1)
            rintro e w39 ⟨v388, rfl, ho0, hb⟩
            refine ⟨_, rfl, ?_⟩
            have n0_ := Aside0.mk (Kd.V_elder' (by (with_reducible repeat (first | apply Kd.V_alloc | apply Kd.V_drewN | apply Kd.V_drew)); exact HO_7.out) (Kd.R_base ho0) hb)
            have n1_ := Aside0.mk (Kd.V_elder' (by (with_reducible repeat (first | apply Kd.V_alloc | apply Kd.V_drewN | apply Kd.V_drew)); exact HO_8.out) (Kd.R_base ho0) hb)
            have n2_ := Aside0.mk (Kd.V_elder' (by (with_reducible repeat (first | apply Kd.V_alloc | apply Kd.V_drewN | apply Kd.V_drew)); exact HO_368001.out) (Kd.R_base ho0) hb)
            have n3_ := Aside0.mk (Kd.V_elder' (by (with_reducible repeat (first | apply Kd.V_alloc | apply Kd.V_drewN | apply Kd.V_drew)); exact HO_368002.out) (Kd.R_base ho0) hb)
            have n4_ := Aside0.mk (Kd.V_elder' (by (with_reducible repeat (first | apply Kd.V_alloc | apply Kd.V_drewN | apply Kd.V_drew)); exact HO383.out) (Kd.R_base ho0) hb)
            have n5_ := Aside0.mk (Kd.V_elder' (by (with_reducible repeat (first | apply Kd.V_alloc | apply Kd.V_drewN | apply Kd.V_drew)); exact HO386.out) (Kd.R_base ho0) hb)
            have n6_ := Aside0.mk (Kd.R_lower (Kd.R_newM (M := fun k_ => (w.heap.size ≤ k_)) ho0 (below_size (by repeat (first | (with_reducible first | exact HB.out | apply below_alloc | apply pw_below_drewN | apply below_drew1 | refine below_set ?_ GE367.out | refine below_set ?_ GE368.out) | exact HB.out))) (fun k_ h_ => h_)) (below_size (by repeat (first | (with_reducible first | exact HB.out | apply below_alloc | apply pw_below_drewN | apply below_drew1 | refine below_set ?_ GE367.out | refine below_set ?_ GE368.out) | exact HB.out))))
            have n7_ := Aside0.mk (blk_below (g := gb367) (o := .cells #[.bool a0_0, .slice A0_1 l0_1.length c0_1, .slice A0_2 l0_2.length c0_2] 78 (0, 0)) (by (with_reducible repeat (first | refine blk_drewN ?_ _ | refine blk_drew ?_ | refine blk_alloc ?_ _)); exact BK367.out) hb)
            have n8_ := Aside0.mk (blk_below (g := gb368) (o := .cells #[.bool false, .slice none 0 0, .int .i64 0] 40 (0, 0)) (by (with_reducible repeat (first | refine blk_drewN ?_ _ | refine blk_drew ?_ | refine blk_alloc ?_ _)); exact BK368.out) hb)
            have n9_ := Aside0.mk (below_step (by repeat (first | (with_reducible first | exact HB.out | apply below_alloc | apply pw_below_drewN | apply below_drew1 | refine below_set ?_ GE367.out | refine below_set ?_ GE368.out) | exact HB.out)) hb)
            clear HO_7
            clear HO_8
            clear HO_368001
            clear HO_368002
            clear HO383
            clear HO386
            clear BK367
            clear BK368
            clear HB
            have HO_7 := n0_
            have HO_8 := n1_
            have HO_368001 := n2_
            have HO_368002 := n3_
            have HO383 := n4_
            have HO386 := n5_
            have HO389 := n6_
            have BK367 := n7_
            have BK368 := n8_
            have HB := n9_
            clear n0_ n1_ n2_ n3_ n4_ n5_ n6_ n7_ n8_ n9_
            (try clear hb)
            (try clear hb2)
            (try clear hk)
            (try clear hi)
            (try clear ho0)
            obtain ⟨Ao40, co40, eo40⟩ := Kd.R_slice HO389.out
            (first | subst eo40 | (injection eo40 with f1_ f2_ f3_; have f4_ := f1_.symm; have f5_ := f3_.symm; clear f1_ f2_ f3_; subst f4_; subst f5_))
            refine hK.out _ _ ⟨(blk_cell BK367.out 0).trans rfl, (blk_cell BK367.out 1).trans rfl, (blk_cell BK367.out 2).trans rfl⟩ (fun hHeld => ?_)
            clear hK K
            refine norm_ (a' := ?_) ?_ ?_
            rotate_left
            · show Act.put _ (some 43) _ = _
              simp only [Act.put, List.setIfInBounds_toArray, List.set_cons_zero, List.set_cons_succ, i64_w, i32_w]
              rfl
            refine one_ (i := 12) (N := some 45) #[true, true, true, true, true, true, true, true, true, true, true, true, true, true, true, true, false, false, false, false, false, false, false, false, false] rfl rfl (one_of HT_.out (by kernel_rfl)) (by decide) (fun K hK => ?_)
            refine goes_ Tryd.func30 (by kernel_rfl) rfl #[.slice Ao40 t387.length co40, .slice Ao22 x8_3.length co22] (by rfl) rfl rfl (by (try simp only [List.map_toArray, List.map_cons, List.map_nil]); first | done | rfl | (simp only [List.length_drop, List.length_take]; rfl)) ?_
            with_reducible refine (spec_NatCmp.calls kj3 _ _ t387 _ _ x8_3 t390 _ ?side1 ?side2 ?side3 ?side4 A26.out).mono ?_
            (case side1 => repeat (first | exact (Kd.R_reads' HO389.out).2.2 | (with_reducible refine Kd.C_alloc ?_ _) | (with_reducible refine Kd.C_drewN ?_ _) | (with_reducible refine Kd.C_drew ?_)))
            (case side2 => exact (Kd.R_reads' HO389.out).2.1)
            (case side3 => repeat (first | exact (Kd.V_reads' HO_8.out).2.2 | (with_reducible refine Kd.C_alloc ?_ _) | (with_reducible refine Kd.C_drewN ?_ _) | (with_reducible refine Kd.C_drew ?_)))
            (case side4 => exact (Kd.V_reads' HO_8.out).2.1)
            rintro e w' ⟨rfl, ⟨nd, rfl⟩⟩
            refine ⟨_, rfl, ?_⟩
            refine hK.out _ _ ⟨(blk_cell BK367.out 0).trans rfl, (blk_cell BK367.out 1).trans rfl, (blk_cell BK367.out 2).trans rfl⟩ (fun hHeld => ?_)
            clear hK K
            refine norm_ (a' := ?_) ?_ ?_
            rotate_left
            · show Act.put _ (some 45) _ = _
              simp only [Act.put, List.setIfInBounds_toArray, List.set_cons_zero, List.set_cons_succ, i64_w, i32_w]
              rfl
            refine pure_ (i := 16) (N := some 49) (v := ?_) (a' := ?_) #[true, true, true, true, true, true, true, true, true, true, true, true, true, true, true, true, true, false, false, false, false, false, false, false, false] rfl rfl (any_of HT_.out (by kernel_rfl)) (fun _ _ _ h => h) (Or.inl ⟨by rfl, ?_⟩) ?_ ?_
            rotate_left
            · intro w'
              go_simp
              with_reducible rfl
            rotate_left
            · simp only [Act.put, List.setIfInBounds_toArray, List.set_cons_zero, List.set_cons_succ, i64_w, i32_w]
              rfl
            refine pure_ (i := 17) (N := some 50) (v := undef) (a' := ?_) #[true, true, true, true, true, true, true, true, true, true, true, true, true, true, true, true, true, true, false, false, false, false, false, false, false] rfl rfl (any_of HT_.out (by kernel_rfl)) (fun _ _ _ h => h) (Or.inr ⟨by rfl, rfl⟩) ?_ ?_
            rotate_left
            · simp only [Act.put, List.setIfInBounds_toArray, List.set_cons_zero, List.set_cons_succ, i64_w, i32_w]
              rfl
            refine pure_ (i := 18) (N := some 51) (v := undef) (a' := ?_) #[true, true, true, true, true, true, true, true, true, true, true, true, true, true, true, true, true, true, true, false, false, false, false, false, false] rfl rfl (any_of HT_.out (by kernel_rfl)) (fun _ _ _ h => h) (Or.inr ⟨by rfl, rfl⟩) ?_ ?_
            rotate_left
            · simp only [Act.put, List.setIfInBounds_toArray, List.set_cons_zero, List.set_cons_succ, i64_w, i32_w]
              rfl
            refine pure_ (i := 19) (N := some 52) (v := undef) (a' := ?_) #[true, true, true, true, true, true, true, true, true, true, true, true, true, true, true, true, true, true, true, true, false, false, false, false, false] rfl rfl (any_of HT_.out (by kernel_rfl)) (fun _ _ _ h => h) (Or.inr ⟨by rfl, rfl⟩) ?_ ?_
            rotate_left
            · simp only [Act.put, List.setIfInBounds_toArray, List.set_cons_zero, List.set_cons_succ, i64_w, i32_w]
              rfl
            refine pure_ (i := 20) (N := some 53) (v := undef) (a' := ?_) #[true, true, true, true, true, true, true, true, true, true, true, true, true, true, true, true, true, true, true, true, true, false, false, false, false] rfl rfl (any_of HT_.out (by kernel_rfl)) (fun _ _ _ h => h) (Or.inr ⟨by rfl, rfl⟩) ?_ ?_
            rotate_left
            · simp only [Act.put, List.setIfInBounds_toArray, List.set_cons_zero, List.set_cons_succ, i64_w, i32_w]
              rfl
            refine pure_ (i := 21) (N := some 54) (v := undef) (a' := ?_) #[true, true, true, true, true, true, true, true, true, true, true, true, true, true, true, true, true, true, true, true, true, true, false, false, false] rfl rfl (any_of HT_.out (by kernel_rfl)) (fun _ _ _ h => h) (Or.inr ⟨by rfl, rfl⟩) ?_ ?_
            rotate_left
            · simp only [Act.put, List.setIfInBounds_toArray, List.set_cons_zero, List.set_cons_succ, i64_w, i32_w]
              rfl
            refine pure_ (i := 22) (N := some 55) (v := ?_) (a' := ?_) #[true, true, true, true, true, true, true, true, true, true, true, true, true, true, true, true, true, true, true, true, true, true, true, false, false] rfl rfl (any_of HT_.out (by kernel_rfl)) (fun _ _ _ h => h) (Or.inl ⟨by rfl, ?_⟩) ?_ ?_
            rotate_left
            · intro w'
              go_simp
              with_reducible rfl
            rotate_left
            · simp only [Act.put, List.setIfInBounds_toArray, List.set_cons_zero, List.set_cons_succ, i64_w, i32_w]
              rfl
            refine one_ (i := 23) (N := some 56) #[true, true, true, true, true, true, true, true, true, true, true, true, true, true, true, true, true, true, true, true, true, true, true, true, false] rfl rfl (one_of HT_.out (by kernel_rfl)) (by decide) (fun K hK => ?_)
            refine goes_ Tryd.func61 (by kernel_rfl) rfl #[.int .i64 a2, .bool a0_0, .int .i64 t390, .bool false] (by rfl) rfl rfl (by (try simp only [List.map_toArray, List.map_cons, List.map_nil]); first | done | rfl | (simp only [List.length_drop, List.length_take]; rfl)) ?_
            with_reducible refine (spec_rounds.calls a2 a0_0 t390 false t393 _ A35.out).mono ?_
            rintro e w' ⟨rfl, ⟨nd, rfl⟩⟩
            refine ⟨_, rfl, ?_⟩
            refine hK.out _ _ ⟨(blk_cell BK367.out 0).trans rfl, (blk_cell BK367.out 1).trans rfl, (blk_cell BK367.out 2).trans rfl⟩ (fun hHeld => ?_)
            clear hK K
            refine norm_ (a' := ?_) ?_ ?_
            rotate_left
            · show Act.put _ (some 56) _ = _
              simp only [Act.put, List.setIfInBounds_toArray, List.set_cons_zero, List.set_cons_succ, i64_w, i32_w]
              rfl
            refine pure_ (i := 24) (N := some 57) (v := ?_) (a' := ?_) #[true, true, true, true, true, true, true, true, true, true, true, true, true, true, true, true, true, true, true, true, true, true, true, true, true] rfl rfl (any_of HT_.out (by kernel_rfl)) (fun _ _ _ h => h) (Or.inl ⟨by rfl, ?_⟩) ?_ ?_
            rotate_left
            · intro w'
              go_simp
              with_reducible rfl
            rotate_left
            · simp only [Act.put, List.setIfInBounds_toArray, List.set_cons_zero, List.set_cons_succ, i64_w, i32_w]
              rfl
            refine done_ (done_of HT_.out (by kernel_rfl)) ?_
            try go_wp2
            go_meet
            case rel => exact ⟨_, (t393), (by first | rfl | (simp; done) | (simp [*]; done)), H', ⟨by have := HJ3.out; first | omega | exact Nat.le_refl _⟩, ⟨by (with_reducible repeat (first | apply Kd.V_alloc | apply Kd.V_drewN | apply Kd.V_drew)); exact Kd.V_mono HO383.out (fun _ hk => ⟨hk.1.1, ⟨hk.1.2.1, hk.1.2.2⟩⟩)⟩, ⟨by (with_reducible repeat (first | apply Kd.V_alloc | apply Kd.V_drewN | apply Kd.V_drew)); exact Kd.V_mono HO_368001.out (fun _ hk => ⟨hk.1.1, ⟨hk.1.2.1, hk.1.2.2⟩⟩)⟩, ⟨by (with_reducible repeat (first | apply Kd.V_alloc | apply Kd.V_drewN | apply Kd.V_drew)); exact Kd.V_mono HO_368002.out (fun _ hk => ⟨hk.1.1, ⟨hk.1.2.1, hk.1.2.2⟩⟩)⟩, ⟨by (with_reducible repeat (first | refine blk_drewN ?_ _ | refine blk_drew ?_ | refine blk_alloc ?_ _)); exact BK367.out⟩, ⟨by (with_reducible repeat (first | refine blk_drewN ?_ _ | refine blk_drew ?_ | refine blk_alloc ?_ _)); exact BK368.out⟩, ⟨by repeat (first | (with_reducible first | exact HB.out | apply below_alloc | apply pw_below_drewN | apply below_drew1 | refine below_set ?_ GE367.out | refine below_set ?_ GE368.out) | exact HB.out)⟩⟩
        · rw [if_neg c24] at H
          have c24b0 : decide (0 < (t384.length : Int)) = false := decide_eq_false c24
          have c24b1 : decide (0 < t384.length) = false := decide_eq_false (by omega)
          clear c24
          (first | rw [c24b0] | (simp only [i64_w, i32_w]; rw [c24b0]) | skip)
          have H' := Aside0.mk H
          clear H
          try go_wp2
          have n0_ := Aside0.mk (Kd.V_drew HO_7.out)
          have n1_ := Aside0.mk (Kd.V_drew HO_8.out)
          have n2_ := Aside0.mk (Kd.V_drew HO_368001.out)
          have n3_ := Aside0.mk (Kd.V_drew HO_368002.out)
          have n4_ := Aside0.mk (Kd.V_drew HO383.out)
          have n5_ := Aside0.mk (Kd.V_drew HO386.out)
          have n6_ := Aside0.mk (blk_drew BK367.out)
          have n7_ := Aside0.mk (blk_drew BK368.out)
          have n8_ := Aside0.mk (below_drew1 HB.out)
          clear HO_7
          clear HO_8
          clear HO_368001
          clear HO_368002
          clear HO383
          clear HO386
          clear BK367
          clear BK368
          clear HB
          have HO_7 := n0_
          have HO_8 := n1_
          have HO_368001 := n2_
          have HO_368002 := n3_
          have HO383 := n4_
          have HO386 := n5_
          have BK367 := n6_
          have BK368 := n7_
          have HB := n8_
          clear n0_ n1_ n2_ n3_ n4_ n5_ n6_ n7_ n8_
          obtain ⟨Ao42, co42, eo42⟩ := Kd.V_slice HO386.out
          (first | subst eo42 | (injection eo42 with f1_ f2_ f3_; have f4_ := f1_.symm; have f5_ := f3_.symm; clear f1_ f2_ f3_; subst f4_; subst f5_))
          refine start_ (n := 25) (S := fun w' => True) (ds := []) #[false, false, false, false, false, false, false, false, false, false, false, false, false, false, false, false, false, false, false, false, false, false, false, false, false] (by kernel_rfl) rfl rfl trivial (fun hHeld => ?_); refine with_tabW spec_Frac_Round.tab6 spec_Frac_Round.bits6 (fun HT_ HW_ => ?_)
          generalize w23.drew = w41 at HO_7 HO_8 HO_368001 HO_368002 HO383 HO386 BK367 BK368 HB hHeld ⊢
          refine pure_ (i := 0) (N := some 33) (v := ?_) (a' := ?_) #[true, false, false, false, false, false, false, false, false, false, false, false, false, false, false, false, false, false, false, false, false, false, false, false, false] rfl rfl (any_of HT_.out (by kernel_rfl)) (fun _ _ _ h => h) (Or.inl ⟨by rfl, ?_⟩) ?_ ?_
          rotate_left
          · intro w'
            go_simp
            with_reducible rfl
          rotate_left
          · simp only [Act.put, List.setIfInBounds_toArray, List.set_cons_zero, List.set_cons_succ, i64_w, i32_w]
            rfl
          refine pure_ (i := 1) (N := some 34) (v := ?_) (a' := ?_) #[true, true, false, false, false, false, false, false, false, false, false, false, false, false, false, false, false, false, false, false, false, false, false, false, false] rfl rfl (any_of HT_.out (by kernel_rfl)) (fun _ _ _ h => h) (Or.inl ⟨by rfl, ?_⟩) ?_ ?_
          rotate_left
          · intro w'
            go_simp
            with_reducible rfl
          rotate_left
          · simp only [Act.put, List.setIfInBounds_toArray, List.set_cons_zero, List.set_cons_succ, i64_w, i32_w]
            rfl
          refine pure_ (i := 2) (N := some 35) (v := ?_) (a' := ?_) #[true, true, true, false, false, false, false, false, false, false, false, false, false, false, false, false, false, false, false, false, false, false, false, false, false] rfl rfl (any_of HT_.out (by kernel_rfl)) (fun _ _ _ h => h) (Or.inl ⟨by rfl, ?_⟩) ?_ ?_
          rotate_left
          · intro w'
            go_simp
            with_reducible rfl
          rotate_left
          · simp only [Act.put, List.setIfInBounds_toArray, List.set_cons_zero, List.set_cons_succ, i64_w, i32_w]
            rfl
          refine pure_ (i := 3) (N := some 36) (v := ?_) (a' := ?_) #[true, true, true, true, false, false, false, false, false, false, false, false, false, false, false, false, false, false, false, false, false, false, false, false, false] rfl rfl (any_of HT_.out (by kernel_rfl)) (fun _ _ _ h => h) (Or.inl ⟨by rfl, ?_⟩) ?_ ?_
          rotate_left
          · intro w'
            go_simp
            with_reducible rfl
          rotate_left
          · simp only [Act.put, List.setIfInBounds_toArray, List.set_cons_zero, List.set_cons_succ, i64_w, i32_w]
            rfl
          refine pure_ (i := 4) (N := some 37) (v := undef) (a' := ?_) #[true, true, true, true, true, false, false, false, false, false, false, false, false, false, false, false, false, false, false, false, false, false, false, false, false] rfl rfl (any_of HT_.out (by kernel_rfl)) (fun _ _ _ h => h) (Or.inr ⟨by rfl, rfl⟩) ?_ ?_
          rotate_left
          · simp only [Act.put, List.setIfInBounds_toArray, List.set_cons_zero, List.set_cons_succ, i64_w, i32_w]
            rfl
          refine pure_ (i := 5) (N := some 38) (v := undef) (a' := ?_) #[true, true, true, true, true, true, false, false, false, false, false, false, false, false, false, false, false, false, false, false, false, false, false, false, false] rfl rfl (any_of HT_.out (by kernel_rfl)) (fun _ _ _ h => h) (Or.inr ⟨by rfl, rfl⟩) ?_ ?_
          rotate_left
          · simp only [Act.put, List.setIfInBounds_toArray, List.set_cons_zero, List.set_cons_succ, i64_w, i32_w]
            rfl
          refine pure_ (i := 6) (N := some 39) (v := undef) (a' := ?_) #[true, true, true, true, true, true, true, false, false, false, false, false, false, false, false, false, false, false, false, false, false, false, false, false, false] rfl rfl (any_of HT_.out (by kernel_rfl)) (fun _ _ _ h => h) (Or.inr ⟨by rfl, rfl⟩) ?_ ?_
          rotate_left
          · simp only [Act.put, List.setIfInBounds_toArray, List.set_cons_zero, List.set_cons_succ, i64_w, i32_w]
            rfl
          refine pure_ (i := 7) (N := some 40) (v := undef) (a' := ?_) #[true, true, true, true, true, true, true, true, false, false, false, false, false, false, false, false, false, false, false, false, false, false, false, false, false] rfl rfl (any_of HT_.out (by kernel_rfl)) (fun _ _ _ h => h) (Or.inr ⟨by rfl, rfl⟩) ?_ ?_
          rotate_left
          · simp only [Act.put, List.setIfInBounds_toArray, List.set_cons_zero, List.set_cons_succ, i64_w, i32_w]
            rfl
          refine pure_ (i := 8) (N := some 41) (v := undef) (a' := ?_) #[true, true, true, true, true, true, true, true, true, false, false, false, false, false, false, false, false, false, false, false, false, false, false, false, false] rfl rfl (any_of HT_.out (by kernel_rfl)) (fun _ _ _ h => h) (Or.inr ⟨by rfl, rfl⟩) ?_ ?_
          rotate_left
          · simp only [Act.put, List.setIfInBounds_toArray, List.set_cons_zero, List.set_cons_succ, i64_w, i32_w]
            rfl
          refine pure_ (i := 9) (N := some 42) (v := undef) (a' := ?_) #[true, true, true, true, true, true, true, true, true, true, false, false, false, false, false, false, false, false, false, false, false, false, false, false, false] rfl rfl (any_of HT_.out (by kernel_rfl)) (fun _ _ _ h => h) (Or.inr ⟨by rfl, rfl⟩) ?_ ?_
          rotate_left
          · simp only [Act.put, List.setIfInBounds_toArray, List.set_cons_zero, List.set_cons_succ, i64_w, i32_w]
            rfl
          refine pure_ (i := 10) (N := some 43) (v := undef) (a' := ?_) #[true, true, true, true, true, true, true, true, true, true, true, false, false, false, false, false, false, false, false, false, false, false, false, false, false] rfl rfl (any_of HT_.out (by kernel_rfl)) (fun _ _ _ h => h) (Or.inr ⟨by rfl, rfl⟩) ?_ ?_
          rotate_left
          · simp only [Act.put, List.setIfInBounds_toArray, List.set_cons_zero, List.set_cons_succ, i64_w, i32_w]
            rfl
          refine pure_ (i := 11) (N := some 44) (v := undef) (a' := ?_) #[true, true, true, true, true, true, true, true, true, true, true, true, false, false, false, false, false, false, false, false, false, false, false, false, false] rfl rfl (any_of HT_.out (by kernel_rfl)) (fun _ _ _ h => h) (Or.inr ⟨by rfl, rfl⟩) ?_ ?_
          rotate_left
          · simp only [Act.put, List.setIfInBounds_toArray, List.set_cons_zero, List.set_cons_succ, i64_w, i32_w]
            rfl
          refine pure_ (i := 12) (N := some 45) (v := undef) (a' := ?_) #[true, true, true, true, true, true, true, true, true, true, true, true, true, false, false, false, false, false, false, false, false, false, false, false, false] rfl rfl (any_of HT_.out (by kernel_rfl)) (fun _ _ _ h => h) (Or.inr ⟨by rfl, rfl⟩) ?_ ?_
          rotate_left
          · simp only [Act.put, List.setIfInBounds_toArray, List.set_cons_zero, List.set_cons_succ, i64_w, i32_w]
            rfl
          refine pure_ (i := 13) (N := some 46) (v := undef) (a' := ?_) #[true, true, true, true, true, true, true, true, true, true, true, true, true, true, false, false, false, false, false, false, false, false, false, false, false] rfl rfl (any_of HT_.out (by kernel_rfl)) (fun _ _ _ h => h) (Or.inr ⟨by rfl, rfl⟩) ?_ ?_
          rotate_left
          · simp only [Act.put, List.setIfInBounds_toArray, List.set_cons_zero, List.set_cons_succ, i64_w, i32_w]
            rfl
          refine pure_ (i := 14) (N := some 47) (v := undef) (a' := ?_) #[true, true, true, true, true, true, true, true, true, true, true, true, true, true, true, false, false, false, false, false, false, false, false, false, false] rfl rfl (any_of HT_.out (by kernel_rfl)) (fun _ _ _ h => h) (Or.inr ⟨by rfl, rfl⟩) ?_ ?_
          rotate_left
          · simp only [Act.put, List.setIfInBounds_toArray, List.set_cons_zero, List.set_cons_succ, i64_w, i32_w]
            rfl
          refine pure_ (i := 15) (N := some 48) (v := undef) (a' := ?_) #[true, true, true, true, true, true, true, true, true, true, true, true, true, true, true, true, false, false, false, false, false, false, false, false, false] rfl rfl (any_of HT_.out (by kernel_rfl)) (fun _ _ _ h => h) (Or.inr ⟨by rfl, rfl⟩) ?_ ?_
          rotate_left
          · simp only [Act.put, List.setIfInBounds_toArray, List.set_cons_zero, List.set_cons_succ, i64_w, i32_w]
            rfl
          refine pure_ (i := 16) (N := some 49) (v := undef) (a' := ?_) #[true, true, true, true, true, true, true, true, true, true, true, true, true, true, true, true, true, false, false, false, false, false, false, false, false] rfl rfl (any_of HT_.out (by kernel_rfl)) (fun _ _ _ h => h) (Or.inr ⟨by rfl, rfl⟩) ?_ ?_
          rotate_left
          · simp only [Act.put, List.setIfInBounds_toArray, List.set_cons_zero, List.set_cons_succ, i64_w, i32_w]
            rfl
          refine pure_ (i := 17) (N := some 50) (v := undef) (a' := ?_) #[true, true, true, true, true, true, true, true, true, true, true, true, true, true, true, true, true, true, false, false, false, false, false, false, false] rfl rfl (any_of HT_.out (by kernel_rfl)) (fun _ _ _ h => h) (Or.inr ⟨by rfl, rfl⟩) ?_ ?_
          rotate_left
          · simp only [Act.put, List.setIfInBounds_toArray, List.set_cons_zero, List.set_cons_succ, i64_w, i32_w]
            rfl
          refine pure_ (i := 18) (N := some 51) (v := undef) (a' := ?_) #[true, true, true, true, true, true, true, true, true, true, true, true, true, true, true, true, true, true, true, false, false, false, false, false, false] rfl rfl (any_of HT_.out (by kernel_rfl)) (fun _ _ _ h => h) (Or.inr ⟨by rfl, rfl⟩) ?_ ?_
          rotate_left
          · simp only [Act.put, List.setIfInBounds_toArray, List.set_cons_zero, List.set_cons_succ, i64_w, i32_w]
            rfl
          refine pure_ (i := 19) (N := some 52) (v := undef) (a' := ?_) #[true, true, true, true, true, true, true, true, true, true, true, true, true, true, true, true, true, true, true, true, false, false, false, false, false] rfl rfl (any_of HT_.out (by kernel_rfl)) (fun _ _ _ h => h) (Or.inr ⟨by rfl, rfl⟩) ?_ ?_
          rotate_left
          · simp only [Act.put, List.setIfInBounds_toArray, List.set_cons_zero, List.set_cons_succ, i64_w, i32_w]
            rfl
          refine pure_ (i := 20) (N := some 53) (v := undef) (a' := ?_) #[true, true, true, true, true, true, true, true, true, true, true, true, true, true, true, true, true, true, true, true, true, false, false, false, false] rfl rfl (any_of HT_.out (by kernel_rfl)) (fun _ _ _ h => h) (Or.inr ⟨by rfl, rfl⟩) ?_ ?_
          rotate_left
          · simp only [Act.put, List.setIfInBounds_toArray, List.set_cons_zero, List.set_cons_succ, i64_w, i32_w]
            rfl
          refine pure_ (i := 21) (N := some 54) (v := undef) (a' := ?_) #[true, true, true, true, true, true, true, true, true, true, true, true, true, true, true, true, true, true, true, true, true, true, false, false, false] rfl rfl (any_of HT_.out (by kernel_rfl)) (fun _ _ _ h => h) (Or.inr ⟨by rfl, rfl⟩) ?_ ?_
          rotate_left
          · simp only [Act.put, List.setIfInBounds_toArray, List.set_cons_zero, List.set_cons_succ, i64_w, i32_w]
            rfl
          refine pure_ (i := 22) (N := some 55) (v := undef) (a' := ?_) #[true, true, true, true, true, true, true, true, true, true, true, true, true, true, true, true, true, true, true, true, true, true, true, false, false] rfl rfl (any_of HT_.out (by kernel_rfl)) (fun _ _ _ h => h) (Or.inr ⟨by rfl, rfl⟩) ?_ ?_
          rotate_left
          · simp only [Act.put, List.setIfInBounds_toArray, List.set_cons_zero, List.set_cons_succ, i64_w, i32_w]
            rfl
          refine pure_ (i := 23) (N := some 56) (v := undef) (a' := ?_) #[true, true, true, true, true, true, true, true, true, true, true, true, true, true, true, true, true, true, true, true, true, true, true, true, false] rfl rfl (any_of HT_.out (by kernel_rfl)) (fun _ _ _ h => h) (Or.inr ⟨by rfl, rfl⟩) ?_ ?_
          rotate_left
          · simp only [Act.put, List.setIfInBounds_toArray, List.set_cons_zero, List.set_cons_succ, i64_w, i32_w]
            rfl
          refine pure_ (i := 24) (N := some 57) (v := ?_) (a' := ?_) #[true, true, true, true, true, true, true, true, true, true, true, true, true, true, true, true, true, true, true, true, true, true, true, true, true] rfl rfl (any_of HT_.out (by kernel_rfl)) (fun _ _ _ h => h) (Or.inl ⟨by rfl, ?_⟩) ?_ ?_
          rotate_left
          · intro w'
            go_simp
            with_reducible rfl
          rotate_left
          · simp only [Act.put, List.setIfInBounds_toArray, List.set_cons_zero, List.set_cons_succ, i64_w, i32_w]
            rfl
          refine done_ (done_of HT_.out (by kernel_rfl)) ?_
          try go_wp2
          go_meet
          case rel => exact ⟨_, (false), (by first | rfl | (simp; done) | (simp [*]; done)), H', ⟨by have := HJ3.out; first | omega | exact Nat.le_refl _⟩, ⟨by (with_reducible repeat (first | apply Kd.V_alloc | apply Kd.V_drewN | apply Kd.V_drew)); exact HO383.out⟩, ⟨by (with_reducible repeat (first | apply Kd.V_alloc | apply Kd.V_drewN | apply Kd.V_drew)); exact HO_368001.out⟩, ⟨by (with_reducible repeat (first | apply Kd.V_alloc | apply Kd.V_drewN | apply Kd.V_drew)); exact HO_368002.out⟩, ⟨by (with_reducible repeat (first | refine blk_drewN ?_ _ | refine blk_drew ?_ | refine blk_alloc ?_ _)); exact BK367.out⟩, ⟨by (with_reducible repeat (first | refine blk_drewN ?_ _ | refine blk_drew ?_ | refine blk_alloc ?_ _)); exact BK368.out⟩, ⟨by repeat (first | (with_reducible first | exact HB.out | apply below_alloc | apply pw_below_drewN | apply below_drew1 | refine below_set ?_ GE367.out | refine below_set ?_ GE368.out) | exact HB.out)⟩⟩
      case rest =>
        clear HC20
        try clear c2
        try clear p2
        try clear c3
        try clear c6
        try clear c24
        try clear c24b0
        try clear c24b1
        try clear c27
        try clear c27b0
        try clear c27b1
        try clear c28
        try clear c30
        obtain ⟨kq, x57_19, rfl, HA, HJ19, HO_9, HO_368001, HO_368002, BK367, BK368, HB⟩ := hcut
        cases kq with
        | zero => exact absurd HA.out (by simp [spec_Frac_Round.j1])
        | succ kj19 =>
          have H := HA.out
          clear HA
          simp only [spec_Frac_Round.j1] at H
          by_cases c43 : x57_19 = true
          · subst c43
            have H1 : ((spec_one.f).bind fun t394 => ((spec_NatAdd.f kj19 t381 t394).bind fun t397 => ((spec_wholeOf.f a0_0 t397).bind fun bt400 => (some (bt400.1, bt400.2, wrap64 (-a1)))))) = some (r1, r2, r3) := by rw [if_pos rfl] at H; exact H
            clear H
            have H := H1
            clear H1
            replace H := Option.bind_eq_some_iff.mp H
            obtain ⟨t394, A440, H⟩ := H
            replace H : ((spec_NatAdd.f kj19 t381 t394).bind fun t397 => ((spec_wholeOf.f a0_0 t397).bind fun bt400 => (some (bt400.1, bt400.2, wrap64 (-a1))))) = some (r1, r2, r3) := H
            have A44 := Aside0.mk A440
            clear A440
            replace H := Option.bind_eq_some_iff.mp H
            obtain ⟨t397, A450, H⟩ := H
            replace H : ((spec_wholeOf.f a0_0 t397).bind fun bt400 => (some (bt400.1, bt400.2, wrap64 (-a1)))) = some (r1, r2, r3) := H
            have A45 := Aside0.mk A450
            clear A450
            replace H := Option.bind_eq_some_iff.mp H
            obtain ⟨⟨t400, t401⟩, A460, H⟩ := H
            replace H : (some (t400, t401, wrap64 (-a1))) = some (r1, r2, r3) := H
            have A46 := Aside0.mk A460
            clear A460
            simp only [Option.some.injEq, Prod.mk.injEq] at H
            obtain ⟨rfl, rfl, rfl⟩ := H
            go_wp2_with (first | ((with_reducible refine gate_callee (f := 63) rfl ?_); refine goesL_ (some 59) rfl rfl Tryd.func63 (by kernel_rfl) rfl #[] rfl (by (try simp only [List.map_toArray, List.map_cons, List.map_nil]); first | done | rfl | (simp only [List.length_drop, List.length_take]; rfl)) ?_; (with_reducible refine (spec_one.calls  t394 _ A44.out).mono ?_); rintro e w47 ⟨v395, rfl, ho0, hb⟩; refine ⟨_, rfl, ?_⟩; have n0_ := Aside0.mk (Kd.V_elder' (by (with_reducible repeat (first | apply Kd.V_alloc | apply Kd.V_drewN | apply Kd.V_drew)); exact HO_9.out) (Kd.R_base ho0) hb); have n1_ := Aside0.mk (Kd.V_elder' (by (with_reducible repeat (first | apply Kd.V_alloc | apply Kd.V_drewN | apply Kd.V_drew)); exact HO_368001.out) (Kd.R_base ho0) hb); have n2_ := Aside0.mk (Kd.V_elder' (by (with_reducible repeat (first | apply Kd.V_alloc | apply Kd.V_drewN | apply Kd.V_drew)); exact HO_368002.out) (Kd.R_base ho0) hb); have n3_ := Aside0.mk (Kd.R_lower (Kd.R_newM (M := fun k_ => (w.heap.size ≤ k_)) ho0 (below_size (by repeat (first | (with_reducible first | exact HB.out | apply below_alloc | apply pw_below_drewN | apply below_drew1 | refine below_set ?_ GE367.out | refine below_set ?_ GE368.out) | exact HB.out))) (fun k_ h_ => h_)) (below_size (by repeat (first | (with_reducible first | exact HB.out | apply below_alloc | apply pw_below_drewN | apply below_drew1 | refine below_set ?_ GE367.out | refine below_set ?_ GE368.out) | exact HB.out)))); have n4_ := Aside0.mk (blk_below (g := gb367) (o := .cells #[.bool a0_0, .slice A0_1 l0_1.length c0_1, .slice A0_2 l0_2.length c0_2] 78 (0, 0)) (by (with_reducible repeat (first | refine blk_drewN ?_ _ | refine blk_drew ?_ | refine blk_alloc ?_ _)); exact BK367.out) hb); have n5_ := Aside0.mk (blk_below (g := gb368) (o := .cells #[.bool false, .slice none 0 0, .int .i64 0] 40 (0, 0)) (by (with_reducible repeat (first | refine blk_drewN ?_ _ | refine blk_drew ?_ | refine blk_alloc ?_ _)); exact BK368.out) hb); have n6_ := Aside0.mk (below_step (by repeat (first | (with_reducible first | exact HB.out | apply below_alloc | apply pw_below_drewN | apply below_drew1 | refine below_set ?_ GE367.out | refine below_set ?_ GE368.out) | exact HB.out)) hb); clear HO_9; clear HO_368001; clear HO_368002; clear BK367; clear BK368; clear HB; have HO_9 := n0_; have HO_368001 := n1_; have HO_368002 := n2_; have HO396 := n3_; have BK367 := n4_; have BK368 := n5_; have HB := n6_; clear n0_ n1_ n2_ n3_ n4_ n5_ n6_; (try clear hb); (try clear hb2); (try clear hk); (try clear hi); (try clear ho0); obtain ⟨Ao48, co48, eo48⟩ := Kd.V_slice HO_9.out; subst eo48; obtain ⟨Ao49, co49, eo49⟩ := Kd.R_slice HO396.out; subst eo49) | ((with_reducible refine gate_callee (f := 62) rfl ?_); refine goesL_ (some 60) rfl rfl Tryd.func62 (by kernel_rfl) rfl #[.slice Ao48 t381.length co48, .slice Ao49 t394.length co49] rfl (by (try simp only [List.map_toArray, List.map_cons, List.map_nil]); first | done | rfl | (simp only [List.length_drop, List.length_take]; rfl)) ?_; (with_reducible refine (spec_NatAdd.calls kj19 _ _ t381 _ _ t394 t397 _ ?side1 ?side2 ?side3 ?side4 A45.out).mono ?_); (case side1 => repeat (first | exact (Kd.V_reads' HO_9.out).2.2 | (with_reducible refine Kd.C_alloc ?_ _) | (with_reducible refine Kd.C_drewN ?_ _) | (with_reducible refine Kd.C_drew ?_))); (case side2 => exact (Kd.V_reads' HO_9.out).2.1); (case side3 => repeat (first | exact (Kd.R_reads' HO396.out).2.2 | (with_reducible refine Kd.C_alloc ?_ _) | (with_reducible refine Kd.C_drewN ?_ _) | (with_reducible refine Kd.C_drew ?_))); (case side4 => exact (Kd.R_reads' HO396.out).2.1); rintro e w50 ⟨v398, rfl, ho0, hb⟩; refine ⟨_, rfl, ?_⟩; have n0_ := Aside0.mk (Kd.V_elder' (by (with_reducible repeat (first | apply Kd.V_alloc | apply Kd.V_drewN | apply Kd.V_drew)); exact HO_9.out) (Kd.R_base ho0) hb); have n1_ := Aside0.mk (Kd.V_elder' (by (with_reducible repeat (first | apply Kd.V_alloc | apply Kd.V_drewN | apply Kd.V_drew)); exact HO_368001.out) (Kd.R_base ho0) hb); have n2_ := Aside0.mk (Kd.V_elder' (by (with_reducible repeat (first | apply Kd.V_alloc | apply Kd.V_drewN | apply Kd.V_drew)); exact HO_368002.out) (Kd.R_base ho0) hb); have n3_ := Aside0.mk (Kd.R_elder' (by (with_reducible repeat (first | apply Kd.R_alloc | apply Kd.R_drewN | apply Kd.R_drew)); exact HO396.out) (Kd.R_base ho0) hb); have n4_ := Aside0.mk (Kd.R_lower (Kd.R_new' (Kd.R_newM (M := fun k_ => (w.heap.size ≤ k_)) ho0 (below_size (by repeat (first | (with_reducible first | exact HB.out | apply below_alloc | apply pw_below_drewN | apply below_drew1 | refine below_set ?_ GE367.out | refine below_set ?_ GE368.out) | exact HB.out))) (fun k_ h_ => h_)) (Kd.R_lt (by (with_reducible repeat (first | apply Kd.R_alloc | apply Kd.R_drewN | apply Kd.R_drew)); exact HO396.out))) (below_size (by repeat (first | (with_reducible first | exact HB.out | apply below_alloc | apply pw_below_drewN | apply below_drew1 | refine below_set ?_ GE367.out | refine below_set ?_ GE368.out) | exact HB.out)))); have n5_ := Aside0.mk (blk_below (g := gb367) (o := .cells #[.bool a0_0, .slice A0_1 l0_1.length c0_1, .slice A0_2 l0_2.length c0_2] 78 (0, 0)) (by (with_reducible repeat (first | refine blk_drewN ?_ _ | refine blk_drew ?_ | refine blk_alloc ?_ _)); exact BK367.out) hb); have n6_ := Aside0.mk (blk_below (g := gb368) (o := .cells #[.bool false, .slice none 0 0, .int .i64 0] 40 (0, 0)) (by (with_reducible repeat (first | refine blk_drewN ?_ _ | refine blk_drew ?_ | refine blk_alloc ?_ _)); exact BK368.out) hb); have n7_ := Aside0.mk (below_step (by repeat (first | (with_reducible first | exact HB.out | apply below_alloc | apply pw_below_drewN | apply below_drew1 | refine below_set ?_ GE367.out | refine below_set ?_ GE368.out) | exact HB.out)) hb); clear HO_9; clear HO_368001; clear HO_368002; clear HO396; clear BK367; clear BK368; clear HB; have HO_9 := n0_; have HO_368001 := n1_; have HO_368002 := n2_; have HO396 := n3_; have HO399 := n4_; have BK367 := n5_; have BK368 := n6_; have HB := n7_; clear n0_ n1_ n2_ n3_ n4_ n5_ n6_ n7_; (try clear hb); (try clear hb2); (try clear hk); (try clear hi); (try clear ho0); have hnb51 := NB367_368.out; have hnc51 := NB368_367.out; have hcz52_0 : w50.cell? ⟨gb367, 0, none⟩ = some (.bool a0_0) := (blk_cell BK367.out 0).trans rfl; have hcz52_1 : w50.cell? ⟨gb367, 1, none⟩ = some (.slice A0_1 l0_1.length c0_1) := (blk_cell BK367.out 1).trans rfl; have hcz52_2 : w50.cell? ⟨gb367, 2, none⟩ = some (.slice A0_2 l0_2.length c0_2) := (blk_cell BK367.out 2).trans rfl; have hfz52_0 := blk_frozen BK367.out 0; have hfz52_1 := blk_frozen BK367.out 1; have hfz52_2 := blk_frozen BK367.out 2; obtain ⟨Ao53, co53, eo53⟩ := Kd.R_slice HO399.out; subst eo53) | ((with_reducible refine gate_callee (f := 34) rfl ?_); refine goesL_ (some 65) rfl rfl Tryd.func34 (by kernel_rfl) rfl #[.bool a0_0, .slice Ao53 t397.length co53] rfl (by (try simp only [List.map_toArray, List.map_cons, List.map_nil]); first | done | rfl | (simp only [List.length_drop, List.length_take]; rfl)) ?_; (with_reducible refine (spec_wholeOf.calls a0_0 (fun k_ => some k_ = (.slice Ao53 t397.length co53 : Value).ownBlock) _ _ t397 t400 t401 _ ?side1 A46.out).mono ?_); (case side1 => exact Kd.R_V (Kd.R_tight rfl (Kd.R_types (Kd.R_types (HO399.out) BK367.out (by decide)) BK368.out (by decide)))); rintro e w54 ⟨v402, rfl, ho0, hb⟩; refine ⟨_, rfl, ?_⟩; have n0_ := Aside0.mk (Kd.V_below (by (with_reducible repeat (first | apply Kd.V_alloc | apply Kd.V_drewN | apply Kd.V_drew)); exact HO_9.out) hb); have n1_ := Aside0.mk (Kd.V_below (by (with_reducible repeat (first | apply Kd.V_alloc | apply Kd.V_drewN | apply Kd.V_drew)); exact HO_368001.out) hb); have n2_ := Aside0.mk (Kd.V_below (by (with_reducible repeat (first | apply Kd.V_alloc | apply Kd.V_drewN | apply Kd.V_drew)); exact HO_368002.out) hb); have n3_ := Aside0.mk (Kd.R_below (by (with_reducible repeat (first | apply Kd.R_alloc | apply Kd.R_drewN | apply Kd.R_drew)); exact HO396.out) hb); have n4_ := Aside0.mk (Kd.R_below (by (with_reducible repeat (first | apply Kd.R_alloc | apply Kd.R_drewN | apply Kd.R_drew)); exact HO399.out) hb); have n5_ := Aside0.mk (Kd.V_lower (Kd.V_mono (ok' := fun k_ => ((P0_1_ k_ ∨ P0_2_ k_) ∨ w.heap.size ≤ k_) ∧ some k_ ≠ (.slice Ao49 t394.length co49 : Value).ownBlock ∧ k_ ≠ gb367 ∧ k_ ≠ gb368) ho0 (fun k_ hk_ => ⟨Or.elim hk_ (fun hs_ => (.inr (((Kd.R_types (Kd.R_types (HO399.out) BK367.out (by decide)) BK368.out (by decide)).1 k_ hs_.symm).1.1.1.1))) (fun hn_ => (.inr (Nat.le_trans (below_size (by repeat (first | (with_reducible first | exact HB.out | apply below_alloc | apply pw_below_drewN | apply below_drew1 | refine below_set ?_ GE367.out | refine below_set ?_ GE368.out) | exact HB.out))) hn_))), Or.elim hk_ (fun hs_ => ((Kd.R_types (Kd.R_types (HO399.out) BK367.out (by decide)) BK368.out (by decide)).1 k_ hs_.symm).1.1.2) (fun hn_ => (Kd.fresh' (Kd.R_lt (by (with_reducible repeat (first | apply Kd.R_alloc | apply Kd.R_drewN | apply Kd.R_drew)); exact HO396.out)) k_ hn_)), Or.elim hk_ (fun hs_ => ((Kd.R_types (Kd.R_types (HO399.out) BK367.out (by decide)) BK368.out (by decide)).1 k_ hs_.symm).1.2) (fun hn_ => (Kd.freshB (g := gb367) (o := .cells #[.bool a0_0, .slice A0_1 l0_1.length c0_1, .slice A0_2 l0_2.length c0_2] 78 (0, 0)) (by (with_reducible repeat (first | refine blk_drewN ?_ _ | refine blk_drew ?_ | refine blk_alloc ?_ _)); exact BK367.out) k_ hn_)), Or.elim hk_ (fun hs_ => ((Kd.R_types (Kd.R_types (HO399.out) BK367.out (by decide)) BK368.out (by decide)).1 k_ hs_.symm).2) (fun hn_ => (Kd.freshB (g := gb368) (o := .cells #[.bool false, .slice none 0 0, .int .i64 0] 40 (0, 0)) (by (with_reducible repeat (first | refine blk_drewN ?_ _ | refine blk_drew ?_ | refine blk_alloc ?_ _)); exact BK368.out) k_ hn_))⟩)) (below_size (by repeat (first | (with_reducible first | exact HB.out | apply below_alloc | apply pw_below_drewN | apply below_drew1 | refine below_set ?_ GE367.out | refine below_set ?_ GE368.out) | exact HB.out)))); have n6_ := Aside0.mk (blk_below (g := gb367) (o := .cells #[.bool a0_0, .slice A0_1 l0_1.length c0_1, .slice A0_2 l0_2.length c0_2] 78 (0, 0)) (by (with_reducible repeat (first | refine blk_drewN ?_ _ | refine blk_drew ?_ | refine blk_alloc ?_ _)); exact BK367.out) hb); have n7_ := Aside0.mk (blk_below (g := gb368) (o := .cells #[.bool false, .slice none 0 0, .int .i64 0] 40 (0, 0)) (by (with_reducible repeat (first | refine blk_drewN ?_ _ | refine blk_drew ?_ | refine blk_alloc ?_ _)); exact BK368.out) hb); have n8_ := Aside0.mk (below_step (by repeat (first | (with_reducible first | exact HB.out | apply below_alloc | apply pw_below_drewN | apply below_drew1 | refine below_set ?_ GE367.out | refine below_set ?_ GE368.out) | exact HB.out)) hb); clear HO_9; clear HO_368001; clear HO_368002; clear HO396; clear HO399; clear BK367; clear BK368; clear HB; have HO_9 := n0_; have HO_368001 := n1_; have HO_368002 := n2_; have HO396 := n3_; have HO399 := n4_; have HO403 := n5_; have BK367 := n6_; have BK368 := n7_; have HB := n8_; clear n0_ n1_ n2_ n3_ n4_ n5_ n6_ n7_ n8_; (try clear hb); (try clear hb2); (try clear hk); (try clear hi); (try clear ho0); obtain ⟨Ao55, co55, eo55⟩ := Kd.V_slice HO403.out; subst eo55; have hcz56_0 : w54.cell? ⟨gb368, 0, none⟩ = some (.bool false) := (blk_cell BK368.out 0).trans rfl; have hcz56_1 : w54.cell? ⟨gb368, 1, none⟩ = some (.slice none 0 0) := (blk_cell BK368.out 1).trans rfl; have hcz56_2 : w54.cell? ⟨gb368, 2, none⟩ = some (.int .i64 0) := (blk_cell BK368.out 2).trans rfl; have hfz56_0 := blk_frozen BK368.out 0; have hfz56_1 := blk_frozen BK368.out 1; have hfz56_2 := blk_frozen BK368.out 2))
            refine bodyPost_ret (results_cell_row rfl _ _ gb368 40 #[.bool t400, .slice Ao55 t401.length co55, .int .i64 (wrap64 (-a1))] (0, 0) _ rfl (by (with_reducible repeat (first | refine blk_drewN ?_ _ | refine blk_drew ?_ | refine blk_alloc ?_ _)); refine blk_put (cs := #[.bool t400, .slice Ao55 t401.length co55, .int .i64 0]) ?_ 2 _ rfl; (with_reducible repeat (first | refine blk_drewN ?_ _ | refine blk_drew ?_ | refine blk_alloc ?_ _)); refine blk_put (cs := #[.bool t400, .slice none 0 0, .int .i64 0]) ?_ 1 _ rfl; (with_reducible repeat (first | refine blk_drewN ?_ _ | refine blk_drew ?_ | refine blk_alloc ?_ _)); refine blk_put (cs := #[.bool false, .slice none 0 0, .int .i64 0]) ?_ 0 _ rfl; (with_reducible repeat (first | refine blk_drewN ?_ _ | refine blk_drew ?_ | refine blk_alloc ?_ _)); exact BK368.out) Tryd.underlying40 rfl (by kernel_rfl)) rfl ?_
            exact ⟨_, by first | rfl | (simp [errW_none, errW_some] <;> rfl) | (simp [*, errW_none, errW_some] <;> rfl), by (with_reducible repeat (first | apply Kd.V_alloc | apply Kd.V_drewN | apply Kd.V_drew)); exact Kd.V_mono (Kd.V_far (p := ⟨gb368, 2, none⟩) (Kd.V_far (p := ⟨gb368, 1, none⟩) (Kd.V_far (p := ⟨gb368, 0, none⟩) (Kd.V_mono HO403.out (fun k_ hk => (⟨hk, hk.2.2.2⟩ : _ ∧ k_ ≠ gb368))) (fun _ hk => hk.2) (.bool t400)) (fun _ hk => hk.2) (.slice Ao55 t401.length co55)) (fun _ hk => hk.2) (.int .i64 (wrap64 (-a1)))) (fun _ hk => hk.1.1), by repeat (first | (with_reducible first | exact HB.out | apply below_alloc | apply pw_below_drewN | apply below_drew1 | refine below_set ?_ GE367.out | refine below_set ?_ GE368.out) | exact HB.out)⟩
          · replace c43 := Bool.eq_false_iff.mpr c43
            subst c43
            have H1 : ((spec_wholeOf.f a0_0 t381).bind fun bt404 => (some (bt404.1, bt404.2, wrap64 (-a1)))) = some (r1, r2, r3) := by rw [if_neg (show ¬ (false = true) by decide)] at H; exact H
            clear H
            have H := H1
            clear H1
            replace H := Option.bind_eq_some_iff.mp H
            obtain ⟨⟨t404, t405⟩, A570, H⟩ := H
            replace H : (some (t404, t405, wrap64 (-a1))) = some (r1, r2, r3) := H
            have A57 := Aside0.mk A570
            clear A570
            simp only [Option.some.injEq, Prod.mk.injEq] at H
            obtain ⟨rfl, rfl, rfl⟩ := H
            have hnb58 := NB367_368.out
            have hnc58 := NB368_367.out
            have hcz59_0 : wc.cell? ⟨gb367, 0, none⟩ = some (.bool a0_0) := (blk_cell BK367.out 0).trans rfl
            have hcz59_1 : wc.cell? ⟨gb367, 1, none⟩ = some (.slice A0_1 l0_1.length c0_1) := (blk_cell BK367.out 1).trans rfl
            have hcz59_2 : wc.cell? ⟨gb367, 2, none⟩ = some (.slice A0_2 l0_2.length c0_2) := (blk_cell BK367.out 2).trans rfl
            have hfz59_0 := blk_frozen BK367.out 0
            have hfz59_1 := blk_frozen BK367.out 1
            have hfz59_2 := blk_frozen BK367.out 2
            obtain ⟨Ao60, co60, eo60⟩ := Kd.V_slice HO_9.out
            subst eo60
            go_wp2_with (first | ((with_reducible refine gate_callee (f := 34) rfl ?_); refine goesL_ (some 65) rfl rfl Tryd.func34 (by kernel_rfl) rfl #[.bool a0_0, .slice Ao60 t381.length co60] rfl (by (try simp only [List.map_toArray, List.map_cons, List.map_nil]); first | done | rfl | (simp only [List.length_drop, List.length_take]; rfl)) ?_; (with_reducible refine (spec_wholeOf.calls a0_0 (fun k_ => (((P0_1_ k_ ∨ P0_2_ k_) ∨ w.heap.size ≤ k_) ∧ (k_ ≠ gb367 ∧ k_ ≠ gb368))) _ _ t381 t404 t405 _ ?side1 A57.out).mono ?_); (case side1 => exact HO_9.out); rintro e w61 ⟨v406, rfl, ho0, hb⟩; refine ⟨_, rfl, ?_⟩; have n0_ := Aside0.mk (Kd.V_below (by (with_reducible repeat (first | apply Kd.V_alloc | apply Kd.V_drewN | apply Kd.V_drew)); exact HO_9.out) hb); have n1_ := Aside0.mk (Kd.V_below (by (with_reducible repeat (first | apply Kd.V_alloc | apply Kd.V_drewN | apply Kd.V_drew)); exact HO_368001.out) hb); have n2_ := Aside0.mk (Kd.V_below (by (with_reducible repeat (first | apply Kd.V_alloc | apply Kd.V_drewN | apply Kd.V_drew)); exact HO_368002.out) hb); have n3_ := Aside0.mk (Kd.V_lower (Kd.V_mono (ok' := fun k_ => ((P0_1_ k_ ∨ P0_2_ k_) ∨ w.heap.size ≤ k_) ∧ k_ ≠ gb367 ∧ k_ ≠ gb368) ho0 (fun k_ hk_ => ⟨Or.elim hk_ (fun hs_ => hs_.1) (fun hn_ => (.inr (Nat.le_trans (below_size (by repeat (first | (with_reducible first | exact HB.out | apply below_alloc | apply pw_below_drewN | apply below_drew1 | refine below_set ?_ GE367.out | refine below_set ?_ GE368.out) | exact HB.out))) hn_))), Or.elim hk_ (fun hs_ => hs_.2.1) (fun hn_ => (Kd.freshB (g := gb367) (o := .cells #[.bool a0_0, .slice A0_1 l0_1.length c0_1, .slice A0_2 l0_2.length c0_2] 78 (0, 0)) (by (with_reducible repeat (first | refine blk_drewN ?_ _ | refine blk_drew ?_ | refine blk_alloc ?_ _)); exact BK367.out) k_ hn_)), Or.elim hk_ (fun hs_ => hs_.2.2) (fun hn_ => (Kd.freshB (g := gb368) (o := .cells #[.bool false, .slice none 0 0, .int .i64 0] 40 (0, 0)) (by (with_reducible repeat (first | refine blk_drewN ?_ _ | refine blk_drew ?_ | refine blk_alloc ?_ _)); exact BK368.out) k_ hn_))⟩)) (below_size (by repeat (first | (with_reducible first | exact HB.out | apply below_alloc | apply pw_below_drewN | apply below_drew1 | refine below_set ?_ GE367.out | refine below_set ?_ GE368.out) | exact HB.out)))); have n4_ := Aside0.mk (blk_below (g := gb367) (o := .cells #[.bool a0_0, .slice A0_1 l0_1.length c0_1, .slice A0_2 l0_2.length c0_2] 78 (0, 0)) (by (with_reducible repeat (first | refine blk_drewN ?_ _ | refine blk_drew ?_ | refine blk_alloc ?_ _)); exact BK367.out) hb); have n5_ := Aside0.mk (blk_below (g := gb368) (o := .cells #[.bool false, .slice none 0 0, .int .i64 0] 40 (0, 0)) (by (with_reducible repeat (first | refine blk_drewN ?_ _ | refine blk_drew ?_ | refine blk_alloc ?_ _)); exact BK368.out) hb); have n6_ := Aside0.mk (below_step (by repeat (first | (with_reducible first | exact HB.out | apply below_alloc | apply pw_below_drewN | apply below_drew1 | refine below_set ?_ GE367.out | refine below_set ?_ GE368.out) | exact HB.out)) hb); clear HO_9; clear HO_368001; clear HO_368002; clear BK367; clear BK368; clear HB; have HO_9 := n0_; have HO_368001 := n1_; have HO_368002 := n2_; have HO407 := n3_; have BK367 := n4_; have BK368 := n5_; have HB := n6_; clear n0_ n1_ n2_ n3_ n4_ n5_ n6_; (try clear hb); (try clear hb2); (try clear hk); (try clear hi); (try clear ho0); obtain ⟨Ao62, co62, eo62⟩ := Kd.V_slice HO407.out; subst eo62; have hcz63_0 : w61.cell? ⟨gb368, 0, none⟩ = some (.bool false) := (blk_cell BK368.out 0).trans rfl; have hcz63_1 : w61.cell? ⟨gb368, 1, none⟩ = some (.slice none 0 0) := (blk_cell BK368.out 1).trans rfl; have hcz63_2 : w61.cell? ⟨gb368, 2, none⟩ = some (.int .i64 0) := (blk_cell BK368.out 2).trans rfl; have hfz63_0 := blk_frozen BK368.out 0; have hfz63_1 := blk_frozen BK368.out 1; have hfz63_2 := blk_frozen BK368.out 2))
            refine bodyPost_ret (results_cell_row rfl _ _ gb368 40 #[.bool t404, .slice Ao62 t405.length co62, .int .i64 (wrap64 (-a1))] (0, 0) _ rfl (by (with_reducible repeat (first | refine blk_drewN ?_ _ | refine blk_drew ?_ | refine blk_alloc ?_ _)); refine blk_put (cs := #[.bool t404, .slice Ao62 t405.length co62, .int .i64 0]) ?_ 2 _ rfl; (with_reducible repeat (first | refine blk_drewN ?_ _ | refine blk_drew ?_ | refine blk_alloc ?_ _)); refine blk_put (cs := #[.bool t404, .slice none 0 0, .int .i64 0]) ?_ 1 _ rfl; (with_reducible repeat (first | refine blk_drewN ?_ _ | refine blk_drew ?_ | refine blk_alloc ?_ _)); refine blk_put (cs := #[.bool false, .slice none 0 0, .int .i64 0]) ?_ 0 _ rfl; (with_reducible repeat (first | refine blk_drewN ?_ _ | refine blk_drew ?_ | refine blk_alloc ?_ _)); exact BK368.out) Tryd.underlying40 rfl (by kernel_rfl)) rfl ?_
            exact ⟨_, by first | rfl | (simp [errW_none, errW_some] <;> rfl) | (simp [*, errW_none, errW_some] <;> rfl), by (with_reducible repeat (first | apply Kd.V_alloc | apply Kd.V_drewN | apply Kd.V_drew)); exact Kd.V_mono (Kd.V_far (p := ⟨gb368, 2, none⟩) (Kd.V_far (p := ⟨gb368, 1, none⟩) (Kd.V_far (p := ⟨gb368, 0, none⟩) (Kd.V_mono HO407.out (fun k_ hk => (⟨hk, hk.2.2⟩ : _ ∧ k_ ≠ gb368))) (fun _ hk => hk.2) (.bool t404)) (fun _ hk => hk.2) (.slice Ao62 t405.length co62)) (fun _ hk => hk.2) (.int .i64 (wrap64 (-a1)))) (fun _ hk => hk.1.1), by repeat (first | (with_reducible first | exact HB.out | apply below_alloc | apply pw_below_drewN | apply below_drew1 | refine below_set ?_ GE367.out | refine below_set ?_ GE368.out) | exact HB.out)⟩


end Go.Proofs.YtcgdphciepdkiaaDoor.S
