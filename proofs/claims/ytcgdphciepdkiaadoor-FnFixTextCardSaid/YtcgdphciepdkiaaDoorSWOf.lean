/- CONTRACTS of spec_wholeOf, spec_FixDec: each as the plain function beside it. (Began as print.sh's text for this seat; the turns are those of wip/tools/split.py.) -/
import Derived.Test.YtcgdphciepdkiaaDoorSFrom
namespace Go.Proofs.YtcgdphciepdkiaaDoor.S
open Go.RowKit Go.Proofs.YtcgdphciepdkiaaDoorW.PrintWords Go.Proofs.YtcgdphciepdkiaaDoorW.PrintLast Go.Proofs.YtcgdphciepdkiaaDoorW.PrintMore
attribute [local go_sem] max2_int min2_int max_two min_two max_three min_three max_four min_four   -- for this text's walks alone
set_option linter.unusedVariables false
set_option linter.unusedSimpArgs false

/-! ### spec_wholeOf: function 34 -/
def spec_wholeOf.f (a0 : Bool) (l1 : List Int) : Option (Bool × List Int) := if a0 = true then (some (decide (0 < l1.length), l1)) else (some (false, l1))
set_option maxHeartbeats 8000000 in
set_option maxRecDepth 100000 in
theorem spec_wholeOf.calls (a0 : Bool) (P1_ : Nat → Prop) (A1 : Option Addr) (c1 : Nat) (l1 : List Int) (r1 : Bool) (r2 : List Int) (w : World) (hs1 : Kd.V (Kd.int .u32) 59 w w.heap.size (fun k_ => P1_ k_) (.slice A1 l1.length c1) l1) (h : spec_wholeOf.f a0 l1 = some (r1, r2)) :
    Calls Tryd.prog 34 #[.bool a0, .slice A1 l1.length c1] w fun e w' => ∃ v1_ : Value, e = .returned (.agg #[.bool r1, v1_]) ∧ Kd.V (Kd.int .u32) 59 w' w.heap.size (fun k_ => (P1_ k_ ∨ w.heap.size ≤ k_)) v1_ r2 ∧ Below w.heap.size w w' := by
  have hu38 := Tryd.underlying38
  have HO1 := Aside0.mk (show Kd.V (Kd.int .u32) 59 w w.heap.size (fun k_ => (P1_ k_ ∨ w.heap.size ≤ k_)) (.slice A1 l1.length c1) l1 from Kd.V_mono hs1 (fun k_ hk => .inl hk))
  have HB := Aside0.mk (Below.refl w.heap.size w)
  have H : (if a0 = true then (some (decide (0 < l1.length), l1)) else (some (false, l1))) = some (r1, r2) := h
  clear h
  by_cases c3 : a0 = true
  · subst c3
    have H1 : (some (decide (0 < l1.length), l1)) = some (r1, r2) := by rw [if_pos rfl] at H; exact H
    clear H
    have H := H1
    clear H1
    simp only [Option.some.injEq, Prod.mk.injEq] at H
    obtain ⟨rfl, rfl⟩ := H
    go_enter Tryd.func34, Tryd.ntmps34
    go_wp2_with (first | ((with_reducible refine gate_dst (N := 4) rfl ?_); (try (refine gate_guard (by rfl) ?_; dsimp only)); refine box_event ?hg (N := 4) ?hd (cs := #[.bool false, .slice none 0 0]) (t := 38) ?hr ?_; (case hd => rfl); (case hg => rfl); (case hr => first | (go_simp; done) | (go_simp; rfl)); intro gb138 hg w4 hbox hb; have n0_ := Aside0.mk (Kd.V_below (Kd.V_elderB (by (with_reducible repeat (first | apply Kd.V_alloc | apply Kd.V_drewN | apply Kd.V_drew)); exact HO1.out) gb138 (Nat.le_of_eq hg.symm)) hb); have n1_ := Aside0.mk (below_step (by repeat (first | (with_reducible first | exact HB.out | apply below_alloc | apply pw_below_drewN | apply below_drew1) | exact HB.out)) hb); have n2_ := Aside0.mk (hbox); have n3_ := Aside0.mk ((by rw [hg]; exact (below_size (by repeat (first | (with_reducible first | exact HB.out | apply below_alloc | apply pw_below_drewN | apply below_drew1) | exact HB.out))) : w.heap.size ≤ gb138)); have n4_ := Aside0.mk ((by rw [hg]; exact (below_size (by repeat (first | (with_reducible first | exact HB.out | apply below_alloc | apply pw_below_drewN | apply below_drew1) | exact HB.out))) : w.heap.size ≤ gb138)); clear HO1; clear HB; have HO1 := n0_; have HB := n1_; have BK138 := n2_; have GW138 := n3_; have GE138 := n4_; clear n0_ n1_ n2_ n3_ n4_; clear hb hbox hg; have hcz5_0 : w4.cell? ⟨gb138, 0, none⟩ = some (.bool false) := (blk_cell BK138.out 0).trans rfl; have hcz5_1 : w4.cell? ⟨gb138, 1, none⟩ = some (.slice none 0 0) := (blk_cell BK138.out 1).trans rfl; have hfz5_0 := blk_frozen BK138.out 0; have hfz5_1 := blk_frozen BK138.out 1))
    refine bodyPost_ret (results_cell_row rfl _ _ gb138 38 #[.bool (decide (0 < l1.length)), .slice A1 l1.length c1] (0, 0) _ rfl (by (with_reducible repeat (first | refine blk_drewN ?_ _ | refine blk_drew ?_ | refine blk_alloc ?_ _)); refine blk_put (cs := #[.bool (decide (0 < l1.length)), .slice none 0 0]) ?_ 1 _ rfl; (with_reducible repeat (first | refine blk_drewN ?_ _ | refine blk_drew ?_ | refine blk_alloc ?_ _)); refine blk_put (cs := #[.bool false, .slice none 0 0]) ?_ 0 _ rfl; (with_reducible repeat (first | refine blk_drewN ?_ _ | refine blk_drew ?_ | refine blk_alloc ?_ _)); exact BK138.out) Tryd.underlying38 rfl (by kernel_rfl)) rfl ?_
    exact ⟨_, by first | rfl | (simp [errW_none, errW_some] <;> rfl) | (simp [*, errW_none, errW_some] <;> rfl), by (with_reducible repeat (first | apply Kd.V_alloc | apply Kd.V_drewN | apply Kd.V_drew)); exact Kd.V_mono (Kd.V_far (p := ⟨gb138, 1, none⟩) (Kd.V_far (p := ⟨gb138, 0, none⟩) (Kd.V_mono HO1.out (fun k_ hk => (⟨hk, hk.2⟩ : _ ∧ k_ ≠ gb138))) (fun _ hk => hk.2) (.bool (decide (0 < l1.length)))) (fun _ hk => hk.2) (.slice A1 l1.length c1)) (fun _ hk => hk.1.1), by repeat (first | (with_reducible first | exact HB.out | apply below_alloc | apply pw_below_drewN | apply below_drew1 | refine below_set ?_ GE138.out) | exact HB.out)⟩
  · replace c3 := Bool.eq_false_iff.mpr c3
    subst c3
    have H1 : (some (false, l1)) = some (r1, r2) := by rw [if_neg (show ¬ (false = true) by decide)] at H; exact H
    clear H
    have H := H1
    clear H1
    simp only [Option.some.injEq, Prod.mk.injEq] at H
    obtain ⟨rfl, rfl⟩ := H
    go_enter Tryd.func34, Tryd.ntmps34
    go_wp2_with (first | ((with_reducible refine gate_dst (N := 4) rfl ?_); (try (refine gate_guard (by rfl) ?_; dsimp only)); refine box_event ?hg (N := 4) ?hd (cs := #[.bool false, .slice none 0 0]) (t := 38) ?hr ?_; (case hd => rfl); (case hg => rfl); (case hr => first | (go_simp; done) | (go_simp; rfl)); intro gb138 hg w6 hbox hb; have n0_ := Aside0.mk (Kd.V_below (Kd.V_elderB (by (with_reducible repeat (first | apply Kd.V_alloc | apply Kd.V_drewN | apply Kd.V_drew)); exact HO1.out) gb138 (Nat.le_of_eq hg.symm)) hb); have n1_ := Aside0.mk (below_step (by repeat (first | (with_reducible first | exact HB.out | apply below_alloc | apply pw_below_drewN | apply below_drew1) | exact HB.out)) hb); have n2_ := Aside0.mk (hbox); have n3_ := Aside0.mk ((by rw [hg]; exact (below_size (by repeat (first | (with_reducible first | exact HB.out | apply below_alloc | apply pw_below_drewN | apply below_drew1) | exact HB.out))) : w.heap.size ≤ gb138)); have n4_ := Aside0.mk ((by rw [hg]; exact (below_size (by repeat (first | (with_reducible first | exact HB.out | apply below_alloc | apply pw_below_drewN | apply below_drew1) | exact HB.out))) : w.heap.size ≤ gb138)); clear HO1; clear HB; have HO1 := n0_; have HB := n1_; have BK138 := n2_; have GW138 := n3_; have GE138 := n4_; clear n0_ n1_ n2_ n3_ n4_; clear hb hbox hg; have hcz7_0 : w6.cell? ⟨gb138, 0, none⟩ = some (.bool false) := (blk_cell BK138.out 0).trans rfl; have hcz7_1 : w6.cell? ⟨gb138, 1, none⟩ = some (.slice none 0 0) := (blk_cell BK138.out 1).trans rfl; have hfz7_0 := blk_frozen BK138.out 0; have hfz7_1 := blk_frozen BK138.out 1))
    refine bodyPost_ret (results_cell_row rfl _ _ gb138 38 #[.bool false, .slice A1 l1.length c1] (0, 0) _ rfl (by (with_reducible repeat (first | refine blk_drewN ?_ _ | refine blk_drew ?_ | refine blk_alloc ?_ _)); refine blk_put (cs := #[.bool false, .slice none 0 0]) ?_ 1 _ rfl; (with_reducible repeat (first | refine blk_drewN ?_ _ | refine blk_drew ?_ | refine blk_alloc ?_ _)); refine blk_put (cs := #[.bool false, .slice none 0 0]) ?_ 0 _ rfl; (with_reducible repeat (first | refine blk_drewN ?_ _ | refine blk_drew ?_ | refine blk_alloc ?_ _)); exact BK138.out) Tryd.underlying38 rfl (by kernel_rfl)) rfl ?_
    exact ⟨_, by first | rfl | (simp [errW_none, errW_some] <;> rfl) | (simp [*, errW_none, errW_some] <;> rfl), by (with_reducible repeat (first | apply Kd.V_alloc | apply Kd.V_drewN | apply Kd.V_drew)); exact Kd.V_mono (Kd.V_far (p := ⟨gb138, 1, none⟩) (Kd.V_far (p := ⟨gb138, 0, none⟩) (Kd.V_mono HO1.out (fun k_ hk => (⟨hk, hk.2⟩ : _ ∧ k_ ≠ gb138))) (fun _ hk => hk.2) (.bool false)) (fun _ hk => hk.2) (.slice A1 l1.length c1)) (fun _ hk => hk.1.1), by repeat (first | (with_reducible first | exact HB.out | apply below_alloc | apply pw_below_drewN | apply below_drew1 | refine below_set ?_ GE138.out) | exact HB.out)⟩


/-! ### spec_FixDec: function 39 -/
def spec_FixDec.f (k : Nat) (a0_0 : Bool) (a0_1 : Int) (a0_2 : Int) : Option (Bool × List Int × Int) := (spec_NatFrom.f k a0_1).bind fun t141 => ((spec_wholeOf.f a0_0 t141).bind fun bt144 => (some (bt144.1, bt144.2, wrap64 (-a0_2))))
theorem spec_FixDec.mono : ∀ a0 a1 a2 k, LeO (spec_FixDec.f k a0 a1 a2) (spec_FixDec.f (k + 1) a0 a1 a2) := by
  intro a0 a1 a2 k
  unfold spec_FixDec.f
  repeat' first
      | (with_reducible exact spec_NatFrom.mono _ _)
      | (with_reducible exact LeO.refl _)
      | (with_reducible exact LeO.none _)
      | (with_reducible refine LeO.ite ?_ ?_)
      | (with_reducible refine LeO.bind ?_ (fun _ => ?_))
      | exact spec_NatFrom.mono _ _
      | exact LeO.none _
      | refine LeO.ite ?_ ?_
      | refine LeO.bind ?_ (fun _ => ?_)
def spec_FixDec.T1 : Bool × List (List Nat × List Nat) := (true, [([], []), ([0], [0]), ([], []), ([2], [2]), ([3], [3]), ([1, 4, 4], [1, 4]), ([], []), ([6], [6]), ([7], [7]), ([5, 8], [5, 8]), ([9, 5, 0, 1, 2, 3, 4, 5, 6, 7, 8, 9], [9])])
def spec_FixDec.B1 : List Nat := [0, 1, 0, 4, 12, 31, 0, 64, 192, 511, 1023]
theorem spec_FixDec.tab1 : rtab .any (opsOf Tryd.f39 1) = spec_FixDec.T1 := by kernel_rfl
theorem spec_FixDec.bits1 : waitsOk spec_FixDec.T1.2 spec_FixDec.B1 = true := by kernel_rfl
set_option maxHeartbeats 8000000 in
set_option maxRecDepth 100000 in
theorem spec_FixDec.calls (k : Nat) (a0_0 : Bool) (a0_1 : Int) (a0_2 : Int) (r1 : Bool) (r2 : List Int) (r3 : Int) (w : World) (h : spec_FixDec.f k a0_0 a0_1 a0_2 = some (r1, r2, r3)) :
    Calls Tryd.prog 39 #[.agg #[.bool a0_0, .int .u64 a0_1, .int .i64 a0_2]] w fun e w' => ∃ v1_ : Value, e = .returned (.agg #[.bool r1, v1_, .int .i64 r3]) ∧ Kd.V (Kd.int .u32) 59 w' w.heap.size (fun k_ => (w.heap.size ≤ k_)) v1_ r2 ∧ Below w.heap.size w w' := by
  have hu34 := Tryd.underlying34
  have hu40 := Tryd.underlying40
  have HB := Aside0.mk (Below.refl w.heap.size w)
  have H : ((spec_NatFrom.f k a0_1).bind fun t141 => ((spec_wholeOf.f a0_0 t141).bind fun bt144 => (some (bt144.1, bt144.2, wrap64 (-a0_2))))) = some (r1, r2, r3) := h
  clear h
  replace H := Option.bind_eq_some_iff.mp H
  obtain ⟨t141, A20, H⟩ := H
  replace H : ((spec_wholeOf.f a0_0 t141).bind fun bt144 => (some (bt144.1, bt144.2, wrap64 (-a0_2)))) = some (r1, r2, r3) := H
  have A2 := Aside0.mk A20
  clear A20
  replace H := Option.bind_eq_some_iff.mp H
  obtain ⟨⟨t144, t145⟩, A30, H⟩ := H
  replace H : (some (t144, t145, wrap64 (-a0_2))) = some (r1, r2, r3) := H
  have A3 := Aside0.mk A30
  clear A30
  simp only [Option.some.injEq, Prod.mk.injEq] at H
  obtain ⟨rfl, rfl, rfl⟩ := H
  go_enter Tryd.func39, Tryd.ntmps39
  try go_wp2_with (first | ((with_reducible refine gate_dst (N := 1) rfl ?_); refine box_event ?hg (N := 1) ?hd (cs := #[.bool a0_0, .int .u64 a0_1, .int .i64 a0_2]) (t := 34) ?hr ?_; (case hd => rfl); (case hg => rfl); (case hr => first | (go_simp; done) | (go_simp; rfl)); intro gb139 hg w4 hbox hb; have n0_ := Aside0.mk (below_step (by repeat (first | (with_reducible first | exact HB.out | apply below_alloc | apply pw_below_drewN | apply below_drew1) | exact HB.out)) hb); have n1_ := Aside0.mk (hbox); have n2_ := Aside0.mk ((by rw [hg]; exact (below_size (by repeat (first | (with_reducible first | exact HB.out | apply below_alloc | apply pw_below_drewN | apply below_drew1) | exact HB.out))) : w.heap.size ≤ gb139)); have n3_ := Aside0.mk ((by rw [hg]; exact (below_size (by repeat (first | (with_reducible first | exact HB.out | apply below_alloc | apply pw_below_drewN | apply below_drew1) | exact HB.out))) : w.heap.size ≤ gb139)); clear HB; have HB := n0_; have BK139 := n1_; have GW139 := n2_; have GE139 := n3_; clear n0_ n1_ n2_ n3_; clear hb hbox hg) | ((with_reducible refine gate_dst (N := 2) rfl ?_); refine box_event ?hg (N := 2) ?hd (cs := #[.bool false, .slice none 0 0, .int .i64 0]) (t := 40) ?hr ?_; (case hd => rfl); (case hg => rfl); (case hr => first | (go_simp; done) | (go_simp; rfl)); intro gb140 hg w5 hbox hb; have n0_ := Aside0.mk (blk_below (g := gb139) (o := .cells #[.bool a0_0, .int .u64 a0_1, .int .i64 a0_2] 34 (0, 0)) (by (with_reducible repeat (first | refine blk_drewN ?_ _ | refine blk_drew ?_ | refine blk_alloc ?_ _)); exact BK139.out) hb); have n1_ := Aside0.mk (below_step (by repeat (first | (with_reducible first | exact HB.out | apply below_alloc | apply pw_below_drewN | apply below_drew1 | refine below_set ?_ GE139.out) | exact HB.out)) hb); have n2_ := Aside0.mk (hbox); have n3_ := Aside0.mk ((by rw [hg]; exact (below_size (by repeat (first | (with_reducible first | exact HB.out | apply below_alloc | apply pw_below_drewN | apply below_drew1 | refine below_set ?_ GE139.out) | exact HB.out))) : w.heap.size ≤ gb140)); have n4_ := Aside0.mk ((by rw [hg]; exact (below_size (by repeat (first | (with_reducible first | exact HB.out | apply below_alloc | apply pw_below_drewN | apply below_drew1 | refine below_set ?_ GE139.out) | exact HB.out))) : w.heap.size ≤ gb140)); have n5_ := Aside0.mk ((by rw [hg]; exact Nat.ne_of_lt (blk_lt (g := gb139) (o := .cells #[.bool a0_0, .int .u64 a0_1, .int .i64 a0_2] 34 (0, 0)) (by (with_reducible repeat (first | refine blk_drewN ?_ _ | refine blk_drew ?_ | refine blk_alloc ?_ _)); exact BK139.out)) : gb139 ≠ gb140)); have n6_ := Aside0.mk ((by rw [hg]; exact Nat.ne_of_gt (blk_lt (g := gb139) (o := .cells #[.bool a0_0, .int .u64 a0_1, .int .i64 a0_2] 34 (0, 0)) (by (with_reducible repeat (first | refine blk_drewN ?_ _ | refine blk_drew ?_ | refine blk_alloc ?_ _)); exact BK139.out)) : gb140 ≠ gb139)); clear BK139; clear HB; have BK139 := n0_; have HB := n1_; have BK140 := n2_; have GW140 := n3_; have GE140 := n4_; have NB139_140 := n5_; have NB140_139 := n6_; clear n0_ n1_ n2_ n3_ n4_ n5_ n6_; clear hb hbox hg))
  have n0_ := Aside0.mk (blk_drew BK139.out)
  have n1_ := Aside0.mk (blk_drew BK140.out)
  have n2_ := Aside0.mk (below_drew1 HB.out)
  clear BK139
  clear BK140
  clear HB
  have BK139 := n0_
  have BK140 := n1_
  have HB := n2_
  clear n0_ n1_ n2_
  refine start_ (n := 11) (S := fun w' => w'.cell? ⟨gb139, 0, none⟩ = some (.bool a0_0) ∧ w'.cell? ⟨gb139, 1, none⟩ = some (.int .u64 a0_1) ∧ w'.cell? ⟨gb139, 2, none⟩ = some (.int .i64 a0_2)) (ds := []) #[false, false, false, false, false, false, false, false, false, false, false] (by kernel_rfl) rfl rfl ⟨(blk_cell BK139.out 0).trans rfl, (blk_cell BK139.out 1).trans rfl, (blk_cell BK139.out 2).trans rfl⟩ (fun hHeld => ?_); refine with_tabW spec_FixDec.tab1 spec_FixDec.bits1 (fun HT_ HW_ => ?_)
  generalize w5.drew = w6 at BK139 BK140 HB hHeld ⊢
  refine pure_ (i := 0) (N := some 3) (v := ?_) (a' := ?_) #[true, false, false, false, false, false, false, false, false, false, false] rfl rfl (any_of HT_.out (by kernel_rfl)) (fun _ _ _ h => h) (Or.inl ⟨by rfl, ?_⟩) ?_ ?_
  rotate_left
  · intro w'
    go_simp
    with_reducible rfl
  rotate_left
  · simp only [Act.put, List.setIfInBounds_toArray, List.set_cons_zero, List.set_cons_succ, i64_w, i32_w]
    rfl
  refine pure_ (i := 2) (N := some 5) (v := ?_) (a' := ?_) #[true, false, true, false, false, false, false, false, false, false, false] rfl rfl (any_of HT_.out (by kernel_rfl)) (fun _ _ _ h => h) (Or.inl ⟨by rfl, ?_⟩) ?_ ?_
  rotate_left
  · intro w'
    go_simp
    with_reducible rfl
  rotate_left
  · simp only [Act.put, List.setIfInBounds_toArray, List.set_cons_zero, List.set_cons_succ, i64_w, i32_w]
    rfl
  refine pure_ (i := 6) (N := some 9) (v := ?_) (a' := ?_) #[true, false, true, false, false, false, true, false, false, false, false] rfl rfl (any_of HT_.out (by kernel_rfl)) (fun _ _ _ h => h) (Or.inl ⟨by rfl, ?_⟩) ?_ ?_
  rotate_left
  · intro w'
    go_simp
    with_reducible rfl
  rotate_left
  · simp only [Act.put, List.setIfInBounds_toArray, List.set_cons_zero, List.set_cons_succ, i64_w, i32_w]
    rfl
  refine take_ (i := 1) (N := some 4) (v := ?_) (a' := ?_) #[true, true, true, false, false, false, true, false, false, false, false] rfl rfl (take_ofW HT_.out HW_.out (by kernel_rfl)) (fun _ _ _ h => h) (Or.inl ⟨by rfl, ?_⟩) hHeld ?_ ?_
  rotate_left
  · rintro w' ⟨s0, s1, s2⟩
    go_simp
    with_reducible rfl
  rotate_left
  · simp only [Act.put, List.setIfInBounds_toArray, List.set_cons_zero, List.set_cons_succ, i64_w, i32_w]
    rfl
  refine take_ (i := 3) (N := some 6) (v := ?_) (a' := ?_) #[true, true, true, true, false, false, true, false, false, false, false] rfl rfl (take_ofW HT_.out HW_.out (by kernel_rfl)) (fun _ _ _ h => h) (Or.inl ⟨by rfl, ?_⟩) hHeld ?_ ?_
  rotate_left
  · rintro w' ⟨s0, s1, s2⟩
    go_simp
    with_reducible rfl
  rotate_left
  · simp only [Act.put, List.setIfInBounds_toArray, List.set_cons_zero, List.set_cons_succ, i64_w, i32_w]
    rfl
  refine take_ (i := 7) (N := some 10) (v := ?_) (a' := ?_) #[true, true, true, true, false, false, true, true, false, false, false] rfl rfl (take_ofW HT_.out HW_.out (by kernel_rfl)) (fun _ _ _ h => h) (Or.inl ⟨by rfl, ?_⟩) hHeld ?_ ?_
  rotate_left
  · rintro w' ⟨s0, s1, s2⟩
    go_simp
    with_reducible rfl
  rotate_left
  · simp only [Act.put, List.setIfInBounds_toArray, List.set_cons_zero, List.set_cons_succ, i64_w, i32_w]
    rfl
  refine pure_ (i := 8) (N := some 11) (v := ?_) (a' := ?_) #[true, true, true, true, false, false, true, true, true, false, false] rfl rfl (any_of HT_.out (by kernel_rfl)) (fun _ _ _ h => h) (Or.inl ⟨by rfl, ?_⟩) ?_ ?_
  rotate_left
  · intro w'
    go_simp
    with_reducible rfl
  rotate_left
  · simp only [Act.put, List.setIfInBounds_toArray, List.set_cons_zero, List.set_cons_succ, i64_w, i32_w]
    rfl
  refine one_ (i := 4) (N := some 7) #[true, true, true, true, true, false, true, true, true, false, false] rfl rfl (one_of HT_.out (by kernel_rfl)) (by decide) (fun K hK => ?_)
  refine goes_ Tryd.func13 (by kernel_rfl) rfl #[.int .u64 a0_1] (by rfl) rfl rfl (by (try simp only [List.map_toArray, List.map_cons, List.map_nil]); first | done | rfl | (simp only [List.length_drop, List.length_take]; rfl)) ?_
  with_reducible refine (spec_NatFrom.calls k a0_1 t141 _ A2.out).mono ?_
  rintro e w7 ⟨v142, rfl, ho0, hb⟩
  refine ⟨_, rfl, ?_⟩
  have n0_ := Aside0.mk (Kd.R_lower (Kd.R_newM (M := fun k_ => (w.heap.size ≤ k_)) ho0 (below_size (by repeat (first | (with_reducible first | exact HB.out | apply below_alloc | apply pw_below_drewN | apply below_drew1 | refine below_set ?_ GE139.out | refine below_set ?_ GE140.out) | exact HB.out))) (fun k_ h_ => h_)) (below_size (by repeat (first | (with_reducible first | exact HB.out | apply below_alloc | apply pw_below_drewN | apply below_drew1 | refine below_set ?_ GE139.out | refine below_set ?_ GE140.out) | exact HB.out))))
  have n1_ := Aside0.mk (blk_below (g := gb139) (o := .cells #[.bool a0_0, .int .u64 a0_1, .int .i64 a0_2] 34 (0, 0)) (by (with_reducible repeat (first | refine blk_drewN ?_ _ | refine blk_drew ?_ | refine blk_alloc ?_ _)); exact BK139.out) hb)
  have n2_ := Aside0.mk (blk_below (g := gb140) (o := .cells #[.bool false, .slice none 0 0, .int .i64 0] 40 (0, 0)) (by (with_reducible repeat (first | refine blk_drewN ?_ _ | refine blk_drew ?_ | refine blk_alloc ?_ _)); exact BK140.out) hb)
  have n3_ := Aside0.mk (below_step (by repeat (first | (with_reducible first | exact HB.out | apply below_alloc | apply pw_below_drewN | apply below_drew1 | refine below_set ?_ GE139.out | refine below_set ?_ GE140.out) | exact HB.out)) hb)
  clear BK139
  clear BK140
  clear HB
  have HO143 := n0_
  have BK139 := n1_
  have BK140 := n2_
  have HB := n3_
  clear n0_ n1_ n2_ n3_
  (try clear hb)
  (try clear hb2)
  (try clear hk)
  (try clear hi)
  (try clear ho0)
  obtain ⟨Ao8, co8, eo8⟩ := Kd.R_slice HO143.out
  (first | subst eo8 | (injection eo8 with f1_ f2_ f3_; have f4_ := f1_.symm; have f5_ := f3_.symm; clear f1_ f2_ f3_; subst f4_; subst f5_))
  refine hK.out _ _ ⟨(blk_cell BK139.out 0).trans rfl, (blk_cell BK139.out 1).trans rfl, (blk_cell BK139.out 2).trans rfl⟩ (fun hHeld => ?_)
  clear hK K
  refine norm_ (a' := ?_) ?_ ?_
  rotate_left
  · show Act.put _ (some 7) _ = _
    simp only [Act.put, List.setIfInBounds_toArray, List.set_cons_zero, List.set_cons_succ, i64_w, i32_w]
    rfl
  refine one_ (i := 5) (N := some 8) #[true, true, true, true, true, true, true, true, true, false, false] rfl rfl (one_of HT_.out (by kernel_rfl)) (by decide) (fun K hK => ?_)
  refine goes_ Tryd.func34 (by kernel_rfl) rfl #[.bool a0_0, .slice Ao8 t141.length co8] (by rfl) rfl rfl (by (try simp only [List.map_toArray, List.map_cons, List.map_nil]); first | done | rfl | (simp only [List.length_drop, List.length_take]; rfl)) ?_
  with_reducible refine (spec_wholeOf.calls a0_0 (fun k_ => some k_ = (.slice Ao8 t141.length co8 : Value).ownBlock) _ _ t141 t144 t145 _ ?side1 A3.out).mono ?_
  (case side1 => exact Kd.R_V (Kd.R_tight rfl (Kd.R_types (Kd.R_types (HO143.out) BK139.out (by decide)) BK140.out (by decide))))
  rintro e w9 ⟨v146, rfl, ho0, hb⟩
  refine ⟨_, rfl, ?_⟩
  have n0_ := Aside0.mk (Kd.R_below (by (with_reducible repeat (first | apply Kd.R_alloc | apply Kd.R_drewN | apply Kd.R_drew)); exact HO143.out) hb)
  have n1_ := Aside0.mk (Kd.V_lower (Kd.V_mono (ok' := fun k_ => (w.heap.size ≤ k_) ∧ k_ ≠ gb139 ∧ k_ ≠ gb140) ho0 (fun k_ hk_ => ⟨Or.elim hk_ (fun hs_ => ((Kd.R_types (Kd.R_types (HO143.out) BK139.out (by decide)) BK140.out (by decide)).1 k_ hs_.symm).1.1.1) (fun hn_ => (Nat.le_trans (below_size (by repeat (first | (with_reducible first | exact HB.out | apply below_alloc | apply pw_below_drewN | apply below_drew1 | refine below_set ?_ GE139.out | refine below_set ?_ GE140.out) | exact HB.out))) hn_)), Or.elim hk_ (fun hs_ => ((Kd.R_types (Kd.R_types (HO143.out) BK139.out (by decide)) BK140.out (by decide)).1 k_ hs_.symm).1.2) (fun hn_ => (Kd.freshB (g := gb139) (o := .cells #[.bool a0_0, .int .u64 a0_1, .int .i64 a0_2] 34 (0, 0)) (by (with_reducible repeat (first | refine blk_drewN ?_ _ | refine blk_drew ?_ | refine blk_alloc ?_ _)); exact BK139.out) k_ hn_)), Or.elim hk_ (fun hs_ => ((Kd.R_types (Kd.R_types (HO143.out) BK139.out (by decide)) BK140.out (by decide)).1 k_ hs_.symm).2) (fun hn_ => (Kd.freshB (g := gb140) (o := .cells #[.bool false, .slice none 0 0, .int .i64 0] 40 (0, 0)) (by (with_reducible repeat (first | refine blk_drewN ?_ _ | refine blk_drew ?_ | refine blk_alloc ?_ _)); exact BK140.out) k_ hn_))⟩)) (below_size (by repeat (first | (with_reducible first | exact HB.out | apply below_alloc | apply pw_below_drewN | apply below_drew1 | refine below_set ?_ GE139.out | refine below_set ?_ GE140.out) | exact HB.out))))
  have n2_ := Aside0.mk (blk_below (g := gb139) (o := .cells #[.bool a0_0, .int .u64 a0_1, .int .i64 a0_2] 34 (0, 0)) (by (with_reducible repeat (first | refine blk_drewN ?_ _ | refine blk_drew ?_ | refine blk_alloc ?_ _)); exact BK139.out) hb)
  have n3_ := Aside0.mk (blk_below (g := gb140) (o := .cells #[.bool false, .slice none 0 0, .int .i64 0] 40 (0, 0)) (by (with_reducible repeat (first | refine blk_drewN ?_ _ | refine blk_drew ?_ | refine blk_alloc ?_ _)); exact BK140.out) hb)
  have n4_ := Aside0.mk (below_step (by repeat (first | (with_reducible first | exact HB.out | apply below_alloc | apply pw_below_drewN | apply below_drew1 | refine below_set ?_ GE139.out | refine below_set ?_ GE140.out) | exact HB.out)) hb)
  clear HO143
  clear BK139
  clear BK140
  clear HB
  have HO143 := n0_
  have HO147 := n1_
  have BK139 := n2_
  have BK140 := n3_
  have HB := n4_
  clear n0_ n1_ n2_ n3_ n4_
  (try clear hb)
  (try clear hb2)
  (try clear hk)
  (try clear hi)
  (try clear ho0)
  obtain ⟨Ao10, co10, eo10⟩ := Kd.V_slice HO147.out
  (first | subst eo10 | (injection eo10 with f1_ f2_ f3_; have f4_ := f1_.symm; have f5_ := f3_.symm; clear f1_ f2_ f3_; subst f4_; subst f5_))
  refine hK.out _ _ ⟨(blk_cell BK139.out 0).trans rfl, (blk_cell BK139.out 1).trans rfl, (blk_cell BK139.out 2).trans rfl⟩ (fun hHeld => ?_)
  clear hK K
  refine norm_ (a' := ?_) ?_ ?_
  rotate_left
  · show Act.put _ (some 8) _ = _
    simp only [Act.put, List.setIfInBounds_toArray, List.set_cons_zero, List.set_cons_succ, i64_w, i32_w]
    rfl
  refine pure_ (i := 9) (N := some 12) (v := ?_) (a' := ?_) #[true, true, true, true, true, true, true, true, true, true, false] rfl rfl (any_of HT_.out (by kernel_rfl)) (fun _ _ _ h => h) (Or.inl ⟨by rfl, ?_⟩) ?_ ?_
  rotate_left
  · intro w'
    go_simp
    with_reducible rfl
  rotate_left
  · simp only [Act.put, List.setIfInBounds_toArray, List.set_cons_zero, List.set_cons_succ, i64_w, i32_w]
    rfl
  refine one_ (i := 10) (N := none) #[true, true, true, true, true, true, true, true, true, true, true] rfl rfl (one_of HT_.out (by kernel_rfl)) (by decide) (fun K hK => ?_)
  have hs11 : w9.cell? ⟨gb140, 0, none⟩ = some (.bool false) := (blk_cell BK140.out 0).trans rfl
  have hfs11 := blk_frozen BK140.out 0
  have hns11_0 := NB139_140.out
  have hms11_0 := NB140_139.out
  have hs12 : w9.cell? ⟨gb140, 1, none⟩ = some (.slice none 0 0) := (blk_cell BK140.out 1).trans rfl
  have hfs12 := blk_frozen BK140.out 1
  have hns12_0 := NB139_140.out
  have hms12_0 := NB140_139.out
  have hs13 : w9.cell? ⟨gb140, 2, none⟩ = some (.int .i64 0) := (blk_cell BK140.out 2).trans rfl
  have hfs13 := blk_frozen BK140.out 2
  have hns13_0 := NB139_140.out
  have hms13_0 := NB140_139.out
  refine skip_ (w1 := ?_) (by rfl) rfl ?_ ?_
  rotate_left
  · go_simp
    rfl
  refine hK.out _ _ ⟨((cell_far (p := ⟨gb140, _, none⟩) NB139_140.out _).trans (((cell_far (p := ⟨gb140, _, none⟩) NB139_140.out _).trans (((cell_far (p := ⟨gb140, _, none⟩) NB139_140.out _).trans (hHeld.1)))))), ((cell_far (p := ⟨gb140, _, none⟩) NB139_140.out _).trans (((cell_far (p := ⟨gb140, _, none⟩) NB139_140.out _).trans (((cell_far (p := ⟨gb140, _, none⟩) NB139_140.out _).trans (hHeld.2.1)))))), ((cell_far (p := ⟨gb140, _, none⟩) NB139_140.out _).trans (((cell_far (p := ⟨gb140, _, none⟩) NB139_140.out _).trans (((cell_far (p := ⟨gb140, _, none⟩) NB139_140.out _).trans (hHeld.2.2))))))⟩ (fun hHeld => ?_)
  clear hK K
  refine done_ (done_of HT_.out (by kernel_rfl)) ?_
  try go_wp2
  refine bodyPost_ret (results_cell_row rfl _ _ gb140 40 #[.bool t144, .slice Ao10 t145.length co10, .int .i64 (wrap64 (-a0_2))] (0, 0) _ rfl (by (with_reducible repeat (first | refine blk_drewN ?_ _ | refine blk_drew ?_ | refine blk_alloc ?_ _)); refine blk_put (cs := #[.bool t144, .slice Ao10 t145.length co10, .int .i64 0]) ?_ 2 _ rfl; (with_reducible repeat (first | refine blk_drewN ?_ _ | refine blk_drew ?_ | refine blk_alloc ?_ _)); refine blk_put (cs := #[.bool t144, .slice none 0 0, .int .i64 0]) ?_ 1 _ rfl; (with_reducible repeat (first | refine blk_drewN ?_ _ | refine blk_drew ?_ | refine blk_alloc ?_ _)); refine blk_put (cs := #[.bool false, .slice none 0 0, .int .i64 0]) ?_ 0 _ rfl; (with_reducible repeat (first | refine blk_drewN ?_ _ | refine blk_drew ?_ | refine blk_alloc ?_ _)); exact BK140.out) Tryd.underlying40 rfl (by kernel_rfl)) rfl ?_
  exact ⟨_, by first | rfl | (simp [errW_none, errW_some] <;> rfl) | (simp [*, errW_none, errW_some] <;> rfl), by (with_reducible repeat (first | apply Kd.V_alloc | apply Kd.V_drewN | apply Kd.V_drew)); exact Kd.V_mono (Kd.V_far (p := ⟨gb140, 2, none⟩) (Kd.V_far (p := ⟨gb140, 1, none⟩) (Kd.V_far (p := ⟨gb140, 0, none⟩) (Kd.V_mono HO147.out (fun k_ hk => (⟨hk, hk.2.2⟩ : _ ∧ k_ ≠ gb140))) (fun _ hk => hk.2) (.bool t144)) (fun _ hk => hk.2) (.slice Ao10 t145.length co10)) (fun _ hk => hk.2) (.int .i64 (wrap64 (-a0_2)))) (fun _ hk => hk.1.1), by repeat (first | (with_reducible first | exact HB.out | apply below_alloc | apply pw_below_drewN | apply below_drew1 | refine below_set ?_ GE139.out | refine below_set ?_ GE140.out) | exact HB.out)⟩


end Go.Proofs.YtcgdphciepdkiaaDoor.S
