/- CONTRACTS of spec_Frac_Mul: each as the plain function beside it. (Began as print.sh's text for this seat; the turns are those of wip/tools/split.py.) -/
import Derived.Test.YtghabdpbacgicaaGreatDoorSMul
import Derived.Test.YtghabdpbacgicaaGreatDoorSWMul
namespace Go.Proofs.YtghabdpbacgicaaGreatDoor.S
open Go.RowKit Go.Proofs.YtghabdpbacgicaaGreatDoorW.PrintWords Go.Proofs.YtghabdpbacgicaaGreatDoorW.PrintLast Go.Proofs.YtghabdpbacgicaaGreatDoorW.PrintMore
attribute [local go_sem] max2_int min2_int max_two min_two max_three min_three max_four min_four   -- for this text's walks alone
set_option linter.unusedVariables false
set_option linter.unusedSimpArgs false

/-! ### spec_Frac_Mul: function 8 -/
def spec_Frac_Mul.f (k : Nat) (a0_0 : Bool) (l0_1 : List Int) (l0_2 : List Int) (a1_0 : Bool) (l1_1 : List Int) (l1_2 : List Int) : Option (Bool × List Int × List Int) := (spec_Whole_Mul.f k a0_0 l0_1 a1_0 l1_1).bind fun bt338 => ((spec_NatMul.f k l0_2 l1_2).bind fun t342 => (some (bt338.1, bt338.2, t342)))
theorem spec_Frac_Mul.mono : ∀ a0 a1 a2 a3 a4 a5 k, LeO (spec_Frac_Mul.f k a0 a1 a2 a3 a4 a5) (spec_Frac_Mul.f (k + 1) a0 a1 a2 a3 a4 a5) := by
  intro a0 a1 a2 a3 a4 a5 k
  unfold spec_Frac_Mul.f
  repeat' first
      | (with_reducible exact spec_NatMul.mono _ _ _)
      | (with_reducible exact spec_Whole_Mul.mono _ _ _ _ _)
      | (with_reducible exact LeO.refl _)
      | (with_reducible exact LeO.none _)
      | (with_reducible refine LeO.ite ?_ ?_)
      | (with_reducible refine LeO.bind ?_ (fun _ => ?_))
      | exact spec_NatMul.mono _ _ _
      | exact spec_Whole_Mul.mono _ _ _ _ _
      | exact LeO.none _
      | refine LeO.ite ?_ ?_
      | refine LeO.bind ?_ (fun _ => ?_)
def spec_Frac_Mul.T1 : Bool × List (List Nat × List Nat) := (true, [([], []), ([0], [0]), ([], []), ([2], [2]), ([1, 3], [1, 3]), ([], []), ([5], [5]), ([], []), ([7], [7]), ([6, 8, 4], [6, 8]), ([4, 9], [4, 9]), ([10, 9, 0, 1, 2, 3, 4, 5, 6, 7, 8, 9, 10], [10])])
def spec_Frac_Mul.B1 : List Nat := [0, 1, 0, 4, 15, 0, 32, 0, 128, 511, 1023, 2047]
theorem spec_Frac_Mul.tab1 : rtab .any (opsOf Tryz.f8 1) = spec_Frac_Mul.T1 := by kernel_rfl
theorem spec_Frac_Mul.bits1 : waitsOk spec_Frac_Mul.T1.2 spec_Frac_Mul.B1 = true := by kernel_rfl
set_option maxHeartbeats 8000000 in
set_option maxRecDepth 100000 in
theorem spec_Frac_Mul.calls (k : Nat) (a0_0 : Bool) (A0_1 : Option Addr) (c0_1 : Nat) (l0_1 : List Int) (A0_2 : Option Addr) (c0_2 : Nat) (l0_2 : List Int) (a1_0 : Bool) (A1_1 : Option Addr) (c1_1 : Nat) (l1_1 : List Int) (A1_2 : Option Addr) (c1_2 : Nat) (l1_2 : List Int) (r1 : Bool) (r2 : List Int) (r3 : List Int) (w : World) (hr0_1 : Kd.C (Kd.int .u32) w A0_1 l0_1.length l0_1) (hc0_1 : l0_1.length ≤ c0_1) (hr0_2 : Kd.C (Kd.int .u32) w A0_2 l0_2.length l0_2) (hc0_2 : l0_2.length ≤ c0_2) (hr1_1 : Kd.C (Kd.int .u32) w A1_1 l1_1.length l1_1) (hc1_1 : l1_1.length ≤ c1_1) (hr1_2 : Kd.C (Kd.int .u32) w A1_2 l1_2.length l1_2) (hc1_2 : l1_2.length ≤ c1_2) (h : spec_Frac_Mul.f k a0_0 l0_1 l0_2 a1_0 l1_1 l1_2 = some (r1, r2, r3)) :
    Calls Tryz.prog 8 #[.agg #[.bool a0_0, .slice A0_1 l0_1.length c0_1, .slice A0_2 l0_2.length c0_2], .agg #[.bool a1_0, .slice A1_1 l1_1.length c1_1, .slice A1_2 l1_2.length c1_2]] w fun e w' => ∃ v1_ v2_ : Value, e = .returned (.agg #[.bool r1, v1_, v2_]) ∧ Kd.V (Kd.int .u32) 76 w' w.heap.size (fun k_ => (w.heap.size ≤ k_)) v1_ r2 ∧ Kd.V (Kd.int .u32) 76 w' w.heap.size (fun k_ => (w.heap.size ≤ k_)) v2_ r3 ∧ Below w.heap.size w w' := by
  have hu30 := Tryz.underlying30
  have hu28 := Tryz.underlying28
  have HR0_1 := Aside0.mk hr0_1
  have HC0_1 := Aside0.mk hc0_1
  clear hr0_1 hc0_1
  have HR0_2 := Aside0.mk hr0_2
  have HC0_2 := Aside0.mk hc0_2
  clear hr0_2 hc0_2
  have HR1_1 := Aside0.mk hr1_1
  have HC1_1 := Aside0.mk hc1_1
  clear hr1_1 hc1_1
  have HR1_2 := Aside0.mk hr1_2
  have HC1_2 := Aside0.mk hc1_2
  clear hr1_2 hc1_2
  have HB := Aside0.mk (Below.refl w.heap.size w)
  have H : ((spec_Whole_Mul.f k a0_0 l0_1 a1_0 l1_1).bind fun bt338 => ((spec_NatMul.f k l0_2 l1_2).bind fun t342 => (some (bt338.1, bt338.2, t342)))) = some (r1, r2, r3) := h
  clear h
  replace H := Option.bind_eq_some_iff.mp H
  obtain ⟨⟨t338, t339⟩, A30, H⟩ := H
  replace H : ((spec_NatMul.f k l0_2 l1_2).bind fun t342 => (some (t338, t339, t342))) = some (r1, r2, r3) := H
  have A3 := Aside0.mk A30
  clear A30
  replace H := Option.bind_eq_some_iff.mp H
  obtain ⟨t342, A40, H⟩ := H
  replace H : (some (t338, t339, t342)) = some (r1, r2, r3) := H
  have A4 := Aside0.mk A40
  clear A40
  simp only [Option.some.injEq, Prod.mk.injEq] at H
  obtain ⟨rfl, rfl, rfl⟩ := H
  go_enter Tryz.func8, Tryz.ntmps8
  try go_wp2_with (first | ((with_reducible refine gate_dst (N := 2) rfl ?_); refine box_event ?hg (N := 2) ?hd (cs := #[.bool a0_0, .slice A0_1 l0_1.length c0_1, .slice A0_2 l0_2.length c0_2]) (t := 30) ?hr ?_; (case hd => rfl); (case hg => rfl); (case hr => first | (go_simp; done) | (go_simp; rfl)); intro gb335 hg w5 hbox hb; have n0_ := Aside0.mk (below_step (by repeat (first | (with_reducible first | exact HB.out | apply below_alloc | apply pw_below_drewN | apply below_drew1) | exact HB.out)) hb); have n1_ := Aside0.mk (hbox); have n2_ := Aside0.mk ((by rw [hg]; exact (below_size (by repeat (first | (with_reducible first | exact HB.out | apply below_alloc | apply pw_below_drewN | apply below_drew1) | exact HB.out))) : w.heap.size ≤ gb335)); have n3_ := Aside0.mk ((by rw [hg]; exact (below_size (by repeat (first | (with_reducible first | exact HB.out | apply below_alloc | apply pw_below_drewN | apply below_drew1) | exact HB.out))) : w.heap.size ≤ gb335)); clear HB; have HB := n0_; have BK335 := n1_; have GW335 := n2_; have GE335 := n3_; clear n0_ n1_ n2_ n3_; clear hb hbox hg) | ((with_reducible refine gate_dst (N := 3) rfl ?_); refine box_event ?hg (N := 3) ?hd (cs := #[.bool a1_0, .slice A1_1 l1_1.length c1_1, .slice A1_2 l1_2.length c1_2]) (t := 30) ?hr ?_; (case hd => rfl); (case hg => rfl); (case hr => first | (go_simp; done) | (go_simp; rfl)); intro gb336 hg w6 hbox hb; have n0_ := Aside0.mk (blk_below (g := gb335) (o := .cells #[.bool a0_0, .slice A0_1 l0_1.length c0_1, .slice A0_2 l0_2.length c0_2] 30 (0, 0)) (by (with_reducible repeat (first | refine blk_drewN ?_ _ | refine blk_drew ?_ | refine blk_alloc ?_ _)); exact BK335.out) hb); have n1_ := Aside0.mk (below_step (by repeat (first | (with_reducible first | exact HB.out | apply below_alloc | apply pw_below_drewN | apply below_drew1 | refine below_set ?_ GE335.out) | exact HB.out)) hb); have n2_ := Aside0.mk (hbox); have n3_ := Aside0.mk ((by rw [hg]; exact (below_size (by repeat (first | (with_reducible first | exact HB.out | apply below_alloc | apply pw_below_drewN | apply below_drew1 | refine below_set ?_ GE335.out) | exact HB.out))) : w.heap.size ≤ gb336)); have n4_ := Aside0.mk ((by rw [hg]; exact (below_size (by repeat (first | (with_reducible first | exact HB.out | apply below_alloc | apply pw_below_drewN | apply below_drew1 | refine below_set ?_ GE335.out) | exact HB.out))) : w.heap.size ≤ gb336)); have n5_ := Aside0.mk ((by rw [hg]; exact Nat.ne_of_lt (blk_lt (g := gb335) (o := .cells #[.bool a0_0, .slice A0_1 l0_1.length c0_1, .slice A0_2 l0_2.length c0_2] 30 (0, 0)) (by (with_reducible repeat (first | refine blk_drewN ?_ _ | refine blk_drew ?_ | refine blk_alloc ?_ _)); exact BK335.out)) : gb335 ≠ gb336)); have n6_ := Aside0.mk ((by rw [hg]; exact Nat.ne_of_gt (blk_lt (g := gb335) (o := .cells #[.bool a0_0, .slice A0_1 l0_1.length c0_1, .slice A0_2 l0_2.length c0_2] 30 (0, 0)) (by (with_reducible repeat (first | refine blk_drewN ?_ _ | refine blk_drew ?_ | refine blk_alloc ?_ _)); exact BK335.out)) : gb336 ≠ gb335)); clear BK335; clear HB; have BK335 := n0_; have HB := n1_; have BK336 := n2_; have GW336 := n3_; have GE336 := n4_; have NB335_336 := n5_; have NB336_335 := n6_; clear n0_ n1_ n2_ n3_ n4_ n5_ n6_; clear hb hbox hg) | ((with_reducible refine gate_dst (N := 4) rfl ?_); refine box_event ?hg (N := 4) ?hd (cs := #[.bool false, .slice none 0 0, .slice none 0 0]) (t := 30) ?hr ?_; (case hd => rfl); (case hg => rfl); (case hr => first | (go_simp; done) | (go_simp; rfl)); intro gb337 hg w7 hbox hb; have n0_ := Aside0.mk (blk_below (g := gb335) (o := .cells #[.bool a0_0, .slice A0_1 l0_1.length c0_1, .slice A0_2 l0_2.length c0_2] 30 (0, 0)) (by (with_reducible repeat (first | refine blk_drewN ?_ _ | refine blk_drew ?_ | refine blk_alloc ?_ _)); exact BK335.out) hb); have n1_ := Aside0.mk (blk_below (g := gb336) (o := .cells #[.bool a1_0, .slice A1_1 l1_1.length c1_1, .slice A1_2 l1_2.length c1_2] 30 (0, 0)) (by (with_reducible repeat (first | refine blk_drewN ?_ _ | refine blk_drew ?_ | refine blk_alloc ?_ _)); exact BK336.out) hb); have n2_ := Aside0.mk (below_step (by repeat (first | (with_reducible first | exact HB.out | apply below_alloc | apply pw_below_drewN | apply below_drew1 | refine below_set ?_ GE335.out | refine below_set ?_ GE336.out) | exact HB.out)) hb); have n3_ := Aside0.mk (hbox); have n4_ := Aside0.mk ((by rw [hg]; exact (below_size (by repeat (first | (with_reducible first | exact HB.out | apply below_alloc | apply pw_below_drewN | apply below_drew1 | refine below_set ?_ GE335.out | refine below_set ?_ GE336.out) | exact HB.out))) : w.heap.size ≤ gb337)); have n5_ := Aside0.mk ((by rw [hg]; exact (below_size (by repeat (first | (with_reducible first | exact HB.out | apply below_alloc | apply pw_below_drewN | apply below_drew1 | refine below_set ?_ GE335.out | refine below_set ?_ GE336.out) | exact HB.out))) : w.heap.size ≤ gb337)); have n6_ := Aside0.mk ((by rw [hg]; exact Nat.ne_of_lt (blk_lt (g := gb335) (o := .cells #[.bool a0_0, .slice A0_1 l0_1.length c0_1, .slice A0_2 l0_2.length c0_2] 30 (0, 0)) (by (with_reducible repeat (first | refine blk_drewN ?_ _ | refine blk_drew ?_ | refine blk_alloc ?_ _)); exact BK335.out)) : gb335 ≠ gb337)); have n7_ := Aside0.mk ((by rw [hg]; exact Nat.ne_of_gt (blk_lt (g := gb335) (o := .cells #[.bool a0_0, .slice A0_1 l0_1.length c0_1, .slice A0_2 l0_2.length c0_2] 30 (0, 0)) (by (with_reducible repeat (first | refine blk_drewN ?_ _ | refine blk_drew ?_ | refine blk_alloc ?_ _)); exact BK335.out)) : gb337 ≠ gb335)); have n8_ := Aside0.mk ((by rw [hg]; exact Nat.ne_of_lt (blk_lt (g := gb336) (o := .cells #[.bool a1_0, .slice A1_1 l1_1.length c1_1, .slice A1_2 l1_2.length c1_2] 30 (0, 0)) (by (with_reducible repeat (first | refine blk_drewN ?_ _ | refine blk_drew ?_ | refine blk_alloc ?_ _)); exact BK336.out)) : gb336 ≠ gb337)); have n9_ := Aside0.mk ((by rw [hg]; exact Nat.ne_of_gt (blk_lt (g := gb336) (o := .cells #[.bool a1_0, .slice A1_1 l1_1.length c1_1, .slice A1_2 l1_2.length c1_2] 30 (0, 0)) (by (with_reducible repeat (first | refine blk_drewN ?_ _ | refine blk_drew ?_ | refine blk_alloc ?_ _)); exact BK336.out)) : gb337 ≠ gb336)); clear BK335; clear BK336; clear HB; have BK335 := n0_; have BK336 := n1_; have HB := n2_; have BK337 := n3_; have GW337 := n4_; have GE337 := n5_; have NB335_337 := n6_; have NB337_335 := n7_; have NB336_337 := n8_; have NB337_336 := n9_; clear n0_ n1_ n2_ n3_ n4_ n5_ n6_ n7_ n8_ n9_; clear hb hbox hg))
  have n0_ := Aside0.mk (blk_drew BK335.out)
  have n1_ := Aside0.mk (blk_drew BK336.out)
  have n2_ := Aside0.mk (blk_drew BK337.out)
  have n3_ := Aside0.mk (below_drew1 HB.out)
  clear BK335
  clear BK336
  clear BK337
  clear HB
  have BK335 := n0_
  have BK336 := n1_
  have BK337 := n2_
  have HB := n3_
  clear n0_ n1_ n2_ n3_
  refine start_ (n := 12) (S := fun w' => w'.cell? ⟨gb335, 0, none⟩ = some (.bool a0_0) ∧ w'.cell? ⟨gb335, 1, none⟩ = some (.slice A0_1 l0_1.length c0_1) ∧ w'.cell? ⟨gb335, 2, none⟩ = some (.slice A0_2 l0_2.length c0_2) ∧ w'.cell? ⟨gb336, 0, none⟩ = some (.bool a1_0) ∧ w'.cell? ⟨gb336, 1, none⟩ = some (.slice A1_1 l1_1.length c1_1) ∧ w'.cell? ⟨gb336, 2, none⟩ = some (.slice A1_2 l1_2.length c1_2)) (ds := []) #[false, false, false, false, false, false, false, false, false, false, false, false] (by kernel_rfl) rfl rfl ⟨(blk_cell BK335.out 0).trans rfl, (blk_cell BK335.out 1).trans rfl, (blk_cell BK335.out 2).trans rfl, (blk_cell BK336.out 0).trans rfl, (blk_cell BK336.out 1).trans rfl, (blk_cell BK336.out 2).trans rfl⟩ (fun hHeld => ?_); refine with_tabW spec_Frac_Mul.tab1 spec_Frac_Mul.bits1 (fun HT_ HW_ => ?_)
  generalize w7.drew = w8 at BK335 BK336 BK337 HB hHeld ⊢
  refine pure_ (i := 0) (N := some 5) (v := ?_) (a' := ?_) #[true, false, false, false, false, false, false, false, false, false, false, false] rfl rfl (any_of HT_.out (by kernel_rfl)) (fun _ _ _ h => h) (Or.inl ⟨by rfl, ?_⟩) ?_ ?_
  rotate_left
  · intro w'
    go_simp
    with_reducible rfl
  rotate_left
  · simp only [Act.put, List.setIfInBounds_toArray, List.set_cons_zero, List.set_cons_succ, i64_w, i32_w]
    rfl
  refine pure_ (i := 2) (N := some 7) (v := ?_) (a' := ?_) #[true, false, true, false, false, false, false, false, false, false, false, false] rfl rfl (any_of HT_.out (by kernel_rfl)) (fun _ _ _ h => h) (Or.inl ⟨by rfl, ?_⟩) ?_ ?_
  rotate_left
  · intro w'
    go_simp
    with_reducible rfl
  rotate_left
  · simp only [Act.put, List.setIfInBounds_toArray, List.set_cons_zero, List.set_cons_succ, i64_w, i32_w]
    rfl
  refine pure_ (i := 5) (N := some 10) (v := ?_) (a' := ?_) #[true, false, true, false, false, true, false, false, false, false, false, false] rfl rfl (any_of HT_.out (by kernel_rfl)) (fun _ _ _ h => h) (Or.inl ⟨by rfl, ?_⟩) ?_ ?_
  rotate_left
  · intro w'
    go_simp
    with_reducible rfl
  rotate_left
  · simp only [Act.put, List.setIfInBounds_toArray, List.set_cons_zero, List.set_cons_succ, i64_w, i32_w]
    rfl
  refine pure_ (i := 7) (N := some 12) (v := ?_) (a' := ?_) #[true, false, true, false, false, true, false, true, false, false, false, false] rfl rfl (any_of HT_.out (by kernel_rfl)) (fun _ _ _ h => h) (Or.inl ⟨by rfl, ?_⟩) ?_ ?_
  rotate_left
  · intro w'
    go_simp
    with_reducible rfl
  rotate_left
  · simp only [Act.put, List.setIfInBounds_toArray, List.set_cons_zero, List.set_cons_succ, i64_w, i32_w]
    rfl
  refine take_ (i := 1) (N := some 6) (v := ?_) (a' := ?_) #[true, true, true, false, false, true, false, true, false, false, false, false] rfl rfl (take_ofW HT_.out HW_.out (by kernel_rfl)) (fun _ _ _ h => h) (Or.inl ⟨by rfl, ?_⟩) hHeld ?_ ?_
  rotate_left
  · rintro w' ⟨s0, s1, s2, s3, s4, s5⟩
    go_simp
    with_reducible rfl
  rotate_left
  · simp only [Act.put, List.setIfInBounds_toArray, List.set_cons_zero, List.set_cons_succ, i64_w, i32_w]
    rfl
  refine take_ (i := 3) (N := some 8) (v := ?_) (a' := ?_) #[true, true, true, true, false, true, false, true, false, false, false, false] rfl rfl (take_ofW HT_.out HW_.out (by kernel_rfl)) (fun _ _ _ h => h) (Or.inl ⟨by rfl, ?_⟩) hHeld ?_ ?_
  rotate_left
  · rintro w' ⟨s0, s1, s2, s3, s4, s5⟩
    go_simp
    with_reducible rfl
  rotate_left
  · simp only [Act.put, List.setIfInBounds_toArray, List.set_cons_zero, List.set_cons_succ, i64_w, i32_w]
    rfl
  refine take_ (i := 6) (N := some 11) (v := ?_) (a' := ?_) #[true, true, true, true, false, true, true, true, false, false, false, false] rfl rfl (take_ofW HT_.out HW_.out (by kernel_rfl)) (fun _ _ _ h => h) (Or.inl ⟨by rfl, ?_⟩) hHeld ?_ ?_
  rotate_left
  · rintro w' ⟨s0, s1, s2, s3, s4, s5⟩
    go_simp
    with_reducible rfl
  rotate_left
  · simp only [Act.put, List.setIfInBounds_toArray, List.set_cons_zero, List.set_cons_succ, i64_w, i32_w]
    rfl
  refine take_ (i := 8) (N := some 13) (v := ?_) (a' := ?_) #[true, true, true, true, false, true, true, true, true, false, false, false] rfl rfl (take_ofW HT_.out HW_.out (by kernel_rfl)) (fun _ _ _ h => h) (Or.inl ⟨by rfl, ?_⟩) hHeld ?_ ?_
  rotate_left
  · rintro w' ⟨s0, s1, s2, s3, s4, s5⟩
    go_simp
    with_reducible rfl
  rotate_left
  · simp only [Act.put, List.setIfInBounds_toArray, List.set_cons_zero, List.set_cons_succ, i64_w, i32_w]
    rfl
  refine one_ (i := 4) (N := some 9) #[true, true, true, true, true, true, true, true, true, false, false, false] rfl rfl (one_of HT_.out (by kernel_rfl)) (by decide) (fun K hK => ?_)
  refine goes_ Tryz.func19 (by kernel_rfl) rfl #[.agg #[.bool a0_0, .slice A0_1 l0_1.length c0_1], .agg #[.bool a1_0, .slice A1_1 l1_1.length c1_1]] (by rfl) rfl rfl (by (try simp only [List.map_toArray, List.map_cons, List.map_nil]); first | done | rfl | (simp only [List.length_drop, List.length_take]; rfl)) ?_
  with_reducible refine (spec_Whole_Mul.calls k a0_0 _ _ l0_1 a1_0 _ _ l1_1 t338 t339 _ ?side1 ?side2 ?side3 ?side4 A3.out).mono ?_
  (case side1 => repeat (first | exact (Kd.C_below HR0_1.out HB.out) | (with_reducible refine Kd.C_alloc ?_ _) | (with_reducible refine Kd.C_drewN ?_ _) | (with_reducible refine Kd.C_drew ?_)))
  (case side2 => exact HC0_1.out)
  (case side3 => repeat (first | exact (Kd.C_below HR1_1.out HB.out) | (with_reducible refine Kd.C_alloc ?_ _) | (with_reducible refine Kd.C_drewN ?_ _) | (with_reducible refine Kd.C_drew ?_)))
  (case side4 => exact HC1_1.out)
  rintro e w9 ⟨v340, rfl, ho0, hb⟩
  refine ⟨_, rfl, ?_⟩
  have n0_ := Aside0.mk (Kd.V_lower (Kd.V_mono (ok' := fun k_ => (w.heap.size ≤ k_) ∧ k_ ≠ gb335 ∧ k_ ≠ gb336 ∧ k_ ≠ gb337) ho0 (fun k_ hk_ => ⟨(Nat.le_trans (below_size (by repeat (first | (with_reducible first | exact HB.out | apply below_alloc | apply pw_below_drewN | apply below_drew1 | refine below_set ?_ GE335.out | refine below_set ?_ GE336.out | refine below_set ?_ GE337.out) | exact HB.out))) hk_), (Kd.freshB (g := gb335) (o := .cells #[.bool a0_0, .slice A0_1 l0_1.length c0_1, .slice A0_2 l0_2.length c0_2] 30 (0, 0)) (by (with_reducible repeat (first | refine blk_drewN ?_ _ | refine blk_drew ?_ | refine blk_alloc ?_ _)); exact BK335.out) k_ hk_), (Kd.freshB (g := gb336) (o := .cells #[.bool a1_0, .slice A1_1 l1_1.length c1_1, .slice A1_2 l1_2.length c1_2] 30 (0, 0)) (by (with_reducible repeat (first | refine blk_drewN ?_ _ | refine blk_drew ?_ | refine blk_alloc ?_ _)); exact BK336.out) k_ hk_), (Kd.freshB (g := gb337) (o := .cells #[.bool false, .slice none 0 0, .slice none 0 0] 30 (0, 0)) (by (with_reducible repeat (first | refine blk_drewN ?_ _ | refine blk_drew ?_ | refine blk_alloc ?_ _)); exact BK337.out) k_ hk_)⟩)) (below_size (by repeat (first | (with_reducible first | exact HB.out | apply below_alloc | apply pw_below_drewN | apply below_drew1 | refine below_set ?_ GE335.out | refine below_set ?_ GE336.out | refine below_set ?_ GE337.out) | exact HB.out))))
  have n1_ := Aside0.mk (blk_below (g := gb335) (o := .cells #[.bool a0_0, .slice A0_1 l0_1.length c0_1, .slice A0_2 l0_2.length c0_2] 30 (0, 0)) (by (with_reducible repeat (first | refine blk_drewN ?_ _ | refine blk_drew ?_ | refine blk_alloc ?_ _)); exact BK335.out) hb)
  have n2_ := Aside0.mk (blk_below (g := gb336) (o := .cells #[.bool a1_0, .slice A1_1 l1_1.length c1_1, .slice A1_2 l1_2.length c1_2] 30 (0, 0)) (by (with_reducible repeat (first | refine blk_drewN ?_ _ | refine blk_drew ?_ | refine blk_alloc ?_ _)); exact BK336.out) hb)
  have n3_ := Aside0.mk (blk_below (g := gb337) (o := .cells #[.bool false, .slice none 0 0, .slice none 0 0] 30 (0, 0)) (by (with_reducible repeat (first | refine blk_drewN ?_ _ | refine blk_drew ?_ | refine blk_alloc ?_ _)); exact BK337.out) hb)
  have n4_ := Aside0.mk (below_step (by repeat (first | (with_reducible first | exact HB.out | apply below_alloc | apply pw_below_drewN | apply below_drew1 | refine below_set ?_ GE335.out | refine below_set ?_ GE336.out | refine below_set ?_ GE337.out) | exact HB.out)) hb)
  clear BK335
  clear BK336
  clear BK337
  clear HB
  have HO341 := n0_
  have BK335 := n1_
  have BK336 := n2_
  have BK337 := n3_
  have HB := n4_
  clear n0_ n1_ n2_ n3_ n4_
  (try clear hb)
  (try clear hb2)
  (try clear hk)
  (try clear hi)
  (try clear ho0)
  refine hK.out _ _ ⟨(blk_cell BK335.out 0).trans rfl, (blk_cell BK335.out 1).trans rfl, (blk_cell BK335.out 2).trans rfl, (blk_cell BK336.out 0).trans rfl, (blk_cell BK336.out 1).trans rfl, (blk_cell BK336.out 2).trans rfl⟩ (fun hHeld => ?_)
  clear hK K
  refine norm_ (a' := ?_) ?_ ?_
  rotate_left
  · show Act.put _ (some 9) _ = _
    simp only [Act.put, List.setIfInBounds_toArray, List.set_cons_zero, List.set_cons_succ, i64_w, i32_w]
    rfl
  refine one_ (i := 9) (N := some 14) #[true, true, true, true, true, true, true, true, true, true, false, false] rfl rfl (one_of HT_.out (by kernel_rfl)) (by decide) (fun K hK => ?_)
  refine goes_ Tryz.func20 (by kernel_rfl) rfl #[.slice A0_2 l0_2.length c0_2, .slice A1_2 l1_2.length c1_2] (by rfl) rfl rfl (by (try simp only [List.map_toArray, List.map_cons, List.map_nil]); first | done | rfl | (simp only [List.length_drop, List.length_take]; rfl)) ?_
  with_reducible refine (spec_NatMul.calls k _ _ l0_2 _ _ l1_2 t342 _ ?side1 ?side2 ?side3 ?side4 A4.out).mono ?_
  (case side1 => repeat (first | exact (Kd.C_below HR0_2.out HB.out) | (with_reducible refine Kd.C_alloc ?_ _) | (with_reducible refine Kd.C_drewN ?_ _) | (with_reducible refine Kd.C_drew ?_)))
  (case side2 => exact HC0_2.out)
  (case side3 => repeat (first | exact (Kd.C_below HR1_2.out HB.out) | (with_reducible refine Kd.C_alloc ?_ _) | (with_reducible refine Kd.C_drewN ?_ _) | (with_reducible refine Kd.C_drew ?_)))
  (case side4 => exact HC1_2.out)
  rintro e w10 ⟨v343, rfl, ho0, hb⟩
  refine ⟨_, rfl, ?_⟩
  have n0_ := Aside0.mk (Kd.V_below (by (with_reducible repeat (first | apply Kd.V_alloc | apply Kd.V_drewN | apply Kd.V_drew)); exact HO341.out) hb)
  have n1_ := Aside0.mk (Kd.V_lower (Kd.V_mono (ok' := fun k_ => (w.heap.size ≤ k_) ∧ k_ ≠ gb335 ∧ k_ ≠ gb336 ∧ k_ ≠ gb337) ho0 (fun k_ hk_ => ⟨(Nat.le_trans (below_size (by repeat (first | (with_reducible first | exact HB.out | apply below_alloc | apply pw_below_drewN | apply below_drew1 | refine below_set ?_ GE335.out | refine below_set ?_ GE336.out | refine below_set ?_ GE337.out) | exact HB.out))) hk_), (Kd.freshB (g := gb335) (o := .cells #[.bool a0_0, .slice A0_1 l0_1.length c0_1, .slice A0_2 l0_2.length c0_2] 30 (0, 0)) (by (with_reducible repeat (first | refine blk_drewN ?_ _ | refine blk_drew ?_ | refine blk_alloc ?_ _)); exact BK335.out) k_ hk_), (Kd.freshB (g := gb336) (o := .cells #[.bool a1_0, .slice A1_1 l1_1.length c1_1, .slice A1_2 l1_2.length c1_2] 30 (0, 0)) (by (with_reducible repeat (first | refine blk_drewN ?_ _ | refine blk_drew ?_ | refine blk_alloc ?_ _)); exact BK336.out) k_ hk_), (Kd.freshB (g := gb337) (o := .cells #[.bool false, .slice none 0 0, .slice none 0 0] 30 (0, 0)) (by (with_reducible repeat (first | refine blk_drewN ?_ _ | refine blk_drew ?_ | refine blk_alloc ?_ _)); exact BK337.out) k_ hk_)⟩)) (below_size (by repeat (first | (with_reducible first | exact HB.out | apply below_alloc | apply pw_below_drewN | apply below_drew1 | refine below_set ?_ GE335.out | refine below_set ?_ GE336.out | refine below_set ?_ GE337.out) | exact HB.out))))
  have n2_ := Aside0.mk (blk_below (g := gb335) (o := .cells #[.bool a0_0, .slice A0_1 l0_1.length c0_1, .slice A0_2 l0_2.length c0_2] 30 (0, 0)) (by (with_reducible repeat (first | refine blk_drewN ?_ _ | refine blk_drew ?_ | refine blk_alloc ?_ _)); exact BK335.out) hb)
  have n3_ := Aside0.mk (blk_below (g := gb336) (o := .cells #[.bool a1_0, .slice A1_1 l1_1.length c1_1, .slice A1_2 l1_2.length c1_2] 30 (0, 0)) (by (with_reducible repeat (first | refine blk_drewN ?_ _ | refine blk_drew ?_ | refine blk_alloc ?_ _)); exact BK336.out) hb)
  have n4_ := Aside0.mk (blk_below (g := gb337) (o := .cells #[.bool false, .slice none 0 0, .slice none 0 0] 30 (0, 0)) (by (with_reducible repeat (first | refine blk_drewN ?_ _ | refine blk_drew ?_ | refine blk_alloc ?_ _)); exact BK337.out) hb)
  have n5_ := Aside0.mk (below_step (by repeat (first | (with_reducible first | exact HB.out | apply below_alloc | apply pw_below_drewN | apply below_drew1 | refine below_set ?_ GE335.out | refine below_set ?_ GE336.out | refine below_set ?_ GE337.out) | exact HB.out)) hb)
  clear HO341
  clear BK335
  clear BK336
  clear BK337
  clear HB
  have HO341 := n0_
  have HO344 := n1_
  have BK335 := n2_
  have BK336 := n3_
  have BK337 := n4_
  have HB := n5_
  clear n0_ n1_ n2_ n3_ n4_ n5_
  (try clear hb)
  (try clear hb2)
  (try clear hk)
  (try clear hi)
  (try clear ho0)
  obtain ⟨Ao11, co11, eo11⟩ := Kd.V_slice HO344.out
  (first | subst eo11 | (injection eo11 with f1_ f2_ f3_; have f4_ := f1_.symm; have f5_ := f3_.symm; clear f1_ f2_ f3_; subst f4_; subst f5_))
  obtain ⟨Ao12, co12, eo12⟩ := Kd.V_slice HO341.out
  (first | subst eo12 | (injection eo12 with f1_ f2_ f3_; have f4_ := f1_.symm; have f5_ := f3_.symm; clear f1_ f2_ f3_; subst f4_; subst f5_))
  refine hK.out _ _ ⟨(blk_cell BK335.out 0).trans rfl, (blk_cell BK335.out 1).trans rfl, (blk_cell BK335.out 2).trans rfl, (blk_cell BK336.out 0).trans rfl, (blk_cell BK336.out 1).trans rfl, (blk_cell BK336.out 2).trans rfl⟩ (fun hHeld => ?_)
  clear hK K
  refine norm_ (a' := ?_) ?_ ?_
  rotate_left
  · show Act.put _ (some 14) _ = _
    simp only [Act.put, List.setIfInBounds_toArray, List.set_cons_zero, List.set_cons_succ, i64_w, i32_w]
    rfl
  refine pure_ (i := 10) (N := some 15) (v := ?_) (a' := ?_) #[true, true, true, true, true, true, true, true, true, true, true, false] rfl rfl (any_of HT_.out (by kernel_rfl)) (fun _ _ _ h => h) (Or.inl ⟨by rfl, ?_⟩) ?_ ?_
  rotate_left
  · intro w'
    go_simp
    with_reducible rfl
  rotate_left
  · simp only [Act.put, List.setIfInBounds_toArray, List.set_cons_zero, List.set_cons_succ, i64_w, i32_w]
    rfl
  refine one_ (i := 11) (N := none) #[true, true, true, true, true, true, true, true, true, true, true, true] rfl rfl (one_of HT_.out (by kernel_rfl)) (by decide) (fun K hK => ?_)
  have hs13 : w10.cell? ⟨gb337, 0, none⟩ = some (.bool false) := (blk_cell BK337.out 0).trans rfl
  have hfs13 := blk_frozen BK337.out 0
  have hns13_0 := NB335_337.out
  have hns13_1 := NB336_337.out
  have hms13_0 := NB337_335.out
  have hms13_1 := NB337_336.out
  have hs14 : w10.cell? ⟨gb337, 1, none⟩ = some (.slice none 0 0) := (blk_cell BK337.out 1).trans rfl
  have hfs14 := blk_frozen BK337.out 1
  have hns14_0 := NB335_337.out
  have hns14_1 := NB336_337.out
  have hms14_0 := NB337_335.out
  have hms14_1 := NB337_336.out
  have hs15 : w10.cell? ⟨gb337, 2, none⟩ = some (.slice none 0 0) := (blk_cell BK337.out 2).trans rfl
  have hfs15 := blk_frozen BK337.out 2
  have hns15_0 := NB335_337.out
  have hns15_1 := NB336_337.out
  have hms15_0 := NB337_335.out
  have hms15_1 := NB337_336.out
  refine skip_ (w1 := ?_) (by rfl) rfl ?_ ?_
  rotate_left
  · go_simp
    rfl
  refine hK.out _ _ ⟨((cell_far (p := ⟨gb337, _, none⟩) NB335_337.out _).trans (((cell_far (p := ⟨gb337, _, none⟩) NB335_337.out _).trans (((cell_far (p := ⟨gb337, _, none⟩) NB335_337.out _).trans (hHeld.1)))))), ((cell_far (p := ⟨gb337, _, none⟩) NB335_337.out _).trans (((cell_far (p := ⟨gb337, _, none⟩) NB335_337.out _).trans (((cell_far (p := ⟨gb337, _, none⟩) NB335_337.out _).trans (hHeld.2.1)))))), ((cell_far (p := ⟨gb337, _, none⟩) NB335_337.out _).trans (((cell_far (p := ⟨gb337, _, none⟩) NB335_337.out _).trans (((cell_far (p := ⟨gb337, _, none⟩) NB335_337.out _).trans (hHeld.2.2.1)))))), ((cell_far (p := ⟨gb337, _, none⟩) NB336_337.out _).trans (((cell_far (p := ⟨gb337, _, none⟩) NB336_337.out _).trans (((cell_far (p := ⟨gb337, _, none⟩) NB336_337.out _).trans (hHeld.2.2.2.1)))))), ((cell_far (p := ⟨gb337, _, none⟩) NB336_337.out _).trans (((cell_far (p := ⟨gb337, _, none⟩) NB336_337.out _).trans (((cell_far (p := ⟨gb337, _, none⟩) NB336_337.out _).trans (hHeld.2.2.2.2.1)))))), ((cell_far (p := ⟨gb337, _, none⟩) NB336_337.out _).trans (((cell_far (p := ⟨gb337, _, none⟩) NB336_337.out _).trans (((cell_far (p := ⟨gb337, _, none⟩) NB336_337.out _).trans (hHeld.2.2.2.2.2))))))⟩ (fun hHeld => ?_)
  clear hK K
  refine done_ (done_of HT_.out (by kernel_rfl)) ?_
  try go_wp2
  refine bodyPost_ret (results_cell_row rfl _ _ gb337 30 #[.bool t338, .slice Ao12 t339.length co12, .slice Ao11 t342.length co11] (0, 0) _ rfl (by (with_reducible repeat (first | refine blk_drewN ?_ _ | refine blk_drew ?_ | refine blk_alloc ?_ _)); refine blk_put (cs := #[.bool t338, .slice Ao12 t339.length co12, .slice none 0 0]) ?_ 2 _ rfl; (with_reducible repeat (first | refine blk_drewN ?_ _ | refine blk_drew ?_ | refine blk_alloc ?_ _)); refine blk_put (cs := #[.bool t338, .slice none 0 0, .slice none 0 0]) ?_ 1 _ rfl; (with_reducible repeat (first | refine blk_drewN ?_ _ | refine blk_drew ?_ | refine blk_alloc ?_ _)); refine blk_put (cs := #[.bool false, .slice none 0 0, .slice none 0 0]) ?_ 0 _ rfl; (with_reducible repeat (first | refine blk_drewN ?_ _ | refine blk_drew ?_ | refine blk_alloc ?_ _)); exact BK337.out) Tryz.underlying30 rfl (by kernel_rfl)) rfl ?_
  exact ⟨_, _, by first | rfl | (simp [errW_none, errW_some] <;> rfl) | (simp [*, errW_none, errW_some] <;> rfl), by (with_reducible repeat (first | apply Kd.V_alloc | apply Kd.V_drewN | apply Kd.V_drew)); exact Kd.V_mono (Kd.V_far (p := ⟨gb337, 2, none⟩) (Kd.V_far (p := ⟨gb337, 1, none⟩) (Kd.V_far (p := ⟨gb337, 0, none⟩) (Kd.V_mono HO341.out (fun k_ hk => (⟨hk, hk.2.2.2⟩ : _ ∧ k_ ≠ gb337))) (fun _ hk => hk.2) (.bool t338)) (fun _ hk => hk.2) (.slice Ao12 t339.length co12)) (fun _ hk => hk.2) (.slice Ao11 t342.length co11)) (fun _ hk => hk.1.1), by (with_reducible repeat (first | apply Kd.V_alloc | apply Kd.V_drewN | apply Kd.V_drew)); exact Kd.V_mono (Kd.V_far (p := ⟨gb337, 2, none⟩) (Kd.V_far (p := ⟨gb337, 1, none⟩) (Kd.V_far (p := ⟨gb337, 0, none⟩) (Kd.V_mono HO344.out (fun k_ hk => (⟨hk, hk.2.2.2⟩ : _ ∧ k_ ≠ gb337))) (fun _ hk => hk.2) (.bool t338)) (fun _ hk => hk.2) (.slice Ao12 t339.length co12)) (fun _ hk => hk.2) (.slice Ao11 t342.length co11)) (fun _ hk => hk.1.1), by repeat (first | (with_reducible first | exact HB.out | apply below_alloc | apply pw_below_drewN | apply below_drew1 | refine below_set ?_ GE335.out | refine below_set ?_ GE336.out | refine below_set ?_ GE337.out) | exact HB.out)⟩

-- NOT PRINTED: function 3 (laws_FnDecMul)


end Go.Proofs.YtghabdpbacgicaaGreatDoor.S
