/- CONTRACTS of spec_OfFix: each as the plain function beside it. (Began as print.sh's text for this seat; the turns are those of wip/tools/split.py.) -/
import Derived.Test.YtcgdphciepdkiaaDoorSFrom
import Derived.Test.YtcgdphciepdkiaaDoorSStr
import Derived.Test.YtcgdphciepdkiaaDoorSWOf
namespace Go.Proofs.YtcgdphciepdkiaaDoor.S
open Go.RowKit Go.Proofs.YtcgdphciepdkiaaDoorW.PrintWords Go.Proofs.YtcgdphciepdkiaaDoorW.PrintLast Go.Proofs.YtcgdphciepdkiaaDoorW.PrintMore
attribute [local go_sem] max2_int min2_int max_two min_two max_three min_three max_four min_four   -- for this text's walks alone
set_option linter.unusedVariables false
set_option linter.unusedSimpArgs false

/-! ### spec_OfFix: function 16 -/
def spec_OfFix.f (k : Nat) (a0_0 : Bool) (a0_1 : Int) (a0_2 : Int) : Option (Bool × List Int × Int × Bool) := (spec_NatFrom.f k a0_1).bind fun t131 => ((spec_wholeOf.f a0_0 t131).bind fun bt134 => ((spec_Nat_Digits.f k bt134.2).bind fun t139 => (if t139 ≤ 19 then (if a0_2 ≥ 0 then (some (bt134.1, bt134.2, wrap64 (-a0_2), decide (a0_2 ≤ 19))) else (some (bt134.1, bt134.2, wrap64 (-a0_2), false))) else (some (bt134.1, bt134.2, wrap64 (-a0_2), false)))))
theorem spec_OfFix.mono : ∀ a0 a1 a2 k, LeO (spec_OfFix.f k a0 a1 a2) (spec_OfFix.f (k + 1) a0 a1 a2) := by
  intro a0 a1 a2 k
  unfold spec_OfFix.f
  repeat' first
      | (with_reducible exact spec_NatFrom.mono _ _)
      | (with_reducible exact spec_Nat_Digits.mono _ _)
      | (with_reducible exact LeO.refl _)
      | (with_reducible exact LeO.none _)
      | (with_reducible refine LeO.ite ?_ ?_)
      | (with_reducible refine LeO.bind ?_ (fun _ => ?_))
      | exact spec_NatFrom.mono _ _
      | exact spec_Nat_Digits.mono _ _
      | exact LeO.none _
      | refine LeO.ite ?_ ?_
      | refine LeO.bind ?_ (fun _ => ?_)
def spec_OfFix.T1 : Bool × List (List Nat × List Nat) := (true, [([], []), ([0], [0]), ([], []), ([2], [2]), ([3], [3]), ([1, 4, 4], [1, 4]), ([], []), ([6, 5, 5, 0, 1, 2, 3, 4, 5, 6], [5, 6])])
def spec_OfFix.B1 : List Nat := [0, 1, 0, 4, 12, 31, 0, 127]
theorem spec_OfFix.tab1 : rtab .any (opsOf Tryd.f16 1) = spec_OfFix.T1 := by kernel_rfl
theorem spec_OfFix.bits1 : waitsOk spec_OfFix.T1.2 spec_OfFix.B1 = true := by kernel_rfl
def spec_OfFix.T2 : Bool × List (List Nat × List Nat) := (true, [([], []), ([], []), ([1], [1]), ([2], [2]), ([0, 3], [0, 3]), ([], []), ([5], [5]), ([6], [6]), ([7], [7]), ([8, 7], [8]), ([9], [9]), ([10, 9], [9, 10]), ([11, 9], [9, 11]), ([9, 12], [9, 12]), ([13, 9], [13]), ([14], [14]), ([15, 14], [14, 15]), ([16, 14], [14, 16]), ([14, 17], [14, 17]), ([4, 14, 0, 1, 2, 3, 4], [4]), ([18, 19, 0, 1, 2, 3, 4, 5, 6, 7, 8, 9, 10, 11, 12, 13, 14, 15, 16, 17, 18, 19], [18])])
def spec_OfFix.B2 : List Nat := [0, 0, 2, 6, 15, 0, 32, 96, 224, 480, 992, 2016, 4064, 8160, 16352, 32736, 65504, 131040, 262112, 32767, 1048575]
theorem spec_OfFix.tab2 : rtab .any (opsOf Tryd.f16 2) = spec_OfFix.T2 := by kernel_rfl
theorem spec_OfFix.bits2 : waitsOk spec_OfFix.T2.2 spec_OfFix.B2 = true := by kernel_rfl
set_option maxHeartbeats 8000000 in
set_option maxRecDepth 100000 in
theorem spec_OfFix.calls (k : Nat) (a0_0 : Bool) (a0_1 : Int) (a0_2 : Int) (r1 : Bool) (r2 : List Int) (r3 : Int) (r4 : Bool) (w : World) (h : spec_OfFix.f k a0_0 a0_1 a0_2 = some (r1, r2, r3, r4)) :
    Calls Tryd.prog 16 #[.agg #[.bool a0_0, .int .u64 a0_1, .int .i64 a0_2]] w fun e w' => ∃ v1_ : Value, e = .returned (.tuple #[.agg #[.bool r1, v1_, .int .i64 r3], .bool r4]) ∧ Kd.V (Kd.int .u32) 59 w' w.heap.size (fun k_ => (w.heap.size ≤ k_)) v1_ r2 ∧ Below w.heap.size w w' := by
  have hu34 := Tryd.underlying34
  have hu40 := Tryd.underlying40
  have hu38 := Tryd.underlying38
  have HB := Aside0.mk (Below.refl w.heap.size w)
  have H : ((spec_NatFrom.f k a0_1).bind fun t131 => ((spec_wholeOf.f a0_0 t131).bind fun bt134 => ((spec_Nat_Digits.f k bt134.2).bind fun t139 => (if t139 ≤ 19 then (if a0_2 ≥ 0 then (some (bt134.1, bt134.2, wrap64 (-a0_2), decide (a0_2 ≤ 19))) else (some (bt134.1, bt134.2, wrap64 (-a0_2), false))) else (some (bt134.1, bt134.2, wrap64 (-a0_2), false)))))) = some (r1, r2, r3, r4) := h
  clear h
  replace H := Option.bind_eq_some_iff.mp H
  obtain ⟨t131, A20, H⟩ := H
  replace H : ((spec_wholeOf.f a0_0 t131).bind fun bt134 => ((spec_Nat_Digits.f k bt134.2).bind fun t139 => (if t139 ≤ 19 then (if a0_2 ≥ 0 then (some (bt134.1, bt134.2, wrap64 (-a0_2), decide (a0_2 ≤ 19))) else (some (bt134.1, bt134.2, wrap64 (-a0_2), false))) else (some (bt134.1, bt134.2, wrap64 (-a0_2), false))))) = some (r1, r2, r3, r4) := H
  have A2 := Aside0.mk A20
  clear A20
  replace H := Option.bind_eq_some_iff.mp H
  obtain ⟨⟨t134, t135⟩, A30, H⟩ := H
  replace H : ((spec_Nat_Digits.f k t135).bind fun t139 => (if t139 ≤ 19 then (if a0_2 ≥ 0 then (some (t134, t135, wrap64 (-a0_2), decide (a0_2 ≤ 19))) else (some (t134, t135, wrap64 (-a0_2), false))) else (some (t134, t135, wrap64 (-a0_2), false)))) = some (r1, r2, r3, r4) := H
  have A3 := Aside0.mk A30
  clear A30
  replace H := Option.bind_eq_some_iff.mp H
  obtain ⟨t139, A40, H⟩ := H
  replace H : (if t139 ≤ 19 then (if a0_2 ≥ 0 then (some (t134, t135, wrap64 (-a0_2), decide (a0_2 ≤ 19))) else (some (t134, t135, wrap64 (-a0_2), false))) else (some (t134, t135, wrap64 (-a0_2), false))) = some (r1, r2, r3, r4) := H
  have A4 := Aside0.mk A40
  clear A40
  by_cases c5 : t139 ≤ 19
  · rw [if_pos c5] at H
    have c5b0 : decide (t139 ≤ 19) = true := decide_eq_true c5
    clear c5
    by_cases c6 : a0_2 ≥ 0
    · rw [if_pos c6] at H
      have c6b0 : decide (0 ≤ a0_2) = true := decide_eq_true c6
      clear c6
      simp only [Option.some.injEq, Prod.mk.injEq] at H
      obtain ⟨rfl, rfl, rfl, rfl⟩ := H
      go_enter Tryd.func16, Tryd.ntmps16
      try go_wp2_with (first | ((with_reducible refine gate_dst (N := 1) rfl ?_); refine box_event ?hg (N := 1) ?hd (cs := #[.bool a0_0, .int .u64 a0_1, .int .i64 a0_2]) (t := 34) ?hr ?_; (case hd => rfl); (case hg => rfl); (case hr => first | (go_simp; done) | (go_simp; rfl)); intro gb129 hg w7 hbox hb; have n0_ := Aside0.mk (below_step (by repeat (first | (with_reducible first | exact HB.out | apply below_alloc | apply pw_below_drewN | apply below_drew1) | exact HB.out)) hb); have n1_ := Aside0.mk (hbox); have n2_ := Aside0.mk ((by rw [hg]; exact (below_size (by repeat (first | (with_reducible first | exact HB.out | apply below_alloc | apply pw_below_drewN | apply below_drew1) | exact HB.out))) : w.heap.size ≤ gb129)); have n3_ := Aside0.mk ((by rw [hg]; exact (below_size (by repeat (first | (with_reducible first | exact HB.out | apply below_alloc | apply pw_below_drewN | apply below_drew1) | exact HB.out))) : w.heap.size ≤ gb129)); clear HB; have HB := n0_; have BK129 := n1_; have GW129 := n2_; have GE129 := n3_; clear n0_ n1_ n2_ n3_; clear hb hbox hg) | ((with_reducible refine gate_dst (N := 2) rfl ?_); refine box_event ?hg (N := 2) ?hd (cs := #[.bool false, .slice none 0 0, .int .i64 0]) (t := 40) ?hr ?_; (case hd => rfl); (case hg => rfl); (case hr => first | (go_simp; done) | (go_simp; rfl)); intro gb130 hg w8 hbox hb; have n0_ := Aside0.mk (blk_below (g := gb129) (o := .cells #[.bool a0_0, .int .u64 a0_1, .int .i64 a0_2] 34 (0, 0)) (by (with_reducible repeat (first | refine blk_drewN ?_ _ | refine blk_drew ?_ | refine blk_alloc ?_ _)); exact BK129.out) hb); have n1_ := Aside0.mk (below_step (by repeat (first | (with_reducible first | exact HB.out | apply below_alloc | apply pw_below_drewN | apply below_drew1 | refine below_set ?_ GE129.out) | exact HB.out)) hb); have n2_ := Aside0.mk (hbox); have n3_ := Aside0.mk ((by rw [hg]; exact (below_size (by repeat (first | (with_reducible first | exact HB.out | apply below_alloc | apply pw_below_drewN | apply below_drew1 | refine below_set ?_ GE129.out) | exact HB.out))) : w.heap.size ≤ gb130)); have n4_ := Aside0.mk ((by rw [hg]; exact (below_size (by repeat (first | (with_reducible first | exact HB.out | apply below_alloc | apply pw_below_drewN | apply below_drew1 | refine below_set ?_ GE129.out) | exact HB.out))) : w.heap.size ≤ gb130)); have n5_ := Aside0.mk ((by rw [hg]; exact Nat.ne_of_lt (blk_lt (g := gb129) (o := .cells #[.bool a0_0, .int .u64 a0_1, .int .i64 a0_2] 34 (0, 0)) (by (with_reducible repeat (first | refine blk_drewN ?_ _ | refine blk_drew ?_ | refine blk_alloc ?_ _)); exact BK129.out)) : gb129 ≠ gb130)); have n6_ := Aside0.mk ((by rw [hg]; exact Nat.ne_of_gt (blk_lt (g := gb129) (o := .cells #[.bool a0_0, .int .u64 a0_1, .int .i64 a0_2] 34 (0, 0)) (by (with_reducible repeat (first | refine blk_drewN ?_ _ | refine blk_drew ?_ | refine blk_alloc ?_ _)); exact BK129.out)) : gb130 ≠ gb129)); clear BK129; clear HB; have BK129 := n0_; have HB := n1_; have BK130 := n2_; have GW130 := n3_; have GE130 := n4_; have NB129_130 := n5_; have NB130_129 := n6_; clear n0_ n1_ n2_ n3_ n4_ n5_ n6_; clear hb hbox hg))
      have n0_ := Aside0.mk (blk_drew BK129.out)
      have n1_ := Aside0.mk (blk_drew BK130.out)
      have n2_ := Aside0.mk (below_drew1 HB.out)
      clear BK129
      clear BK130
      clear HB
      have BK129 := n0_
      have BK130 := n1_
      have HB := n2_
      clear n0_ n1_ n2_
      refine start_ (n := 8) (S := fun w' => w'.cell? ⟨gb129, 0, none⟩ = some (.bool a0_0) ∧ w'.cell? ⟨gb129, 1, none⟩ = some (.int .u64 a0_1) ∧ w'.cell? ⟨gb129, 2, none⟩ = some (.int .i64 a0_2)) (ds := []) #[false, false, false, false, false, false, false, false] (by kernel_rfl) rfl rfl ⟨(blk_cell BK129.out 0).trans rfl, (blk_cell BK129.out 1).trans rfl, (blk_cell BK129.out 2).trans rfl⟩ (fun hHeld => ?_); refine with_tabW spec_OfFix.tab1 spec_OfFix.bits1 (fun HT_ HW_ => ?_)
      generalize w8.drew = w9 at BK129 BK130 HB hHeld ⊢
      refine pure_ (i := 0) (N := some 5) (v := ?_) (a' := ?_) #[true, false, false, false, false, false, false, false] rfl rfl (any_of HT_.out (by kernel_rfl)) (fun _ _ _ h => h) (Or.inl ⟨by rfl, ?_⟩) ?_ ?_
      rotate_left
      · intro w'
        go_simp
        with_reducible rfl
      rotate_left
      · simp only [Act.put, List.setIfInBounds_toArray, List.set_cons_zero, List.set_cons_succ, i64_w, i32_w]
        rfl
      refine pure_ (i := 2) (N := some 7) (v := ?_) (a' := ?_) #[true, false, true, false, false, false, false, false] rfl rfl (any_of HT_.out (by kernel_rfl)) (fun _ _ _ h => h) (Or.inl ⟨by rfl, ?_⟩) ?_ ?_
      rotate_left
      · intro w'
        go_simp
        with_reducible rfl
      rotate_left
      · simp only [Act.put, List.setIfInBounds_toArray, List.set_cons_zero, List.set_cons_succ, i64_w, i32_w]
        rfl
      refine take_ (i := 1) (N := some 6) (v := ?_) (a' := ?_) #[true, true, true, false, false, false, false, false] rfl rfl (take_ofW HT_.out HW_.out (by kernel_rfl)) (fun _ _ _ h => h) (Or.inl ⟨by rfl, ?_⟩) hHeld ?_ ?_
      rotate_left
      · rintro w' ⟨s0, s1, s2⟩
        go_simp
        with_reducible rfl
      rotate_left
      · simp only [Act.put, List.setIfInBounds_toArray, List.set_cons_zero, List.set_cons_succ, i64_w, i32_w]
        rfl
      refine take_ (i := 3) (N := some 8) (v := ?_) (a' := ?_) #[true, true, true, true, false, false, false, false] rfl rfl (take_ofW HT_.out HW_.out (by kernel_rfl)) (fun _ _ _ h => h) (Or.inl ⟨by rfl, ?_⟩) hHeld ?_ ?_
      rotate_left
      · rintro w' ⟨s0, s1, s2⟩
        go_simp
        with_reducible rfl
      rotate_left
      · simp only [Act.put, List.setIfInBounds_toArray, List.set_cons_zero, List.set_cons_succ, i64_w, i32_w]
        rfl
      refine join_ (σ := Value × Value × Nat) 1 #[true, true, true, true, true, true, true, false] (fun s_ => [(9, s_.1), (10, .agg #[.bool t134, s_.2.1]), (4, .pointer (some ⟨s_.2.2, 0, none⟩))]) (fun s_ w' => (w'.cell? ⟨gb129, 0, none⟩ = some (.bool a0_0) ∧ w'.cell? ⟨gb129, 1, none⟩ = some (.int .u64 a0_1) ∧ w'.cell? ⟨gb129, 2, none⟩ = some (.int .i64 a0_2)) ∧ (Kd.R (Kd.int .u32) 59 w' w.heap.size (fun k_ => (w.heap.size ≤ k_)) s_.1 t131) ∧ (Kd.V (Kd.int .u32) 59 w' w.heap.size (fun k_ => (w.heap.size ≤ k_) ∧ k_ ≠ gb129 ∧ k_ ≠ gb130 ∧ k_ ≠ s_.2.2) s_.2.1 t135) ∧ (w'.heap[gb129]? = some (.cells #[.bool a0_0, .int .u64 a0_1, .int .i64 a0_2] 34 (0, 0))) ∧ (w'.heap[gb130]? = some (.cells #[.bool false, .slice none 0 0, .int .i64 0] 40 (0, 0))) ∧ (w'.heap[s_.2.2]? = some (.cells #[.bool false, .slice none 0 0] 38 (0, 0))) ∧ (w.heap.size ≤ s_.2.2) ∧ (w.heap.size ≤ s_.2.2) ∧ (gb129 ≠ s_.2.2) ∧ (s_.2.2 ≠ gb129) ∧ (gb130 ≠ s_.2.2) ∧ (s_.2.2 ≠ gb130) ∧ (Below w.heap.size w w')) ?_ ?_
      rotate_left
      · intro hCont
        refine two_ (i := 4) (j := 6) (Ni := some 9) (Nj := some 4) #[true, true, true, true, true, false, false, false] #[true, true, true, true, false, false, true, false] rfl rfl rfl rfl (two_of HT_.out (by kernel_rfl)) (by decide) (by decide) (fun K hK => ?_) (fun K hK => ?_)
        · skip
          refine goes_ Tryd.func13 (by kernel_rfl) rfl #[.int .u64 a0_1] (by rfl) rfl rfl (by (try simp only [List.map_toArray, List.map_cons, List.map_nil]); first | done | rfl | (simp only [List.length_drop, List.length_take]; rfl)) ?_
          with_reducible refine (spec_NatFrom.calls k a0_1 t131 _ A2.out).mono ?_
          rintro e w10 ⟨v132, rfl, ho0, hb⟩
          refine ⟨_, rfl, ?_⟩
          have n0_ := Aside0.mk (Kd.R_lower (Kd.R_newM (M := fun k_ => (w.heap.size ≤ k_)) ho0 (below_size (by repeat (first | (with_reducible first | exact HB.out | apply below_alloc | apply pw_below_drewN | apply below_drew1 | refine below_set ?_ GE129.out | refine below_set ?_ GE130.out) | exact HB.out))) (fun k_ h_ => h_)) (below_size (by repeat (first | (with_reducible first | exact HB.out | apply below_alloc | apply pw_below_drewN | apply below_drew1 | refine below_set ?_ GE129.out | refine below_set ?_ GE130.out) | exact HB.out))))
          have n1_ := Aside0.mk (blk_below (g := gb129) (o := .cells #[.bool a0_0, .int .u64 a0_1, .int .i64 a0_2] 34 (0, 0)) (by (with_reducible repeat (first | refine blk_drewN ?_ _ | refine blk_drew ?_ | refine blk_alloc ?_ _)); exact BK129.out) hb)
          have n2_ := Aside0.mk (blk_below (g := gb130) (o := .cells #[.bool false, .slice none 0 0, .int .i64 0] 40 (0, 0)) (by (with_reducible repeat (first | refine blk_drewN ?_ _ | refine blk_drew ?_ | refine blk_alloc ?_ _)); exact BK130.out) hb)
          have n3_ := Aside0.mk (below_step (by repeat (first | (with_reducible first | exact HB.out | apply below_alloc | apply pw_below_drewN | apply below_drew1 | refine below_set ?_ GE129.out | refine below_set ?_ GE130.out) | exact HB.out)) hb)
          clear BK129
          clear BK130
          clear HB
          have HO133 := n0_
          have BK129 := n1_
          have BK130 := n2_
          have HB := n3_
          clear n0_ n1_ n2_ n3_
          (try clear hb)
          (try clear hb2)
          (try clear hk)
          (try clear hi)
          (try clear ho0)
          obtain ⟨Ao11, co11, eo11⟩ := Kd.R_slice HO133.out
          (first | subst eo11 | (injection eo11 with f1_ f2_ f3_; have f4_ := f1_.symm; have f5_ := f3_.symm; clear f1_ f2_ f3_; subst f4_; subst f5_))
          refine hK.out _ _ ⟨(blk_cell BK129.out 0).trans rfl, (blk_cell BK129.out 1).trans rfl, (blk_cell BK129.out 2).trans rfl⟩ (fun hHeld => ?_)
          clear hK K
          refine norm_ (a' := ?_) ?_ ?_
          rotate_left
          · show Act.put _ (some 9) _ = _
            simp only [Act.put, List.setIfInBounds_toArray, List.set_cons_zero, List.set_cons_succ, i64_w, i32_w]
            rfl
          refine two_ (i := 5) (j := 6) (Ni := some 10) (Nj := some 4) #[true, true, true, true, true, true, false, false] #[true, true, true, true, true, false, true, false] rfl rfl rfl rfl (two_of HT_.out (by kernel_rfl)) (by decide) (by decide) (fun K hK => ?_) (fun K hK => ?_)
          · skip
            refine goes_ Tryd.func34 (by kernel_rfl) rfl #[.bool a0_0, .slice Ao11 t131.length co11] (by rfl) rfl rfl (by (try simp only [List.map_toArray, List.map_cons, List.map_nil]); first | done | rfl | (simp only [List.length_drop, List.length_take]; rfl)) ?_
            with_reducible refine (spec_wholeOf.calls a0_0 (fun k_ => some k_ = (.slice Ao11 t131.length co11 : Value).ownBlock) _ _ t131 t134 t135 _ ?side1 A3.out).mono ?_
            (case side1 => exact Kd.R_V (Kd.R_tight rfl (Kd.R_types (Kd.R_types (HO133.out) BK129.out (by decide)) BK130.out (by decide))))
            rintro e w12 ⟨v136, rfl, ho0, hb⟩
            refine ⟨_, rfl, ?_⟩
            have n0_ := Aside0.mk (Kd.R_below (by (with_reducible repeat (first | apply Kd.R_alloc | apply Kd.R_drewN | apply Kd.R_drew)); exact HO133.out) hb)
            have n1_ := Aside0.mk (Kd.V_lower (Kd.V_mono (ok' := fun k_ => (w.heap.size ≤ k_) ∧ k_ ≠ gb129 ∧ k_ ≠ gb130) ho0 (fun k_ hk_ => ⟨Or.elim hk_ (fun hs_ => ((Kd.R_types (Kd.R_types (HO133.out) BK129.out (by decide)) BK130.out (by decide)).1 k_ hs_.symm).1.1.1) (fun hn_ => (Nat.le_trans (below_size (by repeat (first | (with_reducible first | exact HB.out | apply below_alloc | apply pw_below_drewN | apply below_drew1 | refine below_set ?_ GE129.out | refine below_set ?_ GE130.out) | exact HB.out))) hn_)), Or.elim hk_ (fun hs_ => ((Kd.R_types (Kd.R_types (HO133.out) BK129.out (by decide)) BK130.out (by decide)).1 k_ hs_.symm).1.2) (fun hn_ => (Kd.freshB (g := gb129) (o := .cells #[.bool a0_0, .int .u64 a0_1, .int .i64 a0_2] 34 (0, 0)) (by (with_reducible repeat (first | refine blk_drewN ?_ _ | refine blk_drew ?_ | refine blk_alloc ?_ _)); exact BK129.out) k_ hn_)), Or.elim hk_ (fun hs_ => ((Kd.R_types (Kd.R_types (HO133.out) BK129.out (by decide)) BK130.out (by decide)).1 k_ hs_.symm).2) (fun hn_ => (Kd.freshB (g := gb130) (o := .cells #[.bool false, .slice none 0 0, .int .i64 0] 40 (0, 0)) (by (with_reducible repeat (first | refine blk_drewN ?_ _ | refine blk_drew ?_ | refine blk_alloc ?_ _)); exact BK130.out) k_ hn_))⟩)) (below_size (by repeat (first | (with_reducible first | exact HB.out | apply below_alloc | apply pw_below_drewN | apply below_drew1 | refine below_set ?_ GE129.out | refine below_set ?_ GE130.out) | exact HB.out))))
            have n2_ := Aside0.mk (blk_below (g := gb129) (o := .cells #[.bool a0_0, .int .u64 a0_1, .int .i64 a0_2] 34 (0, 0)) (by (with_reducible repeat (first | refine blk_drewN ?_ _ | refine blk_drew ?_ | refine blk_alloc ?_ _)); exact BK129.out) hb)
            have n3_ := Aside0.mk (blk_below (g := gb130) (o := .cells #[.bool false, .slice none 0 0, .int .i64 0] 40 (0, 0)) (by (with_reducible repeat (first | refine blk_drewN ?_ _ | refine blk_drew ?_ | refine blk_alloc ?_ _)); exact BK130.out) hb)
            have n4_ := Aside0.mk (below_step (by repeat (first | (with_reducible first | exact HB.out | apply below_alloc | apply pw_below_drewN | apply below_drew1 | refine below_set ?_ GE129.out | refine below_set ?_ GE130.out) | exact HB.out)) hb)
            clear HO133
            clear BK129
            clear BK130
            clear HB
            have HO133 := n0_
            have HO137 := n1_
            have BK129 := n2_
            have BK130 := n3_
            have HB := n4_
            clear n0_ n1_ n2_ n3_ n4_
            (try clear hb)
            (try clear hb2)
            (try clear hk)
            (try clear hi)
            (try clear ho0)
            refine hK.out _ _ ⟨(blk_cell BK129.out 0).trans rfl, (blk_cell BK129.out 1).trans rfl, (blk_cell BK129.out 2).trans rfl⟩ (fun hHeld => ?_)
            clear hK K
            refine norm_ (a' := ?_) ?_ ?_
            rotate_left
            · show Act.put _ (some 10) _ = _
              simp only [Act.put, List.setIfInBounds_toArray, List.set_cons_zero, List.set_cons_succ, i64_w, i32_w]
              rfl
            refine one_ (i := 6) (N := some 4) #[true, true, true, true, true, true, true, false] rfl rfl (one_of HT_.out (by kernel_rfl)) (by decide) (fun K hK => ?_)
            refine box_step ?hg (N := 4) ?hd (cs := #[.bool false, .slice none 0 0]) (t := 38) ?hr ?_; (case hd => rfl); (case hg => rfl); (case hr => first | (go_simp; done) | (go_simp; rfl))
            intro gb138 hg w13 hbox hb
            have n0_ := Aside0.mk (Kd.R_below (by (with_reducible repeat (first | apply Kd.R_alloc | apply Kd.R_drewN | apply Kd.R_drew)); exact HO133.out) hb)
            have n1_ := Aside0.mk (Kd.V_below (Kd.V_elderB (by (with_reducible repeat (first | apply Kd.V_alloc | apply Kd.V_drewN | apply Kd.V_drew)); exact HO137.out) gb138 (Nat.le_of_eq hg.symm)) hb)
            have n2_ := Aside0.mk (blk_below (g := gb129) (o := .cells #[.bool a0_0, .int .u64 a0_1, .int .i64 a0_2] 34 (0, 0)) (by (with_reducible repeat (first | refine blk_drewN ?_ _ | refine blk_drew ?_ | refine blk_alloc ?_ _)); exact BK129.out) hb)
            have n3_ := Aside0.mk (blk_below (g := gb130) (o := .cells #[.bool false, .slice none 0 0, .int .i64 0] 40 (0, 0)) (by (with_reducible repeat (first | refine blk_drewN ?_ _ | refine blk_drew ?_ | refine blk_alloc ?_ _)); exact BK130.out) hb)
            have n4_ := Aside0.mk (below_step (by repeat (first | (with_reducible first | exact HB.out | apply below_alloc | apply pw_below_drewN | apply below_drew1 | refine below_set ?_ GE129.out | refine below_set ?_ GE130.out) | exact HB.out)) hb)
            have n5_ := Aside0.mk (hbox)
            have n6_ := Aside0.mk ((by rw [hg]; exact (below_size (by repeat (first | (with_reducible first | exact HB.out | apply below_alloc | apply pw_below_drewN | apply below_drew1 | refine below_set ?_ GE129.out | refine below_set ?_ GE130.out) | exact HB.out))) : w.heap.size ≤ gb138))
            have n7_ := Aside0.mk ((by rw [hg]; exact (below_size (by repeat (first | (with_reducible first | exact HB.out | apply below_alloc | apply pw_below_drewN | apply below_drew1 | refine below_set ?_ GE129.out | refine below_set ?_ GE130.out) | exact HB.out))) : w.heap.size ≤ gb138))
            have n8_ := Aside0.mk ((by rw [hg]; exact Nat.ne_of_lt (blk_lt (g := gb129) (o := .cells #[.bool a0_0, .int .u64 a0_1, .int .i64 a0_2] 34 (0, 0)) (by (with_reducible repeat (first | refine blk_drewN ?_ _ | refine blk_drew ?_ | refine blk_alloc ?_ _)); exact BK129.out)) : gb129 ≠ gb138))
            have n9_ := Aside0.mk ((by rw [hg]; exact Nat.ne_of_gt (blk_lt (g := gb129) (o := .cells #[.bool a0_0, .int .u64 a0_1, .int .i64 a0_2] 34 (0, 0)) (by (with_reducible repeat (first | refine blk_drewN ?_ _ | refine blk_drew ?_ | refine blk_alloc ?_ _)); exact BK129.out)) : gb138 ≠ gb129))
            have n10_ := Aside0.mk ((by rw [hg]; exact Nat.ne_of_lt (blk_lt (g := gb130) (o := .cells #[.bool false, .slice none 0 0, .int .i64 0] 40 (0, 0)) (by (with_reducible repeat (first | refine blk_drewN ?_ _ | refine blk_drew ?_ | refine blk_alloc ?_ _)); exact BK130.out)) : gb130 ≠ gb138))
            have n11_ := Aside0.mk ((by rw [hg]; exact Nat.ne_of_gt (blk_lt (g := gb130) (o := .cells #[.bool false, .slice none 0 0, .int .i64 0] 40 (0, 0)) (by (with_reducible repeat (first | refine blk_drewN ?_ _ | refine blk_drew ?_ | refine blk_alloc ?_ _)); exact BK130.out)) : gb138 ≠ gb130))
            clear HO133
            clear HO137
            clear BK129
            clear BK130
            clear HB
            have HO133 := n0_
            have HO137 := n1_
            have BK129 := n2_
            have BK130 := n3_
            have HB := n4_
            have BK138 := n5_
            have GW138 := n6_
            have GE138 := n7_
            have NB129_138 := n8_
            have NB138_129 := n9_
            have NB130_138 := n10_
            have NB138_130 := n11_
            clear n0_ n1_ n2_ n3_ n4_ n5_ n6_ n7_ n8_ n9_ n10_ n11_
            clear hb hbox hg
            refine hK.out _ _ ⟨(blk_cell BK129.out 0).trans rfl, (blk_cell BK129.out 1).trans rfl, (blk_cell BK129.out 2).trans rfl⟩ (fun hHeld => ?_)
            clear hK K
            refine norm_ (a' := ?_) ?_ ?_
            rotate_left
            · show Act.put _ (some 4) _ = _
              simp only [Act.put, List.setIfInBounds_toArray, List.set_cons_zero, List.set_cons_succ, i64_w, i32_w]
              rfl
            exact norm_ (by simp only [putAll, Act.put, List.setIfInBounds_toArray, List.set_cons_zero, List.set_cons_succ]) (hCont (.slice Ao11 t131.length co11, v136, gb138) _ ⟨hHeld, (by (with_reducible repeat (first | apply Kd.R_alloc | apply Kd.R_drewN | apply Kd.R_drew)); exact Kd.R_mono HO133.out (fun _ hk => hk.1)), (by (with_reducible repeat (first | apply Kd.V_alloc | apply Kd.V_drewN | apply Kd.V_drew)); exact Kd.V_mono HO137.out (fun _ hk => ⟨hk.1.1, ⟨hk.1.2.1, ⟨hk.1.2.2, hk.2⟩⟩⟩)), (by (with_reducible repeat (first | refine blk_drewN ?_ _ | refine blk_drew ?_ | refine blk_alloc ?_ _)); exact BK129.out), (by (with_reducible repeat (first | refine blk_drewN ?_ _ | refine blk_drew ?_ | refine blk_alloc ?_ _)); exact BK130.out), (by (with_reducible repeat (first | refine blk_drewN ?_ _ | refine blk_drew ?_ | refine blk_alloc ?_ _)); exact BK138.out), GW138.out, GE138.out, NB129_138.out, NB138_129.out, NB130_138.out, NB138_130.out, (by repeat (first | (with_reducible first | exact HB.out | apply below_alloc | apply pw_below_drewN | apply below_drew1 | refine below_set ?_ GE129.out | refine below_set ?_ GE130.out | refine below_set ?_ GE138.out) | exact HB.out))⟩)
          · skip
            refine box_step ?hg (N := 4) ?hd (cs := #[.bool false, .slice none 0 0]) (t := 38) ?hr ?_; (case hd => rfl); (case hg => rfl); (case hr => first | (go_simp; done) | (go_simp; rfl))
            intro gb138 hg w11 hbox hb
            have n0_ := Aside0.mk (Kd.R_below (by (with_reducible repeat (first | apply Kd.R_alloc | apply Kd.R_drewN | apply Kd.R_drew)); exact HO133.out) hb)
            have n1_ := Aside0.mk (blk_below (g := gb129) (o := .cells #[.bool a0_0, .int .u64 a0_1, .int .i64 a0_2] 34 (0, 0)) (by (with_reducible repeat (first | refine blk_drewN ?_ _ | refine blk_drew ?_ | refine blk_alloc ?_ _)); exact BK129.out) hb)
            have n2_ := Aside0.mk (blk_below (g := gb130) (o := .cells #[.bool false, .slice none 0 0, .int .i64 0] 40 (0, 0)) (by (with_reducible repeat (first | refine blk_drewN ?_ _ | refine blk_drew ?_ | refine blk_alloc ?_ _)); exact BK130.out) hb)
            have n3_ := Aside0.mk (below_step (by repeat (first | (with_reducible first | exact HB.out | apply below_alloc | apply pw_below_drewN | apply below_drew1 | refine below_set ?_ GE129.out | refine below_set ?_ GE130.out) | exact HB.out)) hb)
            have n4_ := Aside0.mk (hbox)
            have n5_ := Aside0.mk ((by rw [hg]; exact (below_size (by repeat (first | (with_reducible first | exact HB.out | apply below_alloc | apply pw_below_drewN | apply below_drew1 | refine below_set ?_ GE129.out | refine below_set ?_ GE130.out) | exact HB.out))) : w.heap.size ≤ gb138))
            have n6_ := Aside0.mk ((by rw [hg]; exact (below_size (by repeat (first | (with_reducible first | exact HB.out | apply below_alloc | apply pw_below_drewN | apply below_drew1 | refine below_set ?_ GE129.out | refine below_set ?_ GE130.out) | exact HB.out))) : w.heap.size ≤ gb138))
            have n7_ := Aside0.mk ((by rw [hg]; exact Nat.ne_of_lt (blk_lt (g := gb129) (o := .cells #[.bool a0_0, .int .u64 a0_1, .int .i64 a0_2] 34 (0, 0)) (by (with_reducible repeat (first | refine blk_drewN ?_ _ | refine blk_drew ?_ | refine blk_alloc ?_ _)); exact BK129.out)) : gb129 ≠ gb138))
            have n8_ := Aside0.mk ((by rw [hg]; exact Nat.ne_of_gt (blk_lt (g := gb129) (o := .cells #[.bool a0_0, .int .u64 a0_1, .int .i64 a0_2] 34 (0, 0)) (by (with_reducible repeat (first | refine blk_drewN ?_ _ | refine blk_drew ?_ | refine blk_alloc ?_ _)); exact BK129.out)) : gb138 ≠ gb129))
            have n9_ := Aside0.mk ((by rw [hg]; exact Nat.ne_of_lt (blk_lt (g := gb130) (o := .cells #[.bool false, .slice none 0 0, .int .i64 0] 40 (0, 0)) (by (with_reducible repeat (first | refine blk_drewN ?_ _ | refine blk_drew ?_ | refine blk_alloc ?_ _)); exact BK130.out)) : gb130 ≠ gb138))
            have n10_ := Aside0.mk ((by rw [hg]; exact Nat.ne_of_gt (blk_lt (g := gb130) (o := .cells #[.bool false, .slice none 0 0, .int .i64 0] 40 (0, 0)) (by (with_reducible repeat (first | refine blk_drewN ?_ _ | refine blk_drew ?_ | refine blk_alloc ?_ _)); exact BK130.out)) : gb138 ≠ gb130))
            clear HO133
            clear BK129
            clear BK130
            clear HB
            have HO133 := n0_
            have BK129 := n1_
            have BK130 := n2_
            have HB := n3_
            have BK138 := n4_
            have GW138 := n5_
            have GE138 := n6_
            have NB129_138 := n7_
            have NB138_129 := n8_
            have NB130_138 := n9_
            have NB138_130 := n10_
            clear n0_ n1_ n2_ n3_ n4_ n5_ n6_ n7_ n8_ n9_ n10_
            clear hb hbox hg
            obtain ⟨Ao12, co12, eo12⟩ := Kd.R_slice HO133.out
            (first | subst eo12 | (injection eo12 with f1_ f2_ f3_; have f4_ := f1_.symm; have f5_ := f3_.symm; clear f1_ f2_ f3_; subst f4_; subst f5_))
            refine hK.out _ _ ⟨(blk_cell BK129.out 0).trans rfl, (blk_cell BK129.out 1).trans rfl, (blk_cell BK129.out 2).trans rfl⟩ (fun hHeld => ?_)
            clear hK K
            refine norm_ (a' := ?_) ?_ ?_
            rotate_left
            · show Act.put _ (some 4) _ = _
              simp only [Act.put, List.setIfInBounds_toArray, List.set_cons_zero, List.set_cons_succ, i64_w, i32_w]
              rfl
            refine one_ (i := 5) (N := some 10) #[true, true, true, true, true, true, true, false] rfl rfl (one_of HT_.out (by kernel_rfl)) (by decide) (fun K hK => ?_)
            refine goes_ Tryd.func34 (by kernel_rfl) rfl #[.bool a0_0, .slice Ao12 t131.length co12] (by rfl) rfl rfl (by (try simp only [List.map_toArray, List.map_cons, List.map_nil]); first | done | rfl | (simp only [List.length_drop, List.length_take]; rfl)) ?_
            with_reducible refine (spec_wholeOf.calls a0_0 (fun k_ => some k_ = (.slice Ao12 t131.length co12 : Value).ownBlock) _ _ t131 t134 t135 _ ?side1 A3.out).mono ?_
            (case side1 => exact Kd.R_V (Kd.R_tight rfl (Kd.R_types (Kd.R_types (Kd.R_types (HO133.out) BK129.out (by decide)) BK130.out (by decide)) BK138.out (by decide))))
            rintro e w13 ⟨v136, rfl, ho0, hb⟩
            refine ⟨_, rfl, ?_⟩
            have n0_ := Aside0.mk (Kd.R_below (by (with_reducible repeat (first | apply Kd.R_alloc | apply Kd.R_drewN | apply Kd.R_drew)); exact HO133.out) hb)
            have n1_ := Aside0.mk (Kd.V_lower (Kd.V_mono (ok' := fun k_ => (w.heap.size ≤ k_) ∧ k_ ≠ gb129 ∧ k_ ≠ gb130 ∧ k_ ≠ gb138) ho0 (fun k_ hk_ => ⟨Or.elim hk_ (fun hs_ => ((Kd.R_types (Kd.R_types (Kd.R_types (HO133.out) BK129.out (by decide)) BK130.out (by decide)) BK138.out (by decide)).1 k_ hs_.symm).1.1.1.1) (fun hn_ => (Nat.le_trans (below_size (by repeat (first | (with_reducible first | exact HB.out | apply below_alloc | apply pw_below_drewN | apply below_drew1 | refine below_set ?_ GE129.out | refine below_set ?_ GE130.out | refine below_set ?_ GE138.out) | exact HB.out))) hn_)), Or.elim hk_ (fun hs_ => ((Kd.R_types (Kd.R_types (Kd.R_types (HO133.out) BK129.out (by decide)) BK130.out (by decide)) BK138.out (by decide)).1 k_ hs_.symm).1.1.2) (fun hn_ => (Kd.freshB (g := gb129) (o := .cells #[.bool a0_0, .int .u64 a0_1, .int .i64 a0_2] 34 (0, 0)) (by (with_reducible repeat (first | refine blk_drewN ?_ _ | refine blk_drew ?_ | refine blk_alloc ?_ _)); exact BK129.out) k_ hn_)), Or.elim hk_ (fun hs_ => ((Kd.R_types (Kd.R_types (Kd.R_types (HO133.out) BK129.out (by decide)) BK130.out (by decide)) BK138.out (by decide)).1 k_ hs_.symm).1.2) (fun hn_ => (Kd.freshB (g := gb130) (o := .cells #[.bool false, .slice none 0 0, .int .i64 0] 40 (0, 0)) (by (with_reducible repeat (first | refine blk_drewN ?_ _ | refine blk_drew ?_ | refine blk_alloc ?_ _)); exact BK130.out) k_ hn_)), Or.elim hk_ (fun hs_ => ((Kd.R_types (Kd.R_types (Kd.R_types (HO133.out) BK129.out (by decide)) BK130.out (by decide)) BK138.out (by decide)).1 k_ hs_.symm).2) (fun hn_ => (Kd.freshB (g := gb138) (o := .cells #[.bool false, .slice none 0 0] 38 (0, 0)) (by (with_reducible repeat (first | refine blk_drewN ?_ _ | refine blk_drew ?_ | refine blk_alloc ?_ _)); exact BK138.out) k_ hn_))⟩)) (below_size (by repeat (first | (with_reducible first | exact HB.out | apply below_alloc | apply pw_below_drewN | apply below_drew1 | refine below_set ?_ GE129.out | refine below_set ?_ GE130.out | refine below_set ?_ GE138.out) | exact HB.out))))
            have n2_ := Aside0.mk (blk_below (g := gb129) (o := .cells #[.bool a0_0, .int .u64 a0_1, .int .i64 a0_2] 34 (0, 0)) (by (with_reducible repeat (first | refine blk_drewN ?_ _ | refine blk_drew ?_ | refine blk_alloc ?_ _)); exact BK129.out) hb)
            have n3_ := Aside0.mk (blk_below (g := gb130) (o := .cells #[.bool false, .slice none 0 0, .int .i64 0] 40 (0, 0)) (by (with_reducible repeat (first | refine blk_drewN ?_ _ | refine blk_drew ?_ | refine blk_alloc ?_ _)); exact BK130.out) hb)
            have n4_ := Aside0.mk (blk_below (g := gb138) (o := .cells #[.bool false, .slice none 0 0] 38 (0, 0)) (by (with_reducible repeat (first | refine blk_drewN ?_ _ | refine blk_drew ?_ | refine blk_alloc ?_ _)); exact BK138.out) hb)
            have n5_ := Aside0.mk (below_step (by repeat (first | (with_reducible first | exact HB.out | apply below_alloc | apply pw_below_drewN | apply below_drew1 | refine below_set ?_ GE129.out | refine below_set ?_ GE130.out | refine below_set ?_ GE138.out) | exact HB.out)) hb)
            clear HO133
            clear BK129
            clear BK130
            clear BK138
            clear HB
            have HO133 := n0_
            have HO137 := n1_
            have BK129 := n2_
            have BK130 := n3_
            have BK138 := n4_
            have HB := n5_
            clear n0_ n1_ n2_ n3_ n4_ n5_
            (try clear hb)
            (try clear hb2)
            (try clear hk)
            (try clear hi)
            (try clear ho0)
            refine hK.out _ _ ⟨(blk_cell BK129.out 0).trans rfl, (blk_cell BK129.out 1).trans rfl, (blk_cell BK129.out 2).trans rfl⟩ (fun hHeld => ?_)
            clear hK K
            refine norm_ (a' := ?_) ?_ ?_
            rotate_left
            · show Act.put _ (some 10) _ = _
              simp only [Act.put, List.setIfInBounds_toArray, List.set_cons_zero, List.set_cons_succ, i64_w, i32_w]
              rfl
            exact norm_ (by simp only [putAll, Act.put, List.setIfInBounds_toArray, List.set_cons_zero, List.set_cons_succ]) (hCont (.slice Ao12 t131.length co12, v136, gb138) _ ⟨hHeld, (by (with_reducible repeat (first | apply Kd.R_alloc | apply Kd.R_drewN | apply Kd.R_drew)); exact Kd.R_mono HO133.out (fun _ hk => hk.1)), (by (with_reducible repeat (first | apply Kd.V_alloc | apply Kd.V_drewN | apply Kd.V_drew)); exact HO137.out), (by (with_reducible repeat (first | refine blk_drewN ?_ _ | refine blk_drew ?_ | refine blk_alloc ?_ _)); exact BK129.out), (by (with_reducible repeat (first | refine blk_drewN ?_ _ | refine blk_drew ?_ | refine blk_alloc ?_ _)); exact BK130.out), (by (with_reducible repeat (first | refine blk_drewN ?_ _ | refine blk_drew ?_ | refine blk_alloc ?_ _)); exact BK138.out), GW138.out, GE138.out, NB129_138.out, NB138_129.out, NB130_138.out, NB138_130.out, (by repeat (first | (with_reducible first | exact HB.out | apply below_alloc | apply pw_below_drewN | apply below_drew1 | refine below_set ?_ GE129.out | refine below_set ?_ GE130.out | refine below_set ?_ GE138.out) | exact HB.out))⟩)
        · skip
          refine box_step ?hg (N := 4) ?hd (cs := #[.bool false, .slice none 0 0]) (t := 38) ?hr ?_; (case hd => rfl); (case hg => rfl); (case hr => first | (go_simp; done) | (go_simp; rfl))
          intro gb138 hg w10 hbox hb
          have n0_ := Aside0.mk (blk_below (g := gb129) (o := .cells #[.bool a0_0, .int .u64 a0_1, .int .i64 a0_2] 34 (0, 0)) (by (with_reducible repeat (first | refine blk_drewN ?_ _ | refine blk_drew ?_ | refine blk_alloc ?_ _)); exact BK129.out) hb)
          have n1_ := Aside0.mk (blk_below (g := gb130) (o := .cells #[.bool false, .slice none 0 0, .int .i64 0] 40 (0, 0)) (by (with_reducible repeat (first | refine blk_drewN ?_ _ | refine blk_drew ?_ | refine blk_alloc ?_ _)); exact BK130.out) hb)
          have n2_ := Aside0.mk (below_step (by repeat (first | (with_reducible first | exact HB.out | apply below_alloc | apply pw_below_drewN | apply below_drew1 | refine below_set ?_ GE129.out | refine below_set ?_ GE130.out) | exact HB.out)) hb)
          have n3_ := Aside0.mk (hbox)
          have n4_ := Aside0.mk ((by rw [hg]; exact (below_size (by repeat (first | (with_reducible first | exact HB.out | apply below_alloc | apply pw_below_drewN | apply below_drew1 | refine below_set ?_ GE129.out | refine below_set ?_ GE130.out) | exact HB.out))) : w.heap.size ≤ gb138))
          have n5_ := Aside0.mk ((by rw [hg]; exact (below_size (by repeat (first | (with_reducible first | exact HB.out | apply below_alloc | apply pw_below_drewN | apply below_drew1 | refine below_set ?_ GE129.out | refine below_set ?_ GE130.out) | exact HB.out))) : w.heap.size ≤ gb138))
          have n6_ := Aside0.mk ((by rw [hg]; exact Nat.ne_of_lt (blk_lt (g := gb129) (o := .cells #[.bool a0_0, .int .u64 a0_1, .int .i64 a0_2] 34 (0, 0)) (by (with_reducible repeat (first | refine blk_drewN ?_ _ | refine blk_drew ?_ | refine blk_alloc ?_ _)); exact BK129.out)) : gb129 ≠ gb138))
          have n7_ := Aside0.mk ((by rw [hg]; exact Nat.ne_of_gt (blk_lt (g := gb129) (o := .cells #[.bool a0_0, .int .u64 a0_1, .int .i64 a0_2] 34 (0, 0)) (by (with_reducible repeat (first | refine blk_drewN ?_ _ | refine blk_drew ?_ | refine blk_alloc ?_ _)); exact BK129.out)) : gb138 ≠ gb129))
          have n8_ := Aside0.mk ((by rw [hg]; exact Nat.ne_of_lt (blk_lt (g := gb130) (o := .cells #[.bool false, .slice none 0 0, .int .i64 0] 40 (0, 0)) (by (with_reducible repeat (first | refine blk_drewN ?_ _ | refine blk_drew ?_ | refine blk_alloc ?_ _)); exact BK130.out)) : gb130 ≠ gb138))
          have n9_ := Aside0.mk ((by rw [hg]; exact Nat.ne_of_gt (blk_lt (g := gb130) (o := .cells #[.bool false, .slice none 0 0, .int .i64 0] 40 (0, 0)) (by (with_reducible repeat (first | refine blk_drewN ?_ _ | refine blk_drew ?_ | refine blk_alloc ?_ _)); exact BK130.out)) : gb138 ≠ gb130))
          clear BK129
          clear BK130
          clear HB
          have BK129 := n0_
          have BK130 := n1_
          have HB := n2_
          have BK138 := n3_
          have GW138 := n4_
          have GE138 := n5_
          have NB129_138 := n6_
          have NB138_129 := n7_
          have NB130_138 := n8_
          have NB138_130 := n9_
          clear n0_ n1_ n2_ n3_ n4_ n5_ n6_ n7_ n8_ n9_
          clear hb hbox hg
          refine hK.out _ _ ⟨(blk_cell BK129.out 0).trans rfl, (blk_cell BK129.out 1).trans rfl, (blk_cell BK129.out 2).trans rfl⟩ (fun hHeld => ?_)
          clear hK K
          refine norm_ (a' := ?_) ?_ ?_
          rotate_left
          · show Act.put _ (some 4) _ = _
            simp only [Act.put, List.setIfInBounds_toArray, List.set_cons_zero, List.set_cons_succ, i64_w, i32_w]
            rfl
          refine one_ (i := 4) (N := some 9) #[true, true, true, true, true, false, true, false] rfl rfl (one_of HT_.out (by kernel_rfl)) (by decide) (fun K hK => ?_)
          refine goes_ Tryd.func13 (by kernel_rfl) rfl #[.int .u64 a0_1] (by rfl) rfl rfl (by (try simp only [List.map_toArray, List.map_cons, List.map_nil]); first | done | rfl | (simp only [List.length_drop, List.length_take]; rfl)) ?_
          with_reducible refine (spec_NatFrom.calls k a0_1 t131 _ A2.out).mono ?_
          rintro e w11 ⟨v132, rfl, ho0, hb⟩
          refine ⟨_, rfl, ?_⟩
          have n0_ := Aside0.mk (Kd.R_lower (Kd.R_newM (M := fun k_ => (w.heap.size ≤ k_)) ho0 (below_size (by repeat (first | (with_reducible first | exact HB.out | apply below_alloc | apply pw_below_drewN | apply below_drew1 | refine below_set ?_ GE129.out | refine below_set ?_ GE130.out | refine below_set ?_ GE138.out) | exact HB.out))) (fun k_ h_ => h_)) (below_size (by repeat (first | (with_reducible first | exact HB.out | apply below_alloc | apply pw_below_drewN | apply below_drew1 | refine below_set ?_ GE129.out | refine below_set ?_ GE130.out | refine below_set ?_ GE138.out) | exact HB.out))))
          have n1_ := Aside0.mk (blk_below (g := gb129) (o := .cells #[.bool a0_0, .int .u64 a0_1, .int .i64 a0_2] 34 (0, 0)) (by (with_reducible repeat (first | refine blk_drewN ?_ _ | refine blk_drew ?_ | refine blk_alloc ?_ _)); exact BK129.out) hb)
          have n2_ := Aside0.mk (blk_below (g := gb130) (o := .cells #[.bool false, .slice none 0 0, .int .i64 0] 40 (0, 0)) (by (with_reducible repeat (first | refine blk_drewN ?_ _ | refine blk_drew ?_ | refine blk_alloc ?_ _)); exact BK130.out) hb)
          have n3_ := Aside0.mk (blk_below (g := gb138) (o := .cells #[.bool false, .slice none 0 0] 38 (0, 0)) (by (with_reducible repeat (first | refine blk_drewN ?_ _ | refine blk_drew ?_ | refine blk_alloc ?_ _)); exact BK138.out) hb)
          have n4_ := Aside0.mk (below_step (by repeat (first | (with_reducible first | exact HB.out | apply below_alloc | apply pw_below_drewN | apply below_drew1 | refine below_set ?_ GE129.out | refine below_set ?_ GE130.out | refine below_set ?_ GE138.out) | exact HB.out)) hb)
          clear BK129
          clear BK130
          clear BK138
          clear HB
          have HO133 := n0_
          have BK129 := n1_
          have BK130 := n2_
          have BK138 := n3_
          have HB := n4_
          clear n0_ n1_ n2_ n3_ n4_
          (try clear hb)
          (try clear hb2)
          (try clear hk)
          (try clear hi)
          (try clear ho0)
          obtain ⟨Ao12, co12, eo12⟩ := Kd.R_slice HO133.out
          (first | subst eo12 | (injection eo12 with f1_ f2_ f3_; have f4_ := f1_.symm; have f5_ := f3_.symm; clear f1_ f2_ f3_; subst f4_; subst f5_))
          refine hK.out _ _ ⟨(blk_cell BK129.out 0).trans rfl, (blk_cell BK129.out 1).trans rfl, (blk_cell BK129.out 2).trans rfl⟩ (fun hHeld => ?_)
          clear hK K
          refine norm_ (a' := ?_) ?_ ?_
          rotate_left
          · show Act.put _ (some 9) _ = _
            simp only [Act.put, List.setIfInBounds_toArray, List.set_cons_zero, List.set_cons_succ, i64_w, i32_w]
            rfl
          refine one_ (i := 5) (N := some 10) #[true, true, true, true, true, true, true, false] rfl rfl (one_of HT_.out (by kernel_rfl)) (by decide) (fun K hK => ?_)
          refine goes_ Tryd.func34 (by kernel_rfl) rfl #[.bool a0_0, .slice Ao12 t131.length co12] (by rfl) rfl rfl (by (try simp only [List.map_toArray, List.map_cons, List.map_nil]); first | done | rfl | (simp only [List.length_drop, List.length_take]; rfl)) ?_
          with_reducible refine (spec_wholeOf.calls a0_0 (fun k_ => some k_ = (.slice Ao12 t131.length co12 : Value).ownBlock) _ _ t131 t134 t135 _ ?side1 A3.out).mono ?_
          (case side1 => exact Kd.R_V (Kd.R_tight rfl (Kd.R_types (Kd.R_types (Kd.R_types (HO133.out) BK129.out (by decide)) BK130.out (by decide)) BK138.out (by decide))))
          rintro e w13 ⟨v136, rfl, ho0, hb⟩
          refine ⟨_, rfl, ?_⟩
          have n0_ := Aside0.mk (Kd.R_below (by (with_reducible repeat (first | apply Kd.R_alloc | apply Kd.R_drewN | apply Kd.R_drew)); exact HO133.out) hb)
          have n1_ := Aside0.mk (Kd.V_lower (Kd.V_mono (ok' := fun k_ => (w.heap.size ≤ k_) ∧ k_ ≠ gb129 ∧ k_ ≠ gb130 ∧ k_ ≠ gb138) ho0 (fun k_ hk_ => ⟨Or.elim hk_ (fun hs_ => ((Kd.R_types (Kd.R_types (Kd.R_types (HO133.out) BK129.out (by decide)) BK130.out (by decide)) BK138.out (by decide)).1 k_ hs_.symm).1.1.1.1) (fun hn_ => (Nat.le_trans (below_size (by repeat (first | (with_reducible first | exact HB.out | apply below_alloc | apply pw_below_drewN | apply below_drew1 | refine below_set ?_ GE129.out | refine below_set ?_ GE130.out | refine below_set ?_ GE138.out) | exact HB.out))) hn_)), Or.elim hk_ (fun hs_ => ((Kd.R_types (Kd.R_types (Kd.R_types (HO133.out) BK129.out (by decide)) BK130.out (by decide)) BK138.out (by decide)).1 k_ hs_.symm).1.1.2) (fun hn_ => (Kd.freshB (g := gb129) (o := .cells #[.bool a0_0, .int .u64 a0_1, .int .i64 a0_2] 34 (0, 0)) (by (with_reducible repeat (first | refine blk_drewN ?_ _ | refine blk_drew ?_ | refine blk_alloc ?_ _)); exact BK129.out) k_ hn_)), Or.elim hk_ (fun hs_ => ((Kd.R_types (Kd.R_types (Kd.R_types (HO133.out) BK129.out (by decide)) BK130.out (by decide)) BK138.out (by decide)).1 k_ hs_.symm).1.2) (fun hn_ => (Kd.freshB (g := gb130) (o := .cells #[.bool false, .slice none 0 0, .int .i64 0] 40 (0, 0)) (by (with_reducible repeat (first | refine blk_drewN ?_ _ | refine blk_drew ?_ | refine blk_alloc ?_ _)); exact BK130.out) k_ hn_)), Or.elim hk_ (fun hs_ => ((Kd.R_types (Kd.R_types (Kd.R_types (HO133.out) BK129.out (by decide)) BK130.out (by decide)) BK138.out (by decide)).1 k_ hs_.symm).2) (fun hn_ => (Kd.freshB (g := gb138) (o := .cells #[.bool false, .slice none 0 0] 38 (0, 0)) (by (with_reducible repeat (first | refine blk_drewN ?_ _ | refine blk_drew ?_ | refine blk_alloc ?_ _)); exact BK138.out) k_ hn_))⟩)) (below_size (by repeat (first | (with_reducible first | exact HB.out | apply below_alloc | apply pw_below_drewN | apply below_drew1 | refine below_set ?_ GE129.out | refine below_set ?_ GE130.out | refine below_set ?_ GE138.out) | exact HB.out))))
          have n2_ := Aside0.mk (blk_below (g := gb129) (o := .cells #[.bool a0_0, .int .u64 a0_1, .int .i64 a0_2] 34 (0, 0)) (by (with_reducible repeat (first | refine blk_drewN ?_ _ | refine blk_drew ?_ | refine blk_alloc ?_ _)); exact BK129.out) hb)
          have n3_ := Aside0.mk (blk_below (g := gb130) (o := .cells #[.bool false, .slice none 0 0, .int .i64 0] 40 (0, 0)) (by (with_reducible repeat (first | refine blk_drewN ?_ _ | refine blk_drew ?_ | refine blk_alloc ?_ _)); exact BK130.out) hb)
          have n4_ := Aside0.mk (blk_below (g := gb138) (o := .cells #[.bool false, .slice none 0 0] 38 (0, 0)) (by (with_reducible repeat (first | refine blk_drewN ?_ _ | refine blk_drew ?_ | refine blk_alloc ?_ _)); exact BK138.out) hb)
          have n5_ := Aside0.mk (below_step (by repeat (first | (with_reducible first | exact HB.out | apply below_alloc | apply pw_below_drewN | apply below_drew1 | refine below_set ?_ GE129.out | refine below_set ?_ GE130.out | refine below_set ?_ GE138.out) | exact HB.out)) hb)
          clear HO133
          clear BK129
          clear BK130
          clear BK138
          clear HB
          have HO133 := n0_
          have HO137 := n1_
          have BK129 := n2_
          have BK130 := n3_
          have BK138 := n4_
          have HB := n5_
          clear n0_ n1_ n2_ n3_ n4_ n5_
          (try clear hb)
          (try clear hb2)
          (try clear hk)
          (try clear hi)
          (try clear ho0)
          refine hK.out _ _ ⟨(blk_cell BK129.out 0).trans rfl, (blk_cell BK129.out 1).trans rfl, (blk_cell BK129.out 2).trans rfl⟩ (fun hHeld => ?_)
          clear hK K
          refine norm_ (a' := ?_) ?_ ?_
          rotate_left
          · show Act.put _ (some 10) _ = _
            simp only [Act.put, List.setIfInBounds_toArray, List.set_cons_zero, List.set_cons_succ, i64_w, i32_w]
            rfl
          exact norm_ (by simp only [putAll, Act.put, List.setIfInBounds_toArray, List.set_cons_zero, List.set_cons_succ]) (hCont (.slice Ao12 t131.length co12, v136, gb138) _ ⟨hHeld, (by (with_reducible repeat (first | apply Kd.R_alloc | apply Kd.R_drewN | apply Kd.R_drew)); exact Kd.R_mono HO133.out (fun _ hk => hk.1)), (by (with_reducible repeat (first | apply Kd.V_alloc | apply Kd.V_drewN | apply Kd.V_drew)); exact HO137.out), (by (with_reducible repeat (first | refine blk_drewN ?_ _ | refine blk_drew ?_ | refine blk_alloc ?_ _)); exact BK129.out), (by (with_reducible repeat (first | refine blk_drewN ?_ _ | refine blk_drew ?_ | refine blk_alloc ?_ _)); exact BK130.out), (by (with_reducible repeat (first | refine blk_drewN ?_ _ | refine blk_drew ?_ | refine blk_alloc ?_ _)); exact BK138.out), GW138.out, GE138.out, NB129_138.out, NB138_129.out, NB130_138.out, NB138_130.out, (by repeat (first | (with_reducible first | exact HB.out | apply below_alloc | apply pw_below_drewN | apply below_drew1 | refine below_set ?_ GE129.out | refine below_set ?_ GE130.out | refine below_set ?_ GE138.out) | exact HB.out))⟩)
      rintro ⟨v132, v136, gb138⟩ w14 ⟨hS_, h0_, h1_, h2_, h3_, h4_, h5_, h6_, h7_, h8_, h9_, h10_, h11_⟩
      have n0_ : Aside0 (Kd.R (Kd.int .u32) 59 w14 w.heap.size (fun k_ => (w.heap.size ≤ k_)) v132 t131) := ⟨h0_⟩
      have n1_ : Aside0 (Kd.V (Kd.int .u32) 59 w14 w.heap.size (fun k_ => (w.heap.size ≤ k_) ∧ k_ ≠ gb129 ∧ k_ ≠ gb130 ∧ k_ ≠ gb138) v136 t135) := ⟨h1_⟩
      have n2_ : Aside0 (w14.heap[gb129]? = some (.cells #[.bool a0_0, .int .u64 a0_1, .int .i64 a0_2] 34 (0, 0))) := ⟨h2_⟩
      have n3_ : Aside0 (w14.heap[gb130]? = some (.cells #[.bool false, .slice none 0 0, .int .i64 0] 40 (0, 0))) := ⟨h3_⟩
      have n4_ : Aside0 (w14.heap[gb138]? = some (.cells #[.bool false, .slice none 0 0] 38 (0, 0))) := ⟨h4_⟩
      have n5_ : Aside0 (w.heap.size ≤ gb138) := ⟨h5_⟩
      have n6_ : Aside0 (w.heap.size ≤ gb138) := ⟨h6_⟩
      have n7_ : Aside0 (gb129 ≠ gb138) := ⟨h7_⟩
      have n8_ : Aside0 (gb138 ≠ gb129) := ⟨h8_⟩
      have n9_ : Aside0 (gb130 ≠ gb138) := ⟨h9_⟩
      have n10_ : Aside0 (gb138 ≠ gb130) := ⟨h10_⟩
      have n11_ : Aside0 (Below w.heap.size w w14) := ⟨h11_⟩
      clear BK129
      clear BK130
      clear HB
      clear h0_ h1_ h2_ h3_ h4_ h5_ h6_ h7_ h8_ h9_ h10_ h11_
      have HO133 := n0_
      have HO137 := n1_
      have BK129 := n2_
      have BK130 := n3_
      have BK138 := n4_
      have GW138 := n5_
      have GE138 := n6_
      have NB129_138 := n7_
      have NB138_129 := n8_
      have NB130_138 := n9_
      have NB138_130 := n10_
      have HB := n11_
      clear n0_ n1_ n2_ n3_ n4_ n5_ n6_ n7_ n8_ n9_ n10_ n11_
      have hHeld : w14.cell? ⟨gb129, 0, none⟩ = some (.bool a0_0) ∧ w14.cell? ⟨gb129, 1, none⟩ = some (.int .u64 a0_1) ∧ w14.cell? ⟨gb129, 2, none⟩ = some (.int .i64 a0_2) := hS_
      obtain ⟨Ao16, co16, eo16⟩ := Kd.V_slice HO137.out
      (first | subst eo16 | (injection eo16 with f1_ f2_ f3_; have f4_ := f1_.symm; have f5_ := f3_.symm; clear f1_ f2_ f3_; subst f4_; subst f5_))
      refine norm_ (a' := ?_) ?_ ?_
      rotate_left
      · simp only [putAll, Act.put, List.setIfInBounds_toArray, List.set_cons_zero, List.set_cons_succ]
        rfl
      refine one_ (i := 7) (N := none) #[true, true, true, true, true, true, true, true] rfl rfl (one_of HT_.out (by kernel_rfl)) (by decide) (fun K hK => ?_)
      have hs15 : w14.cell? ⟨gb138, 0, none⟩ = some (.bool false) := (blk_cell BK138.out 0).trans rfl
      have hfs15 := blk_frozen BK138.out 0
      have hns15_0 := NB129_138.out
      have hns15_1 := NB130_138.out
      have hms15_0 := NB138_129.out
      have hms15_1 := NB138_130.out
      have hs17 : w14.cell? ⟨gb138, 1, none⟩ = some (.slice none 0 0) := (blk_cell BK138.out 1).trans rfl
      have hfs17 := blk_frozen BK138.out 1
      have hns17_0 := NB129_138.out
      have hns17_1 := NB130_138.out
      have hms17_0 := NB138_129.out
      have hms17_1 := NB138_130.out
      refine skip_ (w1 := ?_) (by rfl) rfl ?_ ?_
      rotate_left
      · go_simp
        rfl
      refine hK.out _ _ ⟨((cell_far (p := ⟨gb138, _, none⟩) NB129_138.out _).trans (((cell_far (p := ⟨gb138, _, none⟩) NB129_138.out _).trans (hHeld.1)))), ((cell_far (p := ⟨gb138, _, none⟩) NB129_138.out _).trans (((cell_far (p := ⟨gb138, _, none⟩) NB129_138.out _).trans (hHeld.2.1)))), ((cell_far (p := ⟨gb138, _, none⟩) NB129_138.out _).trans (((cell_far (p := ⟨gb138, _, none⟩) NB129_138.out _).trans (hHeld.2.2))))⟩ (fun hHeld => ?_)
      clear hK K
      refine done_ (done_of HT_.out (by kernel_rfl)) ?_
      try go_wp2
      have n0_ : Aside0 (Kd.R (Kd.int .u32) 59 ((w14.setCell ⟨gb138, 0, none⟩ (.bool t134)).setCell ⟨gb138, 1, none⟩ (.slice Ao16 t135.length co16)) w.heap.size (fun k_ => (w.heap.size ≤ k_)) v132 t131) := ⟨by (with_reducible repeat (first | apply Kd.R_alloc | apply Kd.R_drewN | apply Kd.R_drew)); exact Kd.R_mono (Kd.R_far (p := ⟨gb138, 1, none⟩) (Kd.R_far (p := ⟨gb138, 0, none⟩) (Kd.R_types HO133.out BK138.out (by decide)) (fun _ hk => hk.2) (.bool t134)) (fun _ hk => hk.2) (.slice Ao16 t135.length co16)) (fun _ hk => hk.1)⟩
      have n1_ : Aside0 (Kd.V (Kd.int .u32) 59 ((w14.setCell ⟨gb138, 0, none⟩ (.bool t134)).setCell ⟨gb138, 1, none⟩ (.slice Ao16 t135.length co16)) w.heap.size (fun k_ => (w.heap.size ≤ k_) ∧ k_ ≠ gb129 ∧ k_ ≠ gb130 ∧ k_ ≠ gb138) (.slice Ao16 t135.length co16) t135) := ⟨by (with_reducible repeat (first | apply Kd.V_alloc | apply Kd.V_drewN | apply Kd.V_drew)); exact Kd.V_mono (Kd.V_far (p := ⟨gb138, 1, none⟩) (Kd.V_far (p := ⟨gb138, 0, none⟩) (Kd.V_mono HO137.out (fun k_ hk => (⟨hk, hk.2.2.2⟩ : _ ∧ k_ ≠ gb138))) (fun _ hk => hk.2) (.bool t134)) (fun _ hk => hk.2) (.slice Ao16 t135.length co16)) (fun _ hk => ⟨hk.1.1, ⟨hk.1.2.1, ⟨hk.1.2.2.1, hk.1.2.2.2⟩⟩⟩)⟩
      have n2_ : Aside0 (((w14.setCell ⟨gb138, 0, none⟩ (.bool t134)).setCell ⟨gb138, 1, none⟩ (.slice Ao16 t135.length co16)).heap[gb129]? = some (.cells #[.bool a0_0, .int .u64 a0_1, .int .i64 a0_2] 34 (0, 0))) := ⟨by (with_reducible repeat (first | refine blk_drewN ?_ _ | refine blk_drew ?_ | refine blk_alloc ?_ _)); refine blk_far ?_ NB129_138.out _; (with_reducible repeat (first | refine blk_drewN ?_ _ | refine blk_drew ?_ | refine blk_alloc ?_ _)); refine blk_far ?_ NB129_138.out _; (with_reducible repeat (first | refine blk_drewN ?_ _ | refine blk_drew ?_ | refine blk_alloc ?_ _)); exact BK129.out⟩
      have n3_ : Aside0 (((w14.setCell ⟨gb138, 0, none⟩ (.bool t134)).setCell ⟨gb138, 1, none⟩ (.slice Ao16 t135.length co16)).heap[gb130]? = some (.cells #[.bool false, .slice none 0 0, .int .i64 0] 40 (0, 0))) := ⟨by (with_reducible repeat (first | refine blk_drewN ?_ _ | refine blk_drew ?_ | refine blk_alloc ?_ _)); refine blk_far ?_ NB130_138.out _; (with_reducible repeat (first | refine blk_drewN ?_ _ | refine blk_drew ?_ | refine blk_alloc ?_ _)); refine blk_far ?_ NB130_138.out _; (with_reducible repeat (first | refine blk_drewN ?_ _ | refine blk_drew ?_ | refine blk_alloc ?_ _)); exact BK130.out⟩
      have n4_ : Aside0 (((w14.setCell ⟨gb138, 0, none⟩ (.bool t134)).setCell ⟨gb138, 1, none⟩ (.slice Ao16 t135.length co16)).heap[gb138]? = some (.cells #[.bool t134, .slice Ao16 t135.length co16] 38 (0, 0))) := ⟨by (with_reducible repeat (first | refine blk_drewN ?_ _ | refine blk_drew ?_ | refine blk_alloc ?_ _)); refine blk_put (cs := #[.bool t134, .slice none 0 0]) ?_ 1 _ rfl; (with_reducible repeat (first | refine blk_drewN ?_ _ | refine blk_drew ?_ | refine blk_alloc ?_ _)); refine blk_put (cs := #[.bool false, .slice none 0 0]) ?_ 0 _ rfl; (with_reducible repeat (first | refine blk_drewN ?_ _ | refine blk_drew ?_ | refine blk_alloc ?_ _)); exact BK138.out⟩
      have n5_ : Aside0 (Below w.heap.size w ((w14.setCell ⟨gb138, 0, none⟩ (.bool t134)).setCell ⟨gb138, 1, none⟩ (.slice Ao16 t135.length co16))) := ⟨by repeat (first | (with_reducible first | exact HB.out | apply below_alloc | apply pw_below_drewN | apply below_drew1 | refine below_set ?_ GE129.out | refine below_set ?_ GE130.out | refine below_set ?_ GE138.out) | exact HB.out)⟩
      (try clear HO133)
      (try clear HO137)
      (try clear BK129)
      (try clear BK130)
      (try clear BK138)
      (try clear HB)
      generalize ((w14.setCell ⟨gb138, 0, none⟩ (.bool t134)).setCell ⟨gb138, 1, none⟩ (.slice Ao16 t135.length co16)) = w18 at n0_ n1_ n2_ n3_ n4_ n5_ ⊢
      have HO133 := n0_
      have HO137 := n1_
      have BK129 := n2_
      have BK130 := n3_
      have BK138 := n4_
      have HB := n5_
      clear n0_ n1_ n2_ n3_ n4_ n5_
      have n0_ := Aside0.mk (Kd.R_drew HO133.out)
      have n1_ := Aside0.mk (Kd.V_drew HO137.out)
      have n2_ := Aside0.mk (blk_drew BK129.out)
      have n3_ := Aside0.mk (blk_drew BK130.out)
      have n4_ := Aside0.mk (blk_drew BK138.out)
      have n5_ := Aside0.mk (below_drew1 HB.out)
      clear HO133
      clear HO137
      clear BK129
      clear BK130
      clear BK138
      clear HB
      have HO133 := n0_
      have HO137 := n1_
      have BK129 := n2_
      have BK130 := n3_
      have BK138 := n4_
      have HB := n5_
      clear n0_ n1_ n2_ n3_ n4_ n5_
      refine start_ (n := 21) (S := fun w' => w'.cell? ⟨gb138, 0, none⟩ = some (.bool t134) ∧ w'.cell? ⟨gb138, 1, none⟩ = some (.slice Ao16 t135.length co16) ∧ w'.cell? ⟨gb129, 0, none⟩ = some (.bool a0_0) ∧ w'.cell? ⟨gb129, 1, none⟩ = some (.int .u64 a0_1) ∧ w'.cell? ⟨gb129, 2, none⟩ = some (.int .i64 a0_2)) (ds := []) #[false, false, false, false, false, false, false, false, false, false, false, false, false, false, false, false, false, false, false, false, false] (by kernel_rfl) rfl rfl ⟨(blk_cell BK138.out 0).trans rfl, (blk_cell BK138.out 1).trans rfl, (blk_cell BK129.out 0).trans rfl, (blk_cell BK129.out 1).trans rfl, (blk_cell BK129.out 2).trans rfl⟩ (fun hHeld => ?_); refine with_tabW spec_OfFix.tab2 spec_OfFix.bits2 (fun HT_ HW_ => ?_)
      generalize w18.drew = w19 at HO133 HO137 BK129 BK130 BK138 HB hHeld ⊢
      refine pure_ (i := 1) (N := some 12) (v := ?_) (a' := ?_) #[false, true, false, false, false, false, false, false, false, false, false, false, false, false, false, false, false, false, false, false, false] rfl rfl (any_of HT_.out (by kernel_rfl)) (fun _ _ _ h => h) (Or.inl ⟨by rfl, ?_⟩) ?_ ?_
      rotate_left
      · intro w'
        go_simp
        with_reducible rfl
      rotate_left
      · simp only [Act.put, List.setIfInBounds_toArray, List.set_cons_zero, List.set_cons_succ, i64_w, i32_w]
        rfl
      refine pure_ (i := 5) (N := some 16) (v := ?_) (a' := ?_) #[false, true, false, false, false, true, false, false, false, false, false, false, false, false, false, false, false, false, false, false, false] rfl rfl (any_of HT_.out (by kernel_rfl)) (fun _ _ _ h => h) (Or.inl ⟨by rfl, ?_⟩) ?_ ?_
      rotate_left
      · intro w'
        go_simp
        with_reducible rfl
      rotate_left
      · simp only [Act.put, List.setIfInBounds_toArray, List.set_cons_zero, List.set_cons_succ, i64_w, i32_w]
        rfl
      refine take_ (i := 0) (N := some 11) (v := ?_) (a' := ?_) #[true, true, false, false, false, true, false, false, false, false, false, false, false, false, false, false, false, false, false, false, false] rfl rfl (take_ofW HT_.out HW_.out (by kernel_rfl)) (fun _ _ _ h => h) (Or.inl ⟨by rfl, ?_⟩) hHeld ?_ ?_
      rotate_left
      · rintro w' ⟨s0, s1, s2, s3, s4⟩
        go_simp
        with_reducible rfl
      rotate_left
      · simp only [Act.put, List.setIfInBounds_toArray, List.set_cons_zero, List.set_cons_succ, i64_w, i32_w]
        rfl
      refine take_ (i := 2) (N := some 13) (v := ?_) (a' := ?_) #[true, true, true, false, false, true, false, false, false, false, false, false, false, false, false, false, false, false, false, false, false] rfl rfl (take_ofW HT_.out HW_.out (by kernel_rfl)) (fun _ _ _ h => h) (Or.inl ⟨by rfl, ?_⟩) hHeld ?_ ?_
      rotate_left
      · rintro w' ⟨s0, s1, s2, s3, s4⟩
        go_simp
        with_reducible rfl
      rotate_left
      · simp only [Act.put, List.setIfInBounds_toArray, List.set_cons_zero, List.set_cons_succ, i64_w, i32_w]
        rfl
      refine pure_ (i := 3) (N := some 14) (v := ?_) (a' := ?_) #[true, true, true, true, false, true, false, false, false, false, false, false, false, false, false, false, false, false, false, false, false] rfl rfl (any_of HT_.out (by kernel_rfl)) (fun _ _ _ h => h) (Or.inl ⟨by rfl, ?_⟩) ?_ ?_
      rotate_left
      · intro w'
        go_simp
        with_reducible rfl
      rotate_left
      · simp only [Act.put, List.setIfInBounds_toArray, List.set_cons_zero, List.set_cons_succ, i64_w, i32_w]
        rfl
      refine pure_ (i := 4) (N := some 15) (v := ?_) (a' := ?_) #[true, true, true, true, true, true, false, false, false, false, false, false, false, false, false, false, false, false, false, false, false] rfl rfl (any_of HT_.out (by kernel_rfl)) (fun _ _ _ h => h) (Or.inl ⟨by rfl, ?_⟩) ?_ ?_
      rotate_left
      · intro w'
        go_simp
        with_reducible rfl
      rotate_left
      · simp only [Act.put, List.setIfInBounds_toArray, List.set_cons_zero, List.set_cons_succ, i64_w, i32_w]
        rfl
      refine take_ (i := 6) (N := some 17) (v := ?_) (a' := ?_) #[true, true, true, true, true, true, true, false, false, false, false, false, false, false, false, false, false, false, false, false, false] rfl rfl (take_ofW HT_.out HW_.out (by kernel_rfl)) (fun _ _ _ h => h) (Or.inl ⟨by rfl, ?_⟩) hHeld ?_ ?_
      rotate_left
      · rintro w' ⟨s0, s1, s2, s3, s4⟩
        go_simp
        with_reducible rfl
      rotate_left
      · simp only [Act.put, List.setIfInBounds_toArray, List.set_cons_zero, List.set_cons_succ, i64_w, i32_w]
        rfl
      refine one_ (i := 7) (N := some 18) #[true, true, true, true, true, true, true, true, false, false, false, false, false, false, false, false, false, false, false, false, false] rfl rfl (one_of HT_.out (by kernel_rfl)) (by decide) (fun K hK => ?_)
      refine goes_ Tryd.func29 (by kernel_rfl) rfl #[.slice Ao16 t135.length co16] (by rfl) rfl rfl (by (try simp only [List.map_toArray, List.map_cons, List.map_nil]); first | done | rfl | (simp only [List.length_drop, List.length_take]; rfl)) ?_
      with_reducible refine (spec_Nat_Digits.calls k _ _ t135 t139 _ ?side1 ?side2 A4.out).mono ?_
      (case side1 => repeat (first | exact (Kd.V_reads' HO137.out).2.2 | (with_reducible refine Kd.C_alloc ?_ _) | (with_reducible refine Kd.C_drewN ?_ _) | (with_reducible refine Kd.C_drew ?_)))
      (case side2 => exact (Kd.V_reads' HO137.out).2.1)
      rintro e w20 ⟨rfl, hb⟩
      refine ⟨_, rfl, ?_⟩
      have n0_ := Aside0.mk (Kd.R_below (by (with_reducible repeat (first | apply Kd.R_alloc | apply Kd.R_drewN | apply Kd.R_drew)); exact HO133.out) hb)
      have n1_ := Aside0.mk (Kd.V_below (by (with_reducible repeat (first | apply Kd.V_alloc | apply Kd.V_drewN | apply Kd.V_drew)); exact HO137.out) hb)
      have n2_ := Aside0.mk (blk_below (g := gb129) (o := .cells #[.bool a0_0, .int .u64 a0_1, .int .i64 a0_2] 34 (0, 0)) (by (with_reducible repeat (first | refine blk_drewN ?_ _ | refine blk_drew ?_ | refine blk_alloc ?_ _)); exact BK129.out) hb)
      have n3_ := Aside0.mk (blk_below (g := gb130) (o := .cells #[.bool false, .slice none 0 0, .int .i64 0] 40 (0, 0)) (by (with_reducible repeat (first | refine blk_drewN ?_ _ | refine blk_drew ?_ | refine blk_alloc ?_ _)); exact BK130.out) hb)
      have n4_ := Aside0.mk (blk_below (g := gb138) (o := .cells #[.bool t134, .slice Ao16 t135.length co16] 38 (0, 0)) (by (with_reducible repeat (first | refine blk_drewN ?_ _ | refine blk_drew ?_ | refine blk_alloc ?_ _)); exact BK138.out) hb)
      have n5_ := Aside0.mk (below_step (by repeat (first | (with_reducible first | exact HB.out | apply below_alloc | apply pw_below_drewN | apply below_drew1 | refine below_set ?_ GE129.out | refine below_set ?_ GE130.out | refine below_set ?_ GE138.out) | exact HB.out)) hb)
      clear HO133
      clear HO137
      clear BK129
      clear BK130
      clear BK138
      clear HB
      have HO133 := n0_
      have HO137 := n1_
      have BK129 := n2_
      have BK130 := n3_
      have BK138 := n4_
      have HB := n5_
      clear n0_ n1_ n2_ n3_ n4_ n5_
      (try clear hb)
      (try clear hb2)
      (try clear hk)
      (try clear hi)
      refine hK.out _ _ ⟨(blk_cell BK138.out 0).trans rfl, (blk_cell BK138.out 1).trans rfl, (blk_cell BK129.out 0).trans rfl, (blk_cell BK129.out 1).trans rfl, (blk_cell BK129.out 2).trans rfl⟩ (fun hHeld => ?_)
      clear hK K
      refine norm_ (a' := ?_) ?_ ?_
      rotate_left
      · show Act.put _ (some 18) _ = _
        simp only [Act.put, List.setIfInBounds_toArray, List.set_cons_zero, List.set_cons_succ, i64_w, i32_w]
        rfl
      refine pure_ (i := 8) (N := some 19) (v := ?_) (a' := ?_) #[true, true, true, true, true, true, true, true, true, false, false, false, false, false, false, false, false, false, false, false, false] rfl rfl (any_of HT_.out (by kernel_rfl)) (fun _ _ _ h => h) (Or.inl ⟨by rfl, ?_⟩) ?_ ?_
      rotate_left
      · intro w'
        go_simp
        with_reducible rfl
      rotate_left
      · simp only [Act.put, List.setIfInBounds_toArray, List.set_cons_zero, List.set_cons_succ, i64_w, i32_w]
        rfl
      refine pure_ (i := 9) (N := some 20) (v := ?_) (a' := ?_) #[true, true, true, true, true, true, true, true, true, true, false, false, false, false, false, false, false, false, false, false, false] rfl rfl (any_of HT_.out (by kernel_rfl)) (fun _ _ _ h => h) (Or.inl ⟨by rfl, ?_⟩) ?_ ?_
      rotate_left
      · intro w'
        go_simp
        with_reducible rfl
      rotate_left
      · simp only [Act.put, List.setIfInBounds_toArray, List.set_cons_zero, List.set_cons_succ, i64_w, i32_w]
        rfl
      refine pure_ (i := 10) (N := some 21) (v := ?_) (a' := ?_) #[true, true, true, true, true, true, true, true, true, true, true, false, false, false, false, false, false, false, false, false, false] rfl rfl (any_of HT_.out (by kernel_rfl)) (fun _ _ _ h => h) (Or.inl ⟨by rfl, ?_⟩) ?_ ?_
      rotate_left
      · intro w'
        go_simp
        with_reducible rfl
      rotate_left
      · simp only [Act.put, List.setIfInBounds_toArray, List.set_cons_zero, List.set_cons_succ, i64_w, i32_w]
        rfl
      refine take_ (i := 11) (N := some 22) (v := ?_) (a' := ?_) #[true, true, true, true, true, true, true, true, true, true, true, true, false, false, false, false, false, false, false, false, false] rfl rfl (take_ofW HT_.out HW_.out (by kernel_rfl)) (fun _ _ _ h => h) (Or.inl ⟨by rfl, ?_⟩) hHeld ?_ ?_
      rotate_left
      · rintro w' ⟨s0, s1, s2, s3, s4⟩
        go_simp
        with_reducible rfl
      rotate_left
      · simp only [Act.put, List.setIfInBounds_toArray, List.set_cons_zero, List.set_cons_succ, i64_w, i32_w]
        rfl
      refine pure_ (i := 12) (N := some 23) (v := ?_) (a' := ?_) #[true, true, true, true, true, true, true, true, true, true, true, true, true, false, false, false, false, false, false, false, false] rfl rfl (any_of HT_.out (by kernel_rfl)) (fun _ _ _ h => h) (Or.inl ⟨by rfl, ?_⟩) ?_ ?_
      rotate_left
      · intro w'
        go_simp
        with_reducible rfl
      rotate_left
      · simp only [Act.put, List.setIfInBounds_toArray, List.set_cons_zero, List.set_cons_succ, i64_w, i32_w]
        rfl
      refine pure_ (i := 13) (N := some 24) (v := ?_) (a' := ?_) #[true, true, true, true, true, true, true, true, true, true, true, true, true, true, false, false, false, false, false, false, false] rfl rfl (any_of HT_.out (by kernel_rfl)) (fun _ _ _ h => h) (Or.inl ⟨by rfl, ?_⟩) ?_ ?_
      rotate_left
      · intro w'
        go_simp
        with_reducible rfl
      rotate_left
      · simp only [Act.put, List.setIfInBounds_toArray, List.set_cons_zero, List.set_cons_succ, i64_w, i32_w]
        rfl
      refine pure_ (i := 14) (N := some 25) (v := ?_) (a' := ?_) #[true, true, true, true, true, true, true, true, true, true, true, true, true, true, true, false, false, false, false, false, false] rfl rfl (any_of HT_.out (by kernel_rfl)) (fun _ _ _ h => h) (Or.inl ⟨by rfl, ?_⟩) ?_ ?_
      rotate_left
      · intro w'
        go_simp
        with_reducible rfl
      rotate_left
      · simp only [Act.put, List.setIfInBounds_toArray, List.set_cons_zero, List.set_cons_succ, i64_w, i32_w]
        rfl
      refine pure_ (i := 15) (N := some 26) (v := ?_) (a' := ?_) #[true, true, true, true, true, true, true, true, true, true, true, true, true, true, true, true, false, false, false, false, false] rfl rfl (any_of HT_.out (by kernel_rfl)) (fun _ _ _ h => h) (Or.inl ⟨by rfl, ?_⟩) ?_ ?_
      rotate_left
      · intro w'
        go_simp
        with_reducible rfl
      rotate_left
      · simp only [Act.put, List.setIfInBounds_toArray, List.set_cons_zero, List.set_cons_succ, i64_w, i32_w]
        rfl
      refine take_ (i := 16) (N := some 27) (v := ?_) (a' := ?_) #[true, true, true, true, true, true, true, true, true, true, true, true, true, true, true, true, true, false, false, false, false] rfl rfl (take_ofW HT_.out HW_.out (by kernel_rfl)) (fun _ _ _ h => h) (Or.inl ⟨by rfl, ?_⟩) hHeld ?_ ?_
      rotate_left
      · rintro w' ⟨s0, s1, s2, s3, s4⟩
        go_simp
        with_reducible rfl
      rotate_left
      · simp only [Act.put, List.setIfInBounds_toArray, List.set_cons_zero, List.set_cons_succ, i64_w, i32_w]
        rfl
      refine pure_ (i := 17) (N := some 28) (v := ?_) (a' := ?_) #[true, true, true, true, true, true, true, true, true, true, true, true, true, true, true, true, true, true, false, false, false] rfl rfl (any_of HT_.out (by kernel_rfl)) (fun _ _ _ h => h) (Or.inl ⟨by rfl, ?_⟩) ?_ ?_
      rotate_left
      · intro w'
        go_simp
        with_reducible rfl
      rotate_left
      · simp only [Act.put, List.setIfInBounds_toArray, List.set_cons_zero, List.set_cons_succ, i64_w, i32_w]
        rfl
      refine pure_ (i := 18) (N := some 29) (v := ?_) (a' := ?_) #[true, true, true, true, true, true, true, true, true, true, true, true, true, true, true, true, true, true, true, false, false] rfl rfl (any_of HT_.out (by kernel_rfl)) (fun _ _ _ h => h) (Or.inl ⟨by rfl, ?_⟩) ?_ ?_
      rotate_left
      · intro w'
        go_simp
        with_reducible rfl
      rotate_left
      · simp only [Act.put, List.setIfInBounds_toArray, List.set_cons_zero, List.set_cons_succ, i64_w, i32_w]
        rfl
      refine one_ (i := 19) (N := none) #[true, true, true, true, true, true, true, true, true, true, true, true, true, true, true, true, true, true, true, true, false] rfl rfl (one_of HT_.out (by kernel_rfl)) (by decide) (fun K hK => ?_)
      have hs21 : w20.cell? ⟨gb130, 0, none⟩ = some (.bool false) := (blk_cell BK130.out 0).trans rfl
      have hfs21 := blk_frozen BK130.out 0
      have hns21_0 := NB129_130.out
      have hns21_2 := NB138_130.out
      have hms21_0 := NB130_129.out
      have hms21_2 := NB130_138.out
      have hs22 : w20.cell? ⟨gb130, 1, none⟩ = some (.slice none 0 0) := (blk_cell BK130.out 1).trans rfl
      have hfs22 := blk_frozen BK130.out 1
      have hns22_0 := NB129_130.out
      have hns22_2 := NB138_130.out
      have hms22_0 := NB130_129.out
      have hms22_2 := NB130_138.out
      have hs23 : w20.cell? ⟨gb130, 2, none⟩ = some (.int .i64 0) := (blk_cell BK130.out 2).trans rfl
      have hfs23 := blk_frozen BK130.out 2
      have hns23_0 := NB129_130.out
      have hns23_2 := NB138_130.out
      have hms23_0 := NB130_129.out
      have hms23_2 := NB130_138.out
      refine skip_ (w1 := ?_) (by rfl) rfl ?_ ?_
      rotate_left
      · go_simp
        rfl
      refine hK.out _ _ ⟨((cell_far (p := ⟨gb130, _, none⟩) NB138_130.out _).trans (((cell_far (p := ⟨gb130, _, none⟩) NB138_130.out _).trans (((cell_far (p := ⟨gb130, _, none⟩) NB138_130.out _).trans (hHeld.1)))))), ((cell_far (p := ⟨gb130, _, none⟩) NB138_130.out _).trans (((cell_far (p := ⟨gb130, _, none⟩) NB138_130.out _).trans (((cell_far (p := ⟨gb130, _, none⟩) NB138_130.out _).trans (hHeld.2.1)))))), ((cell_far (p := ⟨gb130, _, none⟩) NB129_130.out _).trans (((cell_far (p := ⟨gb130, _, none⟩) NB129_130.out _).trans (((cell_far (p := ⟨gb130, _, none⟩) NB129_130.out _).trans (hHeld.2.2.1)))))), ((cell_far (p := ⟨gb130, _, none⟩) NB129_130.out _).trans (((cell_far (p := ⟨gb130, _, none⟩) NB129_130.out _).trans (((cell_far (p := ⟨gb130, _, none⟩) NB129_130.out _).trans (hHeld.2.2.2.1)))))), ((cell_far (p := ⟨gb130, _, none⟩) NB129_130.out _).trans (((cell_far (p := ⟨gb130, _, none⟩) NB129_130.out _).trans (((cell_far (p := ⟨gb130, _, none⟩) NB129_130.out _).trans (hHeld.2.2.2.2))))))⟩ (fun hHeld => ?_)
      clear hK K
      refine pure_ (i := 20) (N := some 3) (v := ?_) (a' := ?_) #[true, true, true, true, true, true, true, true, true, true, true, true, true, true, true, true, true, true, true, true, true] rfl rfl (any_of HT_.out (by kernel_rfl)) (fun _ _ _ h => h) (Or.inl ⟨by rfl, ?_⟩) ?_ ?_
      rotate_left
      · intro w'
        go_simp
        with_reducible rfl
      rotate_left
      · simp only [Act.put, List.setIfInBounds_toArray, List.set_cons_zero, List.set_cons_succ, i64_w, i32_w]
        rfl
      refine done_ (done_of HT_.out (by kernel_rfl)) ?_
      try go_wp2
      refine bodyPost_ret (results_ct rfl _ _ gb130 40 #[.bool t134, .slice Ao16 t135.length co16, .int .i64 (wrap64 (-a0_2))] (0, 0) _ rfl (by (with_reducible repeat (first | refine blk_drewN ?_ _ | refine blk_drew ?_ | refine blk_alloc ?_ _)); refine blk_put (cs := #[.bool t134, .slice Ao16 t135.length co16, .int .i64 0]) ?_ 2 _ rfl; (with_reducible repeat (first | refine blk_drewN ?_ _ | refine blk_drew ?_ | refine blk_alloc ?_ _)); refine blk_put (cs := #[.bool t134, .slice none 0 0, .int .i64 0]) ?_ 1 _ rfl; (with_reducible repeat (first | refine blk_drewN ?_ _ | refine blk_drew ?_ | refine blk_alloc ?_ _)); refine blk_put (cs := #[.bool false, .slice none 0 0, .int .i64 0]) ?_ 0 _ rfl; (with_reducible repeat (first | refine blk_drewN ?_ _ | refine blk_drew ?_ | refine blk_alloc ?_ _)); exact BK130.out) Tryd.underlying40 rfl (by kernel_rfl)) rfl ?_
      exact ⟨_, by first | rfl | (simp [errW_none, errW_some] <;> rfl) | (simp [*, errW_none, errW_some] <;> rfl), by (with_reducible repeat (first | apply Kd.V_alloc | apply Kd.V_drewN | apply Kd.V_drew)); exact Kd.V_mono (Kd.V_far (p := ⟨gb130, 2, none⟩) (Kd.V_far (p := ⟨gb130, 1, none⟩) (Kd.V_far (p := ⟨gb130, 0, none⟩) (Kd.V_mono HO137.out (fun k_ hk => (⟨hk, hk.2.2.1⟩ : _ ∧ k_ ≠ gb130))) (fun _ hk => hk.2) (.bool t134)) (fun _ hk => hk.2) (.slice Ao16 t135.length co16)) (fun _ hk => hk.2) (.int .i64 (wrap64 (-a0_2)))) (fun _ hk => hk.1.1), by repeat (first | (with_reducible first | exact HB.out | apply below_alloc | apply pw_below_drewN | apply below_drew1 | refine below_set ?_ GE129.out | refine below_set ?_ GE130.out | refine below_set ?_ GE138.out) | exact HB.out)⟩
    · rw [if_neg c6] at H
      have c6b0 : decide (0 ≤ a0_2) = false := decide_eq_false c6
      clear c6
      simp only [Option.some.injEq, Prod.mk.injEq] at H
      obtain ⟨rfl, rfl, rfl, rfl⟩ := H
      go_enter Tryd.func16, Tryd.ntmps16
      try go_wp2_with (first | ((with_reducible refine gate_dst (N := 1) rfl ?_); refine box_event ?hg (N := 1) ?hd (cs := #[.bool a0_0, .int .u64 a0_1, .int .i64 a0_2]) (t := 34) ?hr ?_; (case hd => rfl); (case hg => rfl); (case hr => first | (go_simp; done) | (go_simp; rfl)); intro gb129 hg w24 hbox hb; have n0_ := Aside0.mk (below_step (by repeat (first | (with_reducible first | exact HB.out | apply below_alloc | apply pw_below_drewN | apply below_drew1) | exact HB.out)) hb); have n1_ := Aside0.mk (hbox); have n2_ := Aside0.mk ((by rw [hg]; exact (below_size (by repeat (first | (with_reducible first | exact HB.out | apply below_alloc | apply pw_below_drewN | apply below_drew1) | exact HB.out))) : w.heap.size ≤ gb129)); have n3_ := Aside0.mk ((by rw [hg]; exact (below_size (by repeat (first | (with_reducible first | exact HB.out | apply below_alloc | apply pw_below_drewN | apply below_drew1) | exact HB.out))) : w.heap.size ≤ gb129)); clear HB; have HB := n0_; have BK129 := n1_; have GW129 := n2_; have GE129 := n3_; clear n0_ n1_ n2_ n3_; clear hb hbox hg) | ((with_reducible refine gate_dst (N := 2) rfl ?_); refine box_event ?hg (N := 2) ?hd (cs := #[.bool false, .slice none 0 0, .int .i64 0]) (t := 40) ?hr ?_; (case hd => rfl); (case hg => rfl); (case hr => first | (go_simp; done) | (go_simp; rfl)); intro gb130 hg w25 hbox hb; have n0_ := Aside0.mk (blk_below (g := gb129) (o := .cells #[.bool a0_0, .int .u64 a0_1, .int .i64 a0_2] 34 (0, 0)) (by (with_reducible repeat (first | refine blk_drewN ?_ _ | refine blk_drew ?_ | refine blk_alloc ?_ _)); exact BK129.out) hb); have n1_ := Aside0.mk (below_step (by repeat (first | (with_reducible first | exact HB.out | apply below_alloc | apply pw_below_drewN | apply below_drew1 | refine below_set ?_ GE129.out) | exact HB.out)) hb); have n2_ := Aside0.mk (hbox); have n3_ := Aside0.mk ((by rw [hg]; exact (below_size (by repeat (first | (with_reducible first | exact HB.out | apply below_alloc | apply pw_below_drewN | apply below_drew1 | refine below_set ?_ GE129.out) | exact HB.out))) : w.heap.size ≤ gb130)); have n4_ := Aside0.mk ((by rw [hg]; exact (below_size (by repeat (first | (with_reducible first | exact HB.out | apply below_alloc | apply pw_below_drewN | apply below_drew1 | refine below_set ?_ GE129.out) | exact HB.out))) : w.heap.size ≤ gb130)); have n5_ := Aside0.mk ((by rw [hg]; exact Nat.ne_of_lt (blk_lt (g := gb129) (o := .cells #[.bool a0_0, .int .u64 a0_1, .int .i64 a0_2] 34 (0, 0)) (by (with_reducible repeat (first | refine blk_drewN ?_ _ | refine blk_drew ?_ | refine blk_alloc ?_ _)); exact BK129.out)) : gb129 ≠ gb130)); have n6_ := Aside0.mk ((by rw [hg]; exact Nat.ne_of_gt (blk_lt (g := gb129) (o := .cells #[.bool a0_0, .int .u64 a0_1, .int .i64 a0_2] 34 (0, 0)) (by (with_reducible repeat (first | refine blk_drewN ?_ _ | refine blk_drew ?_ | refine blk_alloc ?_ _)); exact BK129.out)) : gb130 ≠ gb129)); clear BK129; clear HB; have BK129 := n0_; have HB := n1_; have BK130 := n2_; have GW130 := n3_; have GE130 := n4_; have NB129_130 := n5_; have NB130_129 := n6_; clear n0_ n1_ n2_ n3_ n4_ n5_ n6_; clear hb hbox hg))
      have n0_ := Aside0.mk (blk_drew BK129.out)
      have n1_ := Aside0.mk (blk_drew BK130.out)
      have n2_ := Aside0.mk (below_drew1 HB.out)
      clear BK129
      clear BK130
      clear HB
      have BK129 := n0_
      have BK130 := n1_
      have HB := n2_
      clear n0_ n1_ n2_
      refine start_ (n := 8) (S := fun w' => w'.cell? ⟨gb129, 0, none⟩ = some (.bool a0_0) ∧ w'.cell? ⟨gb129, 1, none⟩ = some (.int .u64 a0_1) ∧ w'.cell? ⟨gb129, 2, none⟩ = some (.int .i64 a0_2)) (ds := []) #[false, false, false, false, false, false, false, false] (by kernel_rfl) rfl rfl ⟨(blk_cell BK129.out 0).trans rfl, (blk_cell BK129.out 1).trans rfl, (blk_cell BK129.out 2).trans rfl⟩ (fun hHeld => ?_); refine with_tabW spec_OfFix.tab1 spec_OfFix.bits1 (fun HT_ HW_ => ?_)
      generalize w25.drew = w26 at BK129 BK130 HB hHeld ⊢
      refine pure_ (i := 0) (N := some 5) (v := ?_) (a' := ?_) #[true, false, false, false, false, false, false, false] rfl rfl (any_of HT_.out (by kernel_rfl)) (fun _ _ _ h => h) (Or.inl ⟨by rfl, ?_⟩) ?_ ?_
      rotate_left
      · intro w'
        go_simp
        with_reducible rfl
      rotate_left
      · simp only [Act.put, List.setIfInBounds_toArray, List.set_cons_zero, List.set_cons_succ, i64_w, i32_w]
        rfl
      refine pure_ (i := 2) (N := some 7) (v := ?_) (a' := ?_) #[true, false, true, false, false, false, false, false] rfl rfl (any_of HT_.out (by kernel_rfl)) (fun _ _ _ h => h) (Or.inl ⟨by rfl, ?_⟩) ?_ ?_
      rotate_left
      · intro w'
        go_simp
        with_reducible rfl
      rotate_left
      · simp only [Act.put, List.setIfInBounds_toArray, List.set_cons_zero, List.set_cons_succ, i64_w, i32_w]
        rfl
      refine take_ (i := 1) (N := some 6) (v := ?_) (a' := ?_) #[true, true, true, false, false, false, false, false] rfl rfl (take_ofW HT_.out HW_.out (by kernel_rfl)) (fun _ _ _ h => h) (Or.inl ⟨by rfl, ?_⟩) hHeld ?_ ?_
      rotate_left
      · rintro w' ⟨s0, s1, s2⟩
        go_simp
        with_reducible rfl
      rotate_left
      · simp only [Act.put, List.setIfInBounds_toArray, List.set_cons_zero, List.set_cons_succ, i64_w, i32_w]
        rfl
      refine take_ (i := 3) (N := some 8) (v := ?_) (a' := ?_) #[true, true, true, true, false, false, false, false] rfl rfl (take_ofW HT_.out HW_.out (by kernel_rfl)) (fun _ _ _ h => h) (Or.inl ⟨by rfl, ?_⟩) hHeld ?_ ?_
      rotate_left
      · rintro w' ⟨s0, s1, s2⟩
        go_simp
        with_reducible rfl
      rotate_left
      · simp only [Act.put, List.setIfInBounds_toArray, List.set_cons_zero, List.set_cons_succ, i64_w, i32_w]
        rfl
      refine join_ (σ := Value × Value × Nat) 1 #[true, true, true, true, true, true, true, false] (fun s_ => [(9, s_.1), (10, .agg #[.bool t134, s_.2.1]), (4, .pointer (some ⟨s_.2.2, 0, none⟩))]) (fun s_ w' => (w'.cell? ⟨gb129, 0, none⟩ = some (.bool a0_0) ∧ w'.cell? ⟨gb129, 1, none⟩ = some (.int .u64 a0_1) ∧ w'.cell? ⟨gb129, 2, none⟩ = some (.int .i64 a0_2)) ∧ (Kd.R (Kd.int .u32) 59 w' w.heap.size (fun k_ => (w.heap.size ≤ k_)) s_.1 t131) ∧ (Kd.V (Kd.int .u32) 59 w' w.heap.size (fun k_ => (w.heap.size ≤ k_) ∧ k_ ≠ gb129 ∧ k_ ≠ gb130 ∧ k_ ≠ s_.2.2) s_.2.1 t135) ∧ (w'.heap[gb129]? = some (.cells #[.bool a0_0, .int .u64 a0_1, .int .i64 a0_2] 34 (0, 0))) ∧ (w'.heap[gb130]? = some (.cells #[.bool false, .slice none 0 0, .int .i64 0] 40 (0, 0))) ∧ (w'.heap[s_.2.2]? = some (.cells #[.bool false, .slice none 0 0] 38 (0, 0))) ∧ (w.heap.size ≤ s_.2.2) ∧ (w.heap.size ≤ s_.2.2) ∧ (gb129 ≠ s_.2.2) ∧ (s_.2.2 ≠ gb129) ∧ (gb130 ≠ s_.2.2) ∧ (s_.2.2 ≠ gb130) ∧ (Below w.heap.size w w')) ?_ ?_
      rotate_left
      · intro hCont
        refine two_ (i := 4) (j := 6) (Ni := some 9) (Nj := some 4) #[true, true, true, true, true, false, false, false] #[true, true, true, true, false, false, true, false] rfl rfl rfl rfl (two_of HT_.out (by kernel_rfl)) (by decide) (by decide) (fun K hK => ?_) (fun K hK => ?_)
        · skip
          refine goes_ Tryd.func13 (by kernel_rfl) rfl #[.int .u64 a0_1] (by rfl) rfl rfl (by (try simp only [List.map_toArray, List.map_cons, List.map_nil]); first | done | rfl | (simp only [List.length_drop, List.length_take]; rfl)) ?_
          with_reducible refine (spec_NatFrom.calls k a0_1 t131 _ A2.out).mono ?_
          rintro e w27 ⟨v132, rfl, ho0, hb⟩
          refine ⟨_, rfl, ?_⟩
          have n0_ := Aside0.mk (Kd.R_lower (Kd.R_newM (M := fun k_ => (w.heap.size ≤ k_)) ho0 (below_size (by repeat (first | (with_reducible first | exact HB.out | apply below_alloc | apply pw_below_drewN | apply below_drew1 | refine below_set ?_ GE129.out | refine below_set ?_ GE130.out) | exact HB.out))) (fun k_ h_ => h_)) (below_size (by repeat (first | (with_reducible first | exact HB.out | apply below_alloc | apply pw_below_drewN | apply below_drew1 | refine below_set ?_ GE129.out | refine below_set ?_ GE130.out) | exact HB.out))))
          have n1_ := Aside0.mk (blk_below (g := gb129) (o := .cells #[.bool a0_0, .int .u64 a0_1, .int .i64 a0_2] 34 (0, 0)) (by (with_reducible repeat (first | refine blk_drewN ?_ _ | refine blk_drew ?_ | refine blk_alloc ?_ _)); exact BK129.out) hb)
          have n2_ := Aside0.mk (blk_below (g := gb130) (o := .cells #[.bool false, .slice none 0 0, .int .i64 0] 40 (0, 0)) (by (with_reducible repeat (first | refine blk_drewN ?_ _ | refine blk_drew ?_ | refine blk_alloc ?_ _)); exact BK130.out) hb)
          have n3_ := Aside0.mk (below_step (by repeat (first | (with_reducible first | exact HB.out | apply below_alloc | apply pw_below_drewN | apply below_drew1 | refine below_set ?_ GE129.out | refine below_set ?_ GE130.out) | exact HB.out)) hb)
          clear BK129
          clear BK130
          clear HB
          have HO133 := n0_
          have BK129 := n1_
          have BK130 := n2_
          have HB := n3_
          clear n0_ n1_ n2_ n3_
          (try clear hb)
          (try clear hb2)
          (try clear hk)
          (try clear hi)
          (try clear ho0)
          obtain ⟨Ao28, co28, eo28⟩ := Kd.R_slice HO133.out
          (first | subst eo28 | (injection eo28 with f1_ f2_ f3_; have f4_ := f1_.symm; have f5_ := f3_.symm; clear f1_ f2_ f3_; subst f4_; subst f5_))
          refine hK.out _ _ ⟨(blk_cell BK129.out 0).trans rfl, (blk_cell BK129.out 1).trans rfl, (blk_cell BK129.out 2).trans rfl⟩ (fun hHeld => ?_)
          clear hK K
          refine norm_ (a' := ?_) ?_ ?_
          rotate_left
          · show Act.put _ (some 9) _ = _
            simp only [Act.put, List.setIfInBounds_toArray, List.set_cons_zero, List.set_cons_succ, i64_w, i32_w]
            rfl
          refine two_ (i := 5) (j := 6) (Ni := some 10) (Nj := some 4) #[true, true, true, true, true, true, false, false] #[true, true, true, true, true, false, true, false] rfl rfl rfl rfl (two_of HT_.out (by kernel_rfl)) (by decide) (by decide) (fun K hK => ?_) (fun K hK => ?_)
          · skip
            refine goes_ Tryd.func34 (by kernel_rfl) rfl #[.bool a0_0, .slice Ao28 t131.length co28] (by rfl) rfl rfl (by (try simp only [List.map_toArray, List.map_cons, List.map_nil]); first | done | rfl | (simp only [List.length_drop, List.length_take]; rfl)) ?_
            with_reducible refine (spec_wholeOf.calls a0_0 (fun k_ => some k_ = (.slice Ao28 t131.length co28 : Value).ownBlock) _ _ t131 t134 t135 _ ?side1 A3.out).mono ?_
            (case side1 => exact Kd.R_V (Kd.R_tight rfl (Kd.R_types (Kd.R_types (HO133.out) BK129.out (by decide)) BK130.out (by decide))))
            rintro e w29 ⟨v136, rfl, ho0, hb⟩
            refine ⟨_, rfl, ?_⟩
            have n0_ := Aside0.mk (Kd.R_below (by (with_reducible repeat (first | apply Kd.R_alloc | apply Kd.R_drewN | apply Kd.R_drew)); exact HO133.out) hb)
            have n1_ := Aside0.mk (Kd.V_lower (Kd.V_mono (ok' := fun k_ => (w.heap.size ≤ k_) ∧ k_ ≠ gb129 ∧ k_ ≠ gb130) ho0 (fun k_ hk_ => ⟨Or.elim hk_ (fun hs_ => ((Kd.R_types (Kd.R_types (HO133.out) BK129.out (by decide)) BK130.out (by decide)).1 k_ hs_.symm).1.1.1) (fun hn_ => (Nat.le_trans (below_size (by repeat (first | (with_reducible first | exact HB.out | apply below_alloc | apply pw_below_drewN | apply below_drew1 | refine below_set ?_ GE129.out | refine below_set ?_ GE130.out) | exact HB.out))) hn_)), Or.elim hk_ (fun hs_ => ((Kd.R_types (Kd.R_types (HO133.out) BK129.out (by decide)) BK130.out (by decide)).1 k_ hs_.symm).1.2) (fun hn_ => (Kd.freshB (g := gb129) (o := .cells #[.bool a0_0, .int .u64 a0_1, .int .i64 a0_2] 34 (0, 0)) (by (with_reducible repeat (first | refine blk_drewN ?_ _ | refine blk_drew ?_ | refine blk_alloc ?_ _)); exact BK129.out) k_ hn_)), Or.elim hk_ (fun hs_ => ((Kd.R_types (Kd.R_types (HO133.out) BK129.out (by decide)) BK130.out (by decide)).1 k_ hs_.symm).2) (fun hn_ => (Kd.freshB (g := gb130) (o := .cells #[.bool false, .slice none 0 0, .int .i64 0] 40 (0, 0)) (by (with_reducible repeat (first | refine blk_drewN ?_ _ | refine blk_drew ?_ | refine blk_alloc ?_ _)); exact BK130.out) k_ hn_))⟩)) (below_size (by repeat (first | (with_reducible first | exact HB.out | apply below_alloc | apply pw_below_drewN | apply below_drew1 | refine below_set ?_ GE129.out | refine below_set ?_ GE130.out) | exact HB.out))))
            have n2_ := Aside0.mk (blk_below (g := gb129) (o := .cells #[.bool a0_0, .int .u64 a0_1, .int .i64 a0_2] 34 (0, 0)) (by (with_reducible repeat (first | refine blk_drewN ?_ _ | refine blk_drew ?_ | refine blk_alloc ?_ _)); exact BK129.out) hb)
            have n3_ := Aside0.mk (blk_below (g := gb130) (o := .cells #[.bool false, .slice none 0 0, .int .i64 0] 40 (0, 0)) (by (with_reducible repeat (first | refine blk_drewN ?_ _ | refine blk_drew ?_ | refine blk_alloc ?_ _)); exact BK130.out) hb)
            have n4_ := Aside0.mk (below_step (by repeat (first | (with_reducible first | exact HB.out | apply below_alloc | apply pw_below_drewN | apply below_drew1 | refine below_set ?_ GE129.out | refine below_set ?_ GE130.out) | exact HB.out)) hb)
            clear HO133
            clear BK129
            clear BK130
            clear HB
            have HO133 := n0_
            have HO137 := n1_
            have BK129 := n2_
            have BK130 := n3_
            have HB := n4_
            clear n0_ n1_ n2_ n3_ n4_
            (try clear hb)
            (try clear hb2)
            (try clear hk)
            (try clear hi)
            (try clear ho0)
            refine hK.out _ _ ⟨(blk_cell BK129.out 0).trans rfl, (blk_cell BK129.out 1).trans rfl, (blk_cell BK129.out 2).trans rfl⟩ (fun hHeld => ?_)
            clear hK K
            refine norm_ (a' := ?_) ?_ ?_
            rotate_left
            · show Act.put _ (some 10) _ = _
              simp only [Act.put, List.setIfInBounds_toArray, List.set_cons_zero, List.set_cons_succ, i64_w, i32_w]
              rfl
            refine one_ (i := 6) (N := some 4) #[true, true, true, true, true, true, true, false] rfl rfl (one_of HT_.out (by kernel_rfl)) (by decide) (fun K hK => ?_)
            refine box_step ?hg (N := 4) ?hd (cs := #[.bool false, .slice none 0 0]) (t := 38) ?hr ?_; (case hd => rfl); (case hg => rfl); (case hr => first | (go_simp; done) | (go_simp; rfl))
            intro gb138 hg w30 hbox hb
            have n0_ := Aside0.mk (Kd.R_below (by (with_reducible repeat (first | apply Kd.R_alloc | apply Kd.R_drewN | apply Kd.R_drew)); exact HO133.out) hb)
            have n1_ := Aside0.mk (Kd.V_below (Kd.V_elderB (by (with_reducible repeat (first | apply Kd.V_alloc | apply Kd.V_drewN | apply Kd.V_drew)); exact HO137.out) gb138 (Nat.le_of_eq hg.symm)) hb)
            have n2_ := Aside0.mk (blk_below (g := gb129) (o := .cells #[.bool a0_0, .int .u64 a0_1, .int .i64 a0_2] 34 (0, 0)) (by (with_reducible repeat (first | refine blk_drewN ?_ _ | refine blk_drew ?_ | refine blk_alloc ?_ _)); exact BK129.out) hb)
            have n3_ := Aside0.mk (blk_below (g := gb130) (o := .cells #[.bool false, .slice none 0 0, .int .i64 0] 40 (0, 0)) (by (with_reducible repeat (first | refine blk_drewN ?_ _ | refine blk_drew ?_ | refine blk_alloc ?_ _)); exact BK130.out) hb)
            have n4_ := Aside0.mk (below_step (by repeat (first | (with_reducible first | exact HB.out | apply below_alloc | apply pw_below_drewN | apply below_drew1 | refine below_set ?_ GE129.out | refine below_set ?_ GE130.out) | exact HB.out)) hb)
            have n5_ := Aside0.mk (hbox)
            have n6_ := Aside0.mk ((by rw [hg]; exact (below_size (by repeat (first | (with_reducible first | exact HB.out | apply below_alloc | apply pw_below_drewN | apply below_drew1 | refine below_set ?_ GE129.out | refine below_set ?_ GE130.out) | exact HB.out))) : w.heap.size ≤ gb138))
            have n7_ := Aside0.mk ((by rw [hg]; exact (below_size (by repeat (first | (with_reducible first | exact HB.out | apply below_alloc | apply pw_below_drewN | apply below_drew1 | refine below_set ?_ GE129.out | refine below_set ?_ GE130.out) | exact HB.out))) : w.heap.size ≤ gb138))
            have n8_ := Aside0.mk ((by rw [hg]; exact Nat.ne_of_lt (blk_lt (g := gb129) (o := .cells #[.bool a0_0, .int .u64 a0_1, .int .i64 a0_2] 34 (0, 0)) (by (with_reducible repeat (first | refine blk_drewN ?_ _ | refine blk_drew ?_ | refine blk_alloc ?_ _)); exact BK129.out)) : gb129 ≠ gb138))
            have n9_ := Aside0.mk ((by rw [hg]; exact Nat.ne_of_gt (blk_lt (g := gb129) (o := .cells #[.bool a0_0, .int .u64 a0_1, .int .i64 a0_2] 34 (0, 0)) (by (with_reducible repeat (first | refine blk_drewN ?_ _ | refine blk_drew ?_ | refine blk_alloc ?_ _)); exact BK129.out)) : gb138 ≠ gb129))
            have n10_ := Aside0.mk ((by rw [hg]; exact Nat.ne_of_lt (blk_lt (g := gb130) (o := .cells #[.bool false, .slice none 0 0, .int .i64 0] 40 (0, 0)) (by (with_reducible repeat (first | refine blk_drewN ?_ _ | refine blk_drew ?_ | refine blk_alloc ?_ _)); exact BK130.out)) : gb130 ≠ gb138))
            have n11_ := Aside0.mk ((by rw [hg]; exact Nat.ne_of_gt (blk_lt (g := gb130) (o := .cells #[.bool false, .slice none 0 0, .int .i64 0] 40 (0, 0)) (by (with_reducible repeat (first | refine blk_drewN ?_ _ | refine blk_drew ?_ | refine blk_alloc ?_ _)); exact BK130.out)) : gb138 ≠ gb130))
            clear HO133
            clear HO137
            clear BK129
            clear BK130
            clear HB
            have HO133 := n0_
            have HO137 := n1_
            have BK129 := n2_
            have BK130 := n3_
            have HB := n4_
            have BK138 := n5_
            have GW138 := n6_
            have GE138 := n7_
            have NB129_138 := n8_
            have NB138_129 := n9_
            have NB130_138 := n10_
            have NB138_130 := n11_
            clear n0_ n1_ n2_ n3_ n4_ n5_ n6_ n7_ n8_ n9_ n10_ n11_
            clear hb hbox hg
            refine hK.out _ _ ⟨(blk_cell BK129.out 0).trans rfl, (blk_cell BK129.out 1).trans rfl, (blk_cell BK129.out 2).trans rfl⟩ (fun hHeld => ?_)
            clear hK K
            refine norm_ (a' := ?_) ?_ ?_
            rotate_left
            · show Act.put _ (some 4) _ = _
              simp only [Act.put, List.setIfInBounds_toArray, List.set_cons_zero, List.set_cons_succ, i64_w, i32_w]
              rfl
            exact norm_ (by simp only [putAll, Act.put, List.setIfInBounds_toArray, List.set_cons_zero, List.set_cons_succ]) (hCont (.slice Ao28 t131.length co28, v136, gb138) _ ⟨hHeld, (by (with_reducible repeat (first | apply Kd.R_alloc | apply Kd.R_drewN | apply Kd.R_drew)); exact Kd.R_mono HO133.out (fun _ hk => hk.1)), (by (with_reducible repeat (first | apply Kd.V_alloc | apply Kd.V_drewN | apply Kd.V_drew)); exact Kd.V_mono HO137.out (fun _ hk => ⟨hk.1.1, ⟨hk.1.2.1, ⟨hk.1.2.2, hk.2⟩⟩⟩)), (by (with_reducible repeat (first | refine blk_drewN ?_ _ | refine blk_drew ?_ | refine blk_alloc ?_ _)); exact BK129.out), (by (with_reducible repeat (first | refine blk_drewN ?_ _ | refine blk_drew ?_ | refine blk_alloc ?_ _)); exact BK130.out), (by (with_reducible repeat (first | refine blk_drewN ?_ _ | refine blk_drew ?_ | refine blk_alloc ?_ _)); exact BK138.out), GW138.out, GE138.out, NB129_138.out, NB138_129.out, NB130_138.out, NB138_130.out, (by repeat (first | (with_reducible first | exact HB.out | apply below_alloc | apply pw_below_drewN | apply below_drew1 | refine below_set ?_ GE129.out | refine below_set ?_ GE130.out | refine below_set ?_ GE138.out) | exact HB.out))⟩)
          · skip
            refine box_step ?hg (N := 4) ?hd (cs := #[.bool false, .slice none 0 0]) (t := 38) ?hr ?_; (case hd => rfl); (case hg => rfl); (case hr => first | (go_simp; done) | (go_simp; rfl))
            intro gb138 hg w28 hbox hb
            have n0_ := Aside0.mk (Kd.R_below (by (with_reducible repeat (first | apply Kd.R_alloc | apply Kd.R_drewN | apply Kd.R_drew)); exact HO133.out) hb)
            have n1_ := Aside0.mk (blk_below (g := gb129) (o := .cells #[.bool a0_0, .int .u64 a0_1, .int .i64 a0_2] 34 (0, 0)) (by (with_reducible repeat (first | refine blk_drewN ?_ _ | refine blk_drew ?_ | refine blk_alloc ?_ _)); exact BK129.out) hb)
            have n2_ := Aside0.mk (blk_below (g := gb130) (o := .cells #[.bool false, .slice none 0 0, .int .i64 0] 40 (0, 0)) (by (with_reducible repeat (first | refine blk_drewN ?_ _ | refine blk_drew ?_ | refine blk_alloc ?_ _)); exact BK130.out) hb)
            have n3_ := Aside0.mk (below_step (by repeat (first | (with_reducible first | exact HB.out | apply below_alloc | apply pw_below_drewN | apply below_drew1 | refine below_set ?_ GE129.out | refine below_set ?_ GE130.out) | exact HB.out)) hb)
            have n4_ := Aside0.mk (hbox)
            have n5_ := Aside0.mk ((by rw [hg]; exact (below_size (by repeat (first | (with_reducible first | exact HB.out | apply below_alloc | apply pw_below_drewN | apply below_drew1 | refine below_set ?_ GE129.out | refine below_set ?_ GE130.out) | exact HB.out))) : w.heap.size ≤ gb138))
            have n6_ := Aside0.mk ((by rw [hg]; exact (below_size (by repeat (first | (with_reducible first | exact HB.out | apply below_alloc | apply pw_below_drewN | apply below_drew1 | refine below_set ?_ GE129.out | refine below_set ?_ GE130.out) | exact HB.out))) : w.heap.size ≤ gb138))
            have n7_ := Aside0.mk ((by rw [hg]; exact Nat.ne_of_lt (blk_lt (g := gb129) (o := .cells #[.bool a0_0, .int .u64 a0_1, .int .i64 a0_2] 34 (0, 0)) (by (with_reducible repeat (first | refine blk_drewN ?_ _ | refine blk_drew ?_ | refine blk_alloc ?_ _)); exact BK129.out)) : gb129 ≠ gb138))
            have n8_ := Aside0.mk ((by rw [hg]; exact Nat.ne_of_gt (blk_lt (g := gb129) (o := .cells #[.bool a0_0, .int .u64 a0_1, .int .i64 a0_2] 34 (0, 0)) (by (with_reducible repeat (first | refine blk_drewN ?_ _ | refine blk_drew ?_ | refine blk_alloc ?_ _)); exact BK129.out)) : gb138 ≠ gb129))
            have n9_ := Aside0.mk ((by rw [hg]; exact Nat.ne_of_lt (blk_lt (g := gb130) (o := .cells #[.bool false, .slice none 0 0, .int .i64 0] 40 (0, 0)) (by (with_reducible repeat (first | refine blk_drewN ?_ _ | refine blk_drew ?_ | refine blk_alloc ?_ _)); exact BK130.out)) : gb130 ≠ gb138))
            have n10_ := Aside0.mk ((by rw [hg]; exact Nat.ne_of_gt (blk_lt (g := gb130) (o := .cells #[.bool false, .slice none 0 0, .int .i64 0] 40 (0, 0)) (by (with_reducible repeat (first | refine blk_drewN ?_ _ | refine blk_drew ?_ | refine blk_alloc ?_ _)); exact BK130.out)) : gb138 ≠ gb130))
            clear HO133
            clear BK129
            clear BK130
            clear HB
            have HO133 := n0_
            have BK129 := n1_
            have BK130 := n2_
            have HB := n3_
            have BK138 := n4_
            have GW138 := n5_
            have GE138 := n6_
            have NB129_138 := n7_
            have NB138_129 := n8_
            have NB130_138 := n9_
            have NB138_130 := n10_
            clear n0_ n1_ n2_ n3_ n4_ n5_ n6_ n7_ n8_ n9_ n10_
            clear hb hbox hg
            obtain ⟨Ao29, co29, eo29⟩ := Kd.R_slice HO133.out
            (first | subst eo29 | (injection eo29 with f1_ f2_ f3_; have f4_ := f1_.symm; have f5_ := f3_.symm; clear f1_ f2_ f3_; subst f4_; subst f5_))
            refine hK.out _ _ ⟨(blk_cell BK129.out 0).trans rfl, (blk_cell BK129.out 1).trans rfl, (blk_cell BK129.out 2).trans rfl⟩ (fun hHeld => ?_)
            clear hK K
            refine norm_ (a' := ?_) ?_ ?_
            rotate_left
            · show Act.put _ (some 4) _ = _
              simp only [Act.put, List.setIfInBounds_toArray, List.set_cons_zero, List.set_cons_succ, i64_w, i32_w]
              rfl
            refine one_ (i := 5) (N := some 10) #[true, true, true, true, true, true, true, false] rfl rfl (one_of HT_.out (by kernel_rfl)) (by decide) (fun K hK => ?_)
            refine goes_ Tryd.func34 (by kernel_rfl) rfl #[.bool a0_0, .slice Ao29 t131.length co29] (by rfl) rfl rfl (by (try simp only [List.map_toArray, List.map_cons, List.map_nil]); first | done | rfl | (simp only [List.length_drop, List.length_take]; rfl)) ?_
            with_reducible refine (spec_wholeOf.calls a0_0 (fun k_ => some k_ = (.slice Ao29 t131.length co29 : Value).ownBlock) _ _ t131 t134 t135 _ ?side1 A3.out).mono ?_
            (case side1 => exact Kd.R_V (Kd.R_tight rfl (Kd.R_types (Kd.R_types (Kd.R_types (HO133.out) BK129.out (by decide)) BK130.out (by decide)) BK138.out (by decide))))
            rintro e w30 ⟨v136, rfl, ho0, hb⟩
            refine ⟨_, rfl, ?_⟩
            have n0_ := Aside0.mk (Kd.R_below (by (with_reducible repeat (first | apply Kd.R_alloc | apply Kd.R_drewN | apply Kd.R_drew)); exact HO133.out) hb)
            have n1_ := Aside0.mk (Kd.V_lower (Kd.V_mono (ok' := fun k_ => (w.heap.size ≤ k_) ∧ k_ ≠ gb129 ∧ k_ ≠ gb130 ∧ k_ ≠ gb138) ho0 (fun k_ hk_ => ⟨Or.elim hk_ (fun hs_ => ((Kd.R_types (Kd.R_types (Kd.R_types (HO133.out) BK129.out (by decide)) BK130.out (by decide)) BK138.out (by decide)).1 k_ hs_.symm).1.1.1.1) (fun hn_ => (Nat.le_trans (below_size (by repeat (first | (with_reducible first | exact HB.out | apply below_alloc | apply pw_below_drewN | apply below_drew1 | refine below_set ?_ GE129.out | refine below_set ?_ GE130.out | refine below_set ?_ GE138.out) | exact HB.out))) hn_)), Or.elim hk_ (fun hs_ => ((Kd.R_types (Kd.R_types (Kd.R_types (HO133.out) BK129.out (by decide)) BK130.out (by decide)) BK138.out (by decide)).1 k_ hs_.symm).1.1.2) (fun hn_ => (Kd.freshB (g := gb129) (o := .cells #[.bool a0_0, .int .u64 a0_1, .int .i64 a0_2] 34 (0, 0)) (by (with_reducible repeat (first | refine blk_drewN ?_ _ | refine blk_drew ?_ | refine blk_alloc ?_ _)); exact BK129.out) k_ hn_)), Or.elim hk_ (fun hs_ => ((Kd.R_types (Kd.R_types (Kd.R_types (HO133.out) BK129.out (by decide)) BK130.out (by decide)) BK138.out (by decide)).1 k_ hs_.symm).1.2) (fun hn_ => (Kd.freshB (g := gb130) (o := .cells #[.bool false, .slice none 0 0, .int .i64 0] 40 (0, 0)) (by (with_reducible repeat (first | refine blk_drewN ?_ _ | refine blk_drew ?_ | refine blk_alloc ?_ _)); exact BK130.out) k_ hn_)), Or.elim hk_ (fun hs_ => ((Kd.R_types (Kd.R_types (Kd.R_types (HO133.out) BK129.out (by decide)) BK130.out (by decide)) BK138.out (by decide)).1 k_ hs_.symm).2) (fun hn_ => (Kd.freshB (g := gb138) (o := .cells #[.bool false, .slice none 0 0] 38 (0, 0)) (by (with_reducible repeat (first | refine blk_drewN ?_ _ | refine blk_drew ?_ | refine blk_alloc ?_ _)); exact BK138.out) k_ hn_))⟩)) (below_size (by repeat (first | (with_reducible first | exact HB.out | apply below_alloc | apply pw_below_drewN | apply below_drew1 | refine below_set ?_ GE129.out | refine below_set ?_ GE130.out | refine below_set ?_ GE138.out) | exact HB.out))))
            have n2_ := Aside0.mk (blk_below (g := gb129) (o := .cells #[.bool a0_0, .int .u64 a0_1, .int .i64 a0_2] 34 (0, 0)) (by (with_reducible repeat (first | refine blk_drewN ?_ _ | refine blk_drew ?_ | refine blk_alloc ?_ _)); exact BK129.out) hb)
            have n3_ := Aside0.mk (blk_below (g := gb130) (o := .cells #[.bool false, .slice none 0 0, .int .i64 0] 40 (0, 0)) (by (with_reducible repeat (first | refine blk_drewN ?_ _ | refine blk_drew ?_ | refine blk_alloc ?_ _)); exact BK130.out) hb)
            have n4_ := Aside0.mk (blk_below (g := gb138) (o := .cells #[.bool false, .slice none 0 0] 38 (0, 0)) (by (with_reducible repeat (first | refine blk_drewN ?_ _ | refine blk_drew ?_ | refine blk_alloc ?_ _)); exact BK138.out) hb)
            have n5_ := Aside0.mk (below_step (by repeat (first | (with_reducible first | exact HB.out | apply below_alloc | apply pw_below_drewN | apply below_drew1 | refine below_set ?_ GE129.out | refine below_set ?_ GE130.out | refine below_set ?_ GE138.out) | exact HB.out)) hb)
            clear HO133
            clear BK129
            clear BK130
            clear BK138
            clear HB
            have HO133 := n0_
            have HO137 := n1_
            have BK129 := n2_
            have BK130 := n3_
            have BK138 := n4_
            have HB := n5_
            clear n0_ n1_ n2_ n3_ n4_ n5_
            (try clear hb)
            (try clear hb2)
            (try clear hk)
            (try clear hi)
            (try clear ho0)
            refine hK.out _ _ ⟨(blk_cell BK129.out 0).trans rfl, (blk_cell BK129.out 1).trans rfl, (blk_cell BK129.out 2).trans rfl⟩ (fun hHeld => ?_)
            clear hK K
            refine norm_ (a' := ?_) ?_ ?_
            rotate_left
            · show Act.put _ (some 10) _ = _
              simp only [Act.put, List.setIfInBounds_toArray, List.set_cons_zero, List.set_cons_succ, i64_w, i32_w]
              rfl
            exact norm_ (by simp only [putAll, Act.put, List.setIfInBounds_toArray, List.set_cons_zero, List.set_cons_succ]) (hCont (.slice Ao29 t131.length co29, v136, gb138) _ ⟨hHeld, (by (with_reducible repeat (first | apply Kd.R_alloc | apply Kd.R_drewN | apply Kd.R_drew)); exact Kd.R_mono HO133.out (fun _ hk => hk.1)), (by (with_reducible repeat (first | apply Kd.V_alloc | apply Kd.V_drewN | apply Kd.V_drew)); exact HO137.out), (by (with_reducible repeat (first | refine blk_drewN ?_ _ | refine blk_drew ?_ | refine blk_alloc ?_ _)); exact BK129.out), (by (with_reducible repeat (first | refine blk_drewN ?_ _ | refine blk_drew ?_ | refine blk_alloc ?_ _)); exact BK130.out), (by (with_reducible repeat (first | refine blk_drewN ?_ _ | refine blk_drew ?_ | refine blk_alloc ?_ _)); exact BK138.out), GW138.out, GE138.out, NB129_138.out, NB138_129.out, NB130_138.out, NB138_130.out, (by repeat (first | (with_reducible first | exact HB.out | apply below_alloc | apply pw_below_drewN | apply below_drew1 | refine below_set ?_ GE129.out | refine below_set ?_ GE130.out | refine below_set ?_ GE138.out) | exact HB.out))⟩)
        · skip
          refine box_step ?hg (N := 4) ?hd (cs := #[.bool false, .slice none 0 0]) (t := 38) ?hr ?_; (case hd => rfl); (case hg => rfl); (case hr => first | (go_simp; done) | (go_simp; rfl))
          intro gb138 hg w27 hbox hb
          have n0_ := Aside0.mk (blk_below (g := gb129) (o := .cells #[.bool a0_0, .int .u64 a0_1, .int .i64 a0_2] 34 (0, 0)) (by (with_reducible repeat (first | refine blk_drewN ?_ _ | refine blk_drew ?_ | refine blk_alloc ?_ _)); exact BK129.out) hb)
          have n1_ := Aside0.mk (blk_below (g := gb130) (o := .cells #[.bool false, .slice none 0 0, .int .i64 0] 40 (0, 0)) (by (with_reducible repeat (first | refine blk_drewN ?_ _ | refine blk_drew ?_ | refine blk_alloc ?_ _)); exact BK130.out) hb)
          have n2_ := Aside0.mk (below_step (by repeat (first | (with_reducible first | exact HB.out | apply below_alloc | apply pw_below_drewN | apply below_drew1 | refine below_set ?_ GE129.out | refine below_set ?_ GE130.out) | exact HB.out)) hb)
          have n3_ := Aside0.mk (hbox)
          have n4_ := Aside0.mk ((by rw [hg]; exact (below_size (by repeat (first | (with_reducible first | exact HB.out | apply below_alloc | apply pw_below_drewN | apply below_drew1 | refine below_set ?_ GE129.out | refine below_set ?_ GE130.out) | exact HB.out))) : w.heap.size ≤ gb138))
          have n5_ := Aside0.mk ((by rw [hg]; exact (below_size (by repeat (first | (with_reducible first | exact HB.out | apply below_alloc | apply pw_below_drewN | apply below_drew1 | refine below_set ?_ GE129.out | refine below_set ?_ GE130.out) | exact HB.out))) : w.heap.size ≤ gb138))
          have n6_ := Aside0.mk ((by rw [hg]; exact Nat.ne_of_lt (blk_lt (g := gb129) (o := .cells #[.bool a0_0, .int .u64 a0_1, .int .i64 a0_2] 34 (0, 0)) (by (with_reducible repeat (first | refine blk_drewN ?_ _ | refine blk_drew ?_ | refine blk_alloc ?_ _)); exact BK129.out)) : gb129 ≠ gb138))
          have n7_ := Aside0.mk ((by rw [hg]; exact Nat.ne_of_gt (blk_lt (g := gb129) (o := .cells #[.bool a0_0, .int .u64 a0_1, .int .i64 a0_2] 34 (0, 0)) (by (with_reducible repeat (first | refine blk_drewN ?_ _ | refine blk_drew ?_ | refine blk_alloc ?_ _)); exact BK129.out)) : gb138 ≠ gb129))
          have n8_ := Aside0.mk ((by rw [hg]; exact Nat.ne_of_lt (blk_lt (g := gb130) (o := .cells #[.bool false, .slice none 0 0, .int .i64 0] 40 (0, 0)) (by (with_reducible repeat (first | refine blk_drewN ?_ _ | refine blk_drew ?_ | refine blk_alloc ?_ _)); exact BK130.out)) : gb130 ≠ gb138))
          have n9_ := Aside0.mk ((by rw [hg]; exact Nat.ne_of_gt (blk_lt (g := gb130) (o := .cells #[.bool false, .slice none 0 0, .int .i64 0] 40 (0, 0)) (by (with_reducible repeat (first | refine blk_drewN ?_ _ | refine blk_drew ?_ | refine blk_alloc ?_ _)); exact BK130.out)) : gb138 ≠ gb130))
          clear BK129
          clear BK130
          clear HB
          have BK129 := n0_
          have BK130 := n1_
          have HB := n2_
          have BK138 := n3_
          have GW138 := n4_
          have GE138 := n5_
          have NB129_138 := n6_
          have NB138_129 := n7_
          have NB130_138 := n8_
          have NB138_130 := n9_
          clear n0_ n1_ n2_ n3_ n4_ n5_ n6_ n7_ n8_ n9_
          clear hb hbox hg
          refine hK.out _ _ ⟨(blk_cell BK129.out 0).trans rfl, (blk_cell BK129.out 1).trans rfl, (blk_cell BK129.out 2).trans rfl⟩ (fun hHeld => ?_)
          clear hK K
          refine norm_ (a' := ?_) ?_ ?_
          rotate_left
          · show Act.put _ (some 4) _ = _
            simp only [Act.put, List.setIfInBounds_toArray, List.set_cons_zero, List.set_cons_succ, i64_w, i32_w]
            rfl
          refine one_ (i := 4) (N := some 9) #[true, true, true, true, true, false, true, false] rfl rfl (one_of HT_.out (by kernel_rfl)) (by decide) (fun K hK => ?_)
          refine goes_ Tryd.func13 (by kernel_rfl) rfl #[.int .u64 a0_1] (by rfl) rfl rfl (by (try simp only [List.map_toArray, List.map_cons, List.map_nil]); first | done | rfl | (simp only [List.length_drop, List.length_take]; rfl)) ?_
          with_reducible refine (spec_NatFrom.calls k a0_1 t131 _ A2.out).mono ?_
          rintro e w28 ⟨v132, rfl, ho0, hb⟩
          refine ⟨_, rfl, ?_⟩
          have n0_ := Aside0.mk (Kd.R_lower (Kd.R_newM (M := fun k_ => (w.heap.size ≤ k_)) ho0 (below_size (by repeat (first | (with_reducible first | exact HB.out | apply below_alloc | apply pw_below_drewN | apply below_drew1 | refine below_set ?_ GE129.out | refine below_set ?_ GE130.out | refine below_set ?_ GE138.out) | exact HB.out))) (fun k_ h_ => h_)) (below_size (by repeat (first | (with_reducible first | exact HB.out | apply below_alloc | apply pw_below_drewN | apply below_drew1 | refine below_set ?_ GE129.out | refine below_set ?_ GE130.out | refine below_set ?_ GE138.out) | exact HB.out))))
          have n1_ := Aside0.mk (blk_below (g := gb129) (o := .cells #[.bool a0_0, .int .u64 a0_1, .int .i64 a0_2] 34 (0, 0)) (by (with_reducible repeat (first | refine blk_drewN ?_ _ | refine blk_drew ?_ | refine blk_alloc ?_ _)); exact BK129.out) hb)
          have n2_ := Aside0.mk (blk_below (g := gb130) (o := .cells #[.bool false, .slice none 0 0, .int .i64 0] 40 (0, 0)) (by (with_reducible repeat (first | refine blk_drewN ?_ _ | refine blk_drew ?_ | refine blk_alloc ?_ _)); exact BK130.out) hb)
          have n3_ := Aside0.mk (blk_below (g := gb138) (o := .cells #[.bool false, .slice none 0 0] 38 (0, 0)) (by (with_reducible repeat (first | refine blk_drewN ?_ _ | refine blk_drew ?_ | refine blk_alloc ?_ _)); exact BK138.out) hb)
          have n4_ := Aside0.mk (below_step (by repeat (first | (with_reducible first | exact HB.out | apply below_alloc | apply pw_below_drewN | apply below_drew1 | refine below_set ?_ GE129.out | refine below_set ?_ GE130.out | refine below_set ?_ GE138.out) | exact HB.out)) hb)
          clear BK129
          clear BK130
          clear BK138
          clear HB
          have HO133 := n0_
          have BK129 := n1_
          have BK130 := n2_
          have BK138 := n3_
          have HB := n4_
          clear n0_ n1_ n2_ n3_ n4_
          (try clear hb)
          (try clear hb2)
          (try clear hk)
          (try clear hi)
          (try clear ho0)
          obtain ⟨Ao29, co29, eo29⟩ := Kd.R_slice HO133.out
          (first | subst eo29 | (injection eo29 with f1_ f2_ f3_; have f4_ := f1_.symm; have f5_ := f3_.symm; clear f1_ f2_ f3_; subst f4_; subst f5_))
          refine hK.out _ _ ⟨(blk_cell BK129.out 0).trans rfl, (blk_cell BK129.out 1).trans rfl, (blk_cell BK129.out 2).trans rfl⟩ (fun hHeld => ?_)
          clear hK K
          refine norm_ (a' := ?_) ?_ ?_
          rotate_left
          · show Act.put _ (some 9) _ = _
            simp only [Act.put, List.setIfInBounds_toArray, List.set_cons_zero, List.set_cons_succ, i64_w, i32_w]
            rfl
          refine one_ (i := 5) (N := some 10) #[true, true, true, true, true, true, true, false] rfl rfl (one_of HT_.out (by kernel_rfl)) (by decide) (fun K hK => ?_)
          refine goes_ Tryd.func34 (by kernel_rfl) rfl #[.bool a0_0, .slice Ao29 t131.length co29] (by rfl) rfl rfl (by (try simp only [List.map_toArray, List.map_cons, List.map_nil]); first | done | rfl | (simp only [List.length_drop, List.length_take]; rfl)) ?_
          with_reducible refine (spec_wholeOf.calls a0_0 (fun k_ => some k_ = (.slice Ao29 t131.length co29 : Value).ownBlock) _ _ t131 t134 t135 _ ?side1 A3.out).mono ?_
          (case side1 => exact Kd.R_V (Kd.R_tight rfl (Kd.R_types (Kd.R_types (Kd.R_types (HO133.out) BK129.out (by decide)) BK130.out (by decide)) BK138.out (by decide))))
          rintro e w30 ⟨v136, rfl, ho0, hb⟩
          refine ⟨_, rfl, ?_⟩
          have n0_ := Aside0.mk (Kd.R_below (by (with_reducible repeat (first | apply Kd.R_alloc | apply Kd.R_drewN | apply Kd.R_drew)); exact HO133.out) hb)
          have n1_ := Aside0.mk (Kd.V_lower (Kd.V_mono (ok' := fun k_ => (w.heap.size ≤ k_) ∧ k_ ≠ gb129 ∧ k_ ≠ gb130 ∧ k_ ≠ gb138) ho0 (fun k_ hk_ => ⟨Or.elim hk_ (fun hs_ => ((Kd.R_types (Kd.R_types (Kd.R_types (HO133.out) BK129.out (by decide)) BK130.out (by decide)) BK138.out (by decide)).1 k_ hs_.symm).1.1.1.1) (fun hn_ => (Nat.le_trans (below_size (by repeat (first | (with_reducible first | exact HB.out | apply below_alloc | apply pw_below_drewN | apply below_drew1 | refine below_set ?_ GE129.out | refine below_set ?_ GE130.out | refine below_set ?_ GE138.out) | exact HB.out))) hn_)), Or.elim hk_ (fun hs_ => ((Kd.R_types (Kd.R_types (Kd.R_types (HO133.out) BK129.out (by decide)) BK130.out (by decide)) BK138.out (by decide)).1 k_ hs_.symm).1.1.2) (fun hn_ => (Kd.freshB (g := gb129) (o := .cells #[.bool a0_0, .int .u64 a0_1, .int .i64 a0_2] 34 (0, 0)) (by (with_reducible repeat (first | refine blk_drewN ?_ _ | refine blk_drew ?_ | refine blk_alloc ?_ _)); exact BK129.out) k_ hn_)), Or.elim hk_ (fun hs_ => ((Kd.R_types (Kd.R_types (Kd.R_types (HO133.out) BK129.out (by decide)) BK130.out (by decide)) BK138.out (by decide)).1 k_ hs_.symm).1.2) (fun hn_ => (Kd.freshB (g := gb130) (o := .cells #[.bool false, .slice none 0 0, .int .i64 0] 40 (0, 0)) (by (with_reducible repeat (first | refine blk_drewN ?_ _ | refine blk_drew ?_ | refine blk_alloc ?_ _)); exact BK130.out) k_ hn_)), Or.elim hk_ (fun hs_ => ((Kd.R_types (Kd.R_types (Kd.R_types (HO133.out) BK129.out (by decide)) BK130.out (by decide)) BK138.out (by decide)).1 k_ hs_.symm).2) (fun hn_ => (Kd.freshB (g := gb138) (o := .cells #[.bool false, .slice none 0 0] 38 (0, 0)) (by (with_reducible repeat (first | refine blk_drewN ?_ _ | refine blk_drew ?_ | refine blk_alloc ?_ _)); exact BK138.out) k_ hn_))⟩)) (below_size (by repeat (first | (with_reducible first | exact HB.out | apply below_alloc | apply pw_below_drewN | apply below_drew1 | refine below_set ?_ GE129.out | refine below_set ?_ GE130.out | refine below_set ?_ GE138.out) | exact HB.out))))
          have n2_ := Aside0.mk (blk_below (g := gb129) (o := .cells #[.bool a0_0, .int .u64 a0_1, .int .i64 a0_2] 34 (0, 0)) (by (with_reducible repeat (first | refine blk_drewN ?_ _ | refine blk_drew ?_ | refine blk_alloc ?_ _)); exact BK129.out) hb)
          have n3_ := Aside0.mk (blk_below (g := gb130) (o := .cells #[.bool false, .slice none 0 0, .int .i64 0] 40 (0, 0)) (by (with_reducible repeat (first | refine blk_drewN ?_ _ | refine blk_drew ?_ | refine blk_alloc ?_ _)); exact BK130.out) hb)
          have n4_ := Aside0.mk (blk_below (g := gb138) (o := .cells #[.bool false, .slice none 0 0] 38 (0, 0)) (by (with_reducible repeat (first | refine blk_drewN ?_ _ | refine blk_drew ?_ | refine blk_alloc ?_ _)); exact BK138.out) hb)
          have n5_ := Aside0.mk (below_step (by repeat (first | (with_reducible first | exact HB.out | apply below_alloc | apply pw_below_drewN | apply below_drew1 | refine below_set ?_ GE129.out | refine below_set ?_ GE130.out | refine below_set ?_ GE138.out) | exact HB.out)) hb)
          clear HO133
          clear BK129
          clear BK130
          clear BK138
          clear HB
          have HO133 := n0_
          have HO137 := n1_
          have BK129 := n2_
          have BK130 := n3_
          have BK138 := n4_
          have HB := n5_
          clear n0_ n1_ n2_ n3_ n4_ n5_
          (try clear hb)
          (try clear hb2)
          (try clear hk)
          (try clear hi)
          (try clear ho0)
          refine hK.out _ _ ⟨(blk_cell BK129.out 0).trans rfl, (blk_cell BK129.out 1).trans rfl, (blk_cell BK129.out 2).trans rfl⟩ (fun hHeld => ?_)
          clear hK K
          refine norm_ (a' := ?_) ?_ ?_
          rotate_left
          · show Act.put _ (some 10) _ = _
            simp only [Act.put, List.setIfInBounds_toArray, List.set_cons_zero, List.set_cons_succ, i64_w, i32_w]
            rfl
          exact norm_ (by simp only [putAll, Act.put, List.setIfInBounds_toArray, List.set_cons_zero, List.set_cons_succ]) (hCont (.slice Ao29 t131.length co29, v136, gb138) _ ⟨hHeld, (by (with_reducible repeat (first | apply Kd.R_alloc | apply Kd.R_drewN | apply Kd.R_drew)); exact Kd.R_mono HO133.out (fun _ hk => hk.1)), (by (with_reducible repeat (first | apply Kd.V_alloc | apply Kd.V_drewN | apply Kd.V_drew)); exact HO137.out), (by (with_reducible repeat (first | refine blk_drewN ?_ _ | refine blk_drew ?_ | refine blk_alloc ?_ _)); exact BK129.out), (by (with_reducible repeat (first | refine blk_drewN ?_ _ | refine blk_drew ?_ | refine blk_alloc ?_ _)); exact BK130.out), (by (with_reducible repeat (first | refine blk_drewN ?_ _ | refine blk_drew ?_ | refine blk_alloc ?_ _)); exact BK138.out), GW138.out, GE138.out, NB129_138.out, NB138_129.out, NB130_138.out, NB138_130.out, (by repeat (first | (with_reducible first | exact HB.out | apply below_alloc | apply pw_below_drewN | apply below_drew1 | refine below_set ?_ GE129.out | refine below_set ?_ GE130.out | refine below_set ?_ GE138.out) | exact HB.out))⟩)
      rintro ⟨v132, v136, gb138⟩ w31 ⟨hS_, h0_, h1_, h2_, h3_, h4_, h5_, h6_, h7_, h8_, h9_, h10_, h11_⟩
      have n0_ : Aside0 (Kd.R (Kd.int .u32) 59 w31 w.heap.size (fun k_ => (w.heap.size ≤ k_)) v132 t131) := ⟨h0_⟩
      have n1_ : Aside0 (Kd.V (Kd.int .u32) 59 w31 w.heap.size (fun k_ => (w.heap.size ≤ k_) ∧ k_ ≠ gb129 ∧ k_ ≠ gb130 ∧ k_ ≠ gb138) v136 t135) := ⟨h1_⟩
      have n2_ : Aside0 (w31.heap[gb129]? = some (.cells #[.bool a0_0, .int .u64 a0_1, .int .i64 a0_2] 34 (0, 0))) := ⟨h2_⟩
      have n3_ : Aside0 (w31.heap[gb130]? = some (.cells #[.bool false, .slice none 0 0, .int .i64 0] 40 (0, 0))) := ⟨h3_⟩
      have n4_ : Aside0 (w31.heap[gb138]? = some (.cells #[.bool false, .slice none 0 0] 38 (0, 0))) := ⟨h4_⟩
      have n5_ : Aside0 (w.heap.size ≤ gb138) := ⟨h5_⟩
      have n6_ : Aside0 (w.heap.size ≤ gb138) := ⟨h6_⟩
      have n7_ : Aside0 (gb129 ≠ gb138) := ⟨h7_⟩
      have n8_ : Aside0 (gb138 ≠ gb129) := ⟨h8_⟩
      have n9_ : Aside0 (gb130 ≠ gb138) := ⟨h9_⟩
      have n10_ : Aside0 (gb138 ≠ gb130) := ⟨h10_⟩
      have n11_ : Aside0 (Below w.heap.size w w31) := ⟨h11_⟩
      clear BK129
      clear BK130
      clear HB
      clear h0_ h1_ h2_ h3_ h4_ h5_ h6_ h7_ h8_ h9_ h10_ h11_
      have HO133 := n0_
      have HO137 := n1_
      have BK129 := n2_
      have BK130 := n3_
      have BK138 := n4_
      have GW138 := n5_
      have GE138 := n6_
      have NB129_138 := n7_
      have NB138_129 := n8_
      have NB130_138 := n9_
      have NB138_130 := n10_
      have HB := n11_
      clear n0_ n1_ n2_ n3_ n4_ n5_ n6_ n7_ n8_ n9_ n10_ n11_
      have hHeld : w31.cell? ⟨gb129, 0, none⟩ = some (.bool a0_0) ∧ w31.cell? ⟨gb129, 1, none⟩ = some (.int .u64 a0_1) ∧ w31.cell? ⟨gb129, 2, none⟩ = some (.int .i64 a0_2) := hS_
      obtain ⟨Ao33, co33, eo33⟩ := Kd.V_slice HO137.out
      (first | subst eo33 | (injection eo33 with f1_ f2_ f3_; have f4_ := f1_.symm; have f5_ := f3_.symm; clear f1_ f2_ f3_; subst f4_; subst f5_))
      refine norm_ (a' := ?_) ?_ ?_
      rotate_left
      · simp only [putAll, Act.put, List.setIfInBounds_toArray, List.set_cons_zero, List.set_cons_succ]
        rfl
      refine one_ (i := 7) (N := none) #[true, true, true, true, true, true, true, true] rfl rfl (one_of HT_.out (by kernel_rfl)) (by decide) (fun K hK => ?_)
      have hs32 : w31.cell? ⟨gb138, 0, none⟩ = some (.bool false) := (blk_cell BK138.out 0).trans rfl
      have hfs32 := blk_frozen BK138.out 0
      have hns32_0 := NB129_138.out
      have hns32_1 := NB130_138.out
      have hms32_0 := NB138_129.out
      have hms32_1 := NB138_130.out
      have hs34 : w31.cell? ⟨gb138, 1, none⟩ = some (.slice none 0 0) := (blk_cell BK138.out 1).trans rfl
      have hfs34 := blk_frozen BK138.out 1
      have hns34_0 := NB129_138.out
      have hns34_1 := NB130_138.out
      have hms34_0 := NB138_129.out
      have hms34_1 := NB138_130.out
      refine skip_ (w1 := ?_) (by rfl) rfl ?_ ?_
      rotate_left
      · go_simp
        rfl
      refine hK.out _ _ ⟨((cell_far (p := ⟨gb138, _, none⟩) NB129_138.out _).trans (((cell_far (p := ⟨gb138, _, none⟩) NB129_138.out _).trans (hHeld.1)))), ((cell_far (p := ⟨gb138, _, none⟩) NB129_138.out _).trans (((cell_far (p := ⟨gb138, _, none⟩) NB129_138.out _).trans (hHeld.2.1)))), ((cell_far (p := ⟨gb138, _, none⟩) NB129_138.out _).trans (((cell_far (p := ⟨gb138, _, none⟩) NB129_138.out _).trans (hHeld.2.2))))⟩ (fun hHeld => ?_)
      clear hK K
      refine done_ (done_of HT_.out (by kernel_rfl)) ?_
      try go_wp2
      have n0_ : Aside0 (Kd.R (Kd.int .u32) 59 ((w31.setCell ⟨gb138, 0, none⟩ (.bool t134)).setCell ⟨gb138, 1, none⟩ (.slice Ao33 t135.length co33)) w.heap.size (fun k_ => (w.heap.size ≤ k_)) v132 t131) := ⟨by (with_reducible repeat (first | apply Kd.R_alloc | apply Kd.R_drewN | apply Kd.R_drew)); exact Kd.R_mono (Kd.R_far (p := ⟨gb138, 1, none⟩) (Kd.R_far (p := ⟨gb138, 0, none⟩) (Kd.R_types HO133.out BK138.out (by decide)) (fun _ hk => hk.2) (.bool t134)) (fun _ hk => hk.2) (.slice Ao33 t135.length co33)) (fun _ hk => hk.1)⟩
      have n1_ : Aside0 (Kd.V (Kd.int .u32) 59 ((w31.setCell ⟨gb138, 0, none⟩ (.bool t134)).setCell ⟨gb138, 1, none⟩ (.slice Ao33 t135.length co33)) w.heap.size (fun k_ => (w.heap.size ≤ k_) ∧ k_ ≠ gb129 ∧ k_ ≠ gb130 ∧ k_ ≠ gb138) (.slice Ao33 t135.length co33) t135) := ⟨by (with_reducible repeat (first | apply Kd.V_alloc | apply Kd.V_drewN | apply Kd.V_drew)); exact Kd.V_mono (Kd.V_far (p := ⟨gb138, 1, none⟩) (Kd.V_far (p := ⟨gb138, 0, none⟩) (Kd.V_mono HO137.out (fun k_ hk => (⟨hk, hk.2.2.2⟩ : _ ∧ k_ ≠ gb138))) (fun _ hk => hk.2) (.bool t134)) (fun _ hk => hk.2) (.slice Ao33 t135.length co33)) (fun _ hk => ⟨hk.1.1, ⟨hk.1.2.1, ⟨hk.1.2.2.1, hk.1.2.2.2⟩⟩⟩)⟩
      have n2_ : Aside0 (((w31.setCell ⟨gb138, 0, none⟩ (.bool t134)).setCell ⟨gb138, 1, none⟩ (.slice Ao33 t135.length co33)).heap[gb129]? = some (.cells #[.bool a0_0, .int .u64 a0_1, .int .i64 a0_2] 34 (0, 0))) := ⟨by (with_reducible repeat (first | refine blk_drewN ?_ _ | refine blk_drew ?_ | refine blk_alloc ?_ _)); refine blk_far ?_ NB129_138.out _; (with_reducible repeat (first | refine blk_drewN ?_ _ | refine blk_drew ?_ | refine blk_alloc ?_ _)); refine blk_far ?_ NB129_138.out _; (with_reducible repeat (first | refine blk_drewN ?_ _ | refine blk_drew ?_ | refine blk_alloc ?_ _)); exact BK129.out⟩
      have n3_ : Aside0 (((w31.setCell ⟨gb138, 0, none⟩ (.bool t134)).setCell ⟨gb138, 1, none⟩ (.slice Ao33 t135.length co33)).heap[gb130]? = some (.cells #[.bool false, .slice none 0 0, .int .i64 0] 40 (0, 0))) := ⟨by (with_reducible repeat (first | refine blk_drewN ?_ _ | refine blk_drew ?_ | refine blk_alloc ?_ _)); refine blk_far ?_ NB130_138.out _; (with_reducible repeat (first | refine blk_drewN ?_ _ | refine blk_drew ?_ | refine blk_alloc ?_ _)); refine blk_far ?_ NB130_138.out _; (with_reducible repeat (first | refine blk_drewN ?_ _ | refine blk_drew ?_ | refine blk_alloc ?_ _)); exact BK130.out⟩
      have n4_ : Aside0 (((w31.setCell ⟨gb138, 0, none⟩ (.bool t134)).setCell ⟨gb138, 1, none⟩ (.slice Ao33 t135.length co33)).heap[gb138]? = some (.cells #[.bool t134, .slice Ao33 t135.length co33] 38 (0, 0))) := ⟨by (with_reducible repeat (first | refine blk_drewN ?_ _ | refine blk_drew ?_ | refine blk_alloc ?_ _)); refine blk_put (cs := #[.bool t134, .slice none 0 0]) ?_ 1 _ rfl; (with_reducible repeat (first | refine blk_drewN ?_ _ | refine blk_drew ?_ | refine blk_alloc ?_ _)); refine blk_put (cs := #[.bool false, .slice none 0 0]) ?_ 0 _ rfl; (with_reducible repeat (first | refine blk_drewN ?_ _ | refine blk_drew ?_ | refine blk_alloc ?_ _)); exact BK138.out⟩
      have n5_ : Aside0 (Below w.heap.size w ((w31.setCell ⟨gb138, 0, none⟩ (.bool t134)).setCell ⟨gb138, 1, none⟩ (.slice Ao33 t135.length co33))) := ⟨by repeat (first | (with_reducible first | exact HB.out | apply below_alloc | apply pw_below_drewN | apply below_drew1 | refine below_set ?_ GE129.out | refine below_set ?_ GE130.out | refine below_set ?_ GE138.out) | exact HB.out)⟩
      (try clear HO133)
      (try clear HO137)
      (try clear BK129)
      (try clear BK130)
      (try clear BK138)
      (try clear HB)
      generalize ((w31.setCell ⟨gb138, 0, none⟩ (.bool t134)).setCell ⟨gb138, 1, none⟩ (.slice Ao33 t135.length co33)) = w35 at n0_ n1_ n2_ n3_ n4_ n5_ ⊢
      have HO133 := n0_
      have HO137 := n1_
      have BK129 := n2_
      have BK130 := n3_
      have BK138 := n4_
      have HB := n5_
      clear n0_ n1_ n2_ n3_ n4_ n5_
      have n0_ := Aside0.mk (Kd.R_drew HO133.out)
      have n1_ := Aside0.mk (Kd.V_drew HO137.out)
      have n2_ := Aside0.mk (blk_drew BK129.out)
      have n3_ := Aside0.mk (blk_drew BK130.out)
      have n4_ := Aside0.mk (blk_drew BK138.out)
      have n5_ := Aside0.mk (below_drew1 HB.out)
      clear HO133
      clear HO137
      clear BK129
      clear BK130
      clear BK138
      clear HB
      have HO133 := n0_
      have HO137 := n1_
      have BK129 := n2_
      have BK130 := n3_
      have BK138 := n4_
      have HB := n5_
      clear n0_ n1_ n2_ n3_ n4_ n5_
      refine start_ (n := 21) (S := fun w' => w'.cell? ⟨gb138, 0, none⟩ = some (.bool t134) ∧ w'.cell? ⟨gb138, 1, none⟩ = some (.slice Ao33 t135.length co33) ∧ w'.cell? ⟨gb129, 0, none⟩ = some (.bool a0_0) ∧ w'.cell? ⟨gb129, 1, none⟩ = some (.int .u64 a0_1) ∧ w'.cell? ⟨gb129, 2, none⟩ = some (.int .i64 a0_2)) (ds := []) #[false, false, false, false, false, false, false, false, false, false, false, false, false, false, false, false, false, false, false, false, false] (by kernel_rfl) rfl rfl ⟨(blk_cell BK138.out 0).trans rfl, (blk_cell BK138.out 1).trans rfl, (blk_cell BK129.out 0).trans rfl, (blk_cell BK129.out 1).trans rfl, (blk_cell BK129.out 2).trans rfl⟩ (fun hHeld => ?_); refine with_tabW spec_OfFix.tab2 spec_OfFix.bits2 (fun HT_ HW_ => ?_)
      generalize w35.drew = w36 at HO133 HO137 BK129 BK130 BK138 HB hHeld ⊢
      refine pure_ (i := 1) (N := some 12) (v := ?_) (a' := ?_) #[false, true, false, false, false, false, false, false, false, false, false, false, false, false, false, false, false, false, false, false, false] rfl rfl (any_of HT_.out (by kernel_rfl)) (fun _ _ _ h => h) (Or.inl ⟨by rfl, ?_⟩) ?_ ?_
      rotate_left
      · intro w'
        go_simp
        with_reducible rfl
      rotate_left
      · simp only [Act.put, List.setIfInBounds_toArray, List.set_cons_zero, List.set_cons_succ, i64_w, i32_w]
        rfl
      refine pure_ (i := 5) (N := some 16) (v := ?_) (a' := ?_) #[false, true, false, false, false, true, false, false, false, false, false, false, false, false, false, false, false, false, false, false, false] rfl rfl (any_of HT_.out (by kernel_rfl)) (fun _ _ _ h => h) (Or.inl ⟨by rfl, ?_⟩) ?_ ?_
      rotate_left
      · intro w'
        go_simp
        with_reducible rfl
      rotate_left
      · simp only [Act.put, List.setIfInBounds_toArray, List.set_cons_zero, List.set_cons_succ, i64_w, i32_w]
        rfl
      refine take_ (i := 0) (N := some 11) (v := ?_) (a' := ?_) #[true, true, false, false, false, true, false, false, false, false, false, false, false, false, false, false, false, false, false, false, false] rfl rfl (take_ofW HT_.out HW_.out (by kernel_rfl)) (fun _ _ _ h => h) (Or.inl ⟨by rfl, ?_⟩) hHeld ?_ ?_
      rotate_left
      · rintro w' ⟨s0, s1, s2, s3, s4⟩
        go_simp
        with_reducible rfl
      rotate_left
      · simp only [Act.put, List.setIfInBounds_toArray, List.set_cons_zero, List.set_cons_succ, i64_w, i32_w]
        rfl
      refine take_ (i := 2) (N := some 13) (v := ?_) (a' := ?_) #[true, true, true, false, false, true, false, false, false, false, false, false, false, false, false, false, false, false, false, false, false] rfl rfl (take_ofW HT_.out HW_.out (by kernel_rfl)) (fun _ _ _ h => h) (Or.inl ⟨by rfl, ?_⟩) hHeld ?_ ?_
      rotate_left
      · rintro w' ⟨s0, s1, s2, s3, s4⟩
        go_simp
        with_reducible rfl
      rotate_left
      · simp only [Act.put, List.setIfInBounds_toArray, List.set_cons_zero, List.set_cons_succ, i64_w, i32_w]
        rfl
      refine pure_ (i := 3) (N := some 14) (v := ?_) (a' := ?_) #[true, true, true, true, false, true, false, false, false, false, false, false, false, false, false, false, false, false, false, false, false] rfl rfl (any_of HT_.out (by kernel_rfl)) (fun _ _ _ h => h) (Or.inl ⟨by rfl, ?_⟩) ?_ ?_
      rotate_left
      · intro w'
        go_simp
        with_reducible rfl
      rotate_left
      · simp only [Act.put, List.setIfInBounds_toArray, List.set_cons_zero, List.set_cons_succ, i64_w, i32_w]
        rfl
      refine pure_ (i := 4) (N := some 15) (v := ?_) (a' := ?_) #[true, true, true, true, true, true, false, false, false, false, false, false, false, false, false, false, false, false, false, false, false] rfl rfl (any_of HT_.out (by kernel_rfl)) (fun _ _ _ h => h) (Or.inl ⟨by rfl, ?_⟩) ?_ ?_
      rotate_left
      · intro w'
        go_simp
        with_reducible rfl
      rotate_left
      · simp only [Act.put, List.setIfInBounds_toArray, List.set_cons_zero, List.set_cons_succ, i64_w, i32_w]
        rfl
      refine take_ (i := 6) (N := some 17) (v := ?_) (a' := ?_) #[true, true, true, true, true, true, true, false, false, false, false, false, false, false, false, false, false, false, false, false, false] rfl rfl (take_ofW HT_.out HW_.out (by kernel_rfl)) (fun _ _ _ h => h) (Or.inl ⟨by rfl, ?_⟩) hHeld ?_ ?_
      rotate_left
      · rintro w' ⟨s0, s1, s2, s3, s4⟩
        go_simp
        with_reducible rfl
      rotate_left
      · simp only [Act.put, List.setIfInBounds_toArray, List.set_cons_zero, List.set_cons_succ, i64_w, i32_w]
        rfl
      refine one_ (i := 7) (N := some 18) #[true, true, true, true, true, true, true, true, false, false, false, false, false, false, false, false, false, false, false, false, false] rfl rfl (one_of HT_.out (by kernel_rfl)) (by decide) (fun K hK => ?_)
      refine goes_ Tryd.func29 (by kernel_rfl) rfl #[.slice Ao33 t135.length co33] (by rfl) rfl rfl (by (try simp only [List.map_toArray, List.map_cons, List.map_nil]); first | done | rfl | (simp only [List.length_drop, List.length_take]; rfl)) ?_
      with_reducible refine (spec_Nat_Digits.calls k _ _ t135 t139 _ ?side1 ?side2 A4.out).mono ?_
      (case side1 => repeat (first | exact (Kd.V_reads' HO137.out).2.2 | (with_reducible refine Kd.C_alloc ?_ _) | (with_reducible refine Kd.C_drewN ?_ _) | (with_reducible refine Kd.C_drew ?_)))
      (case side2 => exact (Kd.V_reads' HO137.out).2.1)
      rintro e w37 ⟨rfl, hb⟩
      refine ⟨_, rfl, ?_⟩
      have n0_ := Aside0.mk (Kd.R_below (by (with_reducible repeat (first | apply Kd.R_alloc | apply Kd.R_drewN | apply Kd.R_drew)); exact HO133.out) hb)
      have n1_ := Aside0.mk (Kd.V_below (by (with_reducible repeat (first | apply Kd.V_alloc | apply Kd.V_drewN | apply Kd.V_drew)); exact HO137.out) hb)
      have n2_ := Aside0.mk (blk_below (g := gb129) (o := .cells #[.bool a0_0, .int .u64 a0_1, .int .i64 a0_2] 34 (0, 0)) (by (with_reducible repeat (first | refine blk_drewN ?_ _ | refine blk_drew ?_ | refine blk_alloc ?_ _)); exact BK129.out) hb)
      have n3_ := Aside0.mk (blk_below (g := gb130) (o := .cells #[.bool false, .slice none 0 0, .int .i64 0] 40 (0, 0)) (by (with_reducible repeat (first | refine blk_drewN ?_ _ | refine blk_drew ?_ | refine blk_alloc ?_ _)); exact BK130.out) hb)
      have n4_ := Aside0.mk (blk_below (g := gb138) (o := .cells #[.bool t134, .slice Ao33 t135.length co33] 38 (0, 0)) (by (with_reducible repeat (first | refine blk_drewN ?_ _ | refine blk_drew ?_ | refine blk_alloc ?_ _)); exact BK138.out) hb)
      have n5_ := Aside0.mk (below_step (by repeat (first | (with_reducible first | exact HB.out | apply below_alloc | apply pw_below_drewN | apply below_drew1 | refine below_set ?_ GE129.out | refine below_set ?_ GE130.out | refine below_set ?_ GE138.out) | exact HB.out)) hb)
      clear HO133
      clear HO137
      clear BK129
      clear BK130
      clear BK138
      clear HB
      have HO133 := n0_
      have HO137 := n1_
      have BK129 := n2_
      have BK130 := n3_
      have BK138 := n4_
      have HB := n5_
      clear n0_ n1_ n2_ n3_ n4_ n5_
      (try clear hb)
      (try clear hb2)
      (try clear hk)
      (try clear hi)
      refine hK.out _ _ ⟨(blk_cell BK138.out 0).trans rfl, (blk_cell BK138.out 1).trans rfl, (blk_cell BK129.out 0).trans rfl, (blk_cell BK129.out 1).trans rfl, (blk_cell BK129.out 2).trans rfl⟩ (fun hHeld => ?_)
      clear hK K
      refine norm_ (a' := ?_) ?_ ?_
      rotate_left
      · show Act.put _ (some 18) _ = _
        simp only [Act.put, List.setIfInBounds_toArray, List.set_cons_zero, List.set_cons_succ, i64_w, i32_w]
        rfl
      refine pure_ (i := 8) (N := some 19) (v := ?_) (a' := ?_) #[true, true, true, true, true, true, true, true, true, false, false, false, false, false, false, false, false, false, false, false, false] rfl rfl (any_of HT_.out (by kernel_rfl)) (fun _ _ _ h => h) (Or.inl ⟨by rfl, ?_⟩) ?_ ?_
      rotate_left
      · intro w'
        go_simp
        with_reducible rfl
      rotate_left
      · simp only [Act.put, List.setIfInBounds_toArray, List.set_cons_zero, List.set_cons_succ, i64_w, i32_w]
        rfl
      refine pure_ (i := 9) (N := some 20) (v := ?_) (a' := ?_) #[true, true, true, true, true, true, true, true, true, true, false, false, false, false, false, false, false, false, false, false, false] rfl rfl (any_of HT_.out (by kernel_rfl)) (fun _ _ _ h => h) (Or.inl ⟨by rfl, ?_⟩) ?_ ?_
      rotate_left
      · intro w'
        go_simp
        with_reducible rfl
      rotate_left
      · simp only [Act.put, List.setIfInBounds_toArray, List.set_cons_zero, List.set_cons_succ, i64_w, i32_w]
        rfl
      refine pure_ (i := 10) (N := some 21) (v := ?_) (a' := ?_) #[true, true, true, true, true, true, true, true, true, true, true, false, false, false, false, false, false, false, false, false, false] rfl rfl (any_of HT_.out (by kernel_rfl)) (fun _ _ _ h => h) (Or.inl ⟨by rfl, ?_⟩) ?_ ?_
      rotate_left
      · intro w'
        go_simp
        with_reducible rfl
      rotate_left
      · simp only [Act.put, List.setIfInBounds_toArray, List.set_cons_zero, List.set_cons_succ, i64_w, i32_w]
        rfl
      refine take_ (i := 11) (N := some 22) (v := ?_) (a' := ?_) #[true, true, true, true, true, true, true, true, true, true, true, true, false, false, false, false, false, false, false, false, false] rfl rfl (take_ofW HT_.out HW_.out (by kernel_rfl)) (fun _ _ _ h => h) (Or.inl ⟨by rfl, ?_⟩) hHeld ?_ ?_
      rotate_left
      · rintro w' ⟨s0, s1, s2, s3, s4⟩
        go_simp
        with_reducible rfl
      rotate_left
      · simp only [Act.put, List.setIfInBounds_toArray, List.set_cons_zero, List.set_cons_succ, i64_w, i32_w]
        rfl
      refine pure_ (i := 12) (N := some 23) (v := ?_) (a' := ?_) #[true, true, true, true, true, true, true, true, true, true, true, true, true, false, false, false, false, false, false, false, false] rfl rfl (any_of HT_.out (by kernel_rfl)) (fun _ _ _ h => h) (Or.inl ⟨by rfl, ?_⟩) ?_ ?_
      rotate_left
      · intro w'
        go_simp
        with_reducible rfl
      rotate_left
      · simp only [Act.put, List.setIfInBounds_toArray, List.set_cons_zero, List.set_cons_succ, i64_w, i32_w]
        rfl
      refine pure_ (i := 13) (N := some 24) (v := ?_) (a' := ?_) #[true, true, true, true, true, true, true, true, true, true, true, true, true, true, false, false, false, false, false, false, false] rfl rfl (any_of HT_.out (by kernel_rfl)) (fun _ _ _ h => h) (Or.inl ⟨by rfl, ?_⟩) ?_ ?_
      rotate_left
      · intro w'
        go_simp
        with_reducible rfl
      rotate_left
      · simp only [Act.put, List.setIfInBounds_toArray, List.set_cons_zero, List.set_cons_succ, i64_w, i32_w]
        rfl
      refine pure_ (i := 14) (N := some 25) (v := ?_) (a' := ?_) #[true, true, true, true, true, true, true, true, true, true, true, true, true, true, true, false, false, false, false, false, false] rfl rfl (any_of HT_.out (by kernel_rfl)) (fun _ _ _ h => h) (Or.inl ⟨by rfl, ?_⟩) ?_ ?_
      rotate_left
      · intro w'
        go_simp
        with_reducible rfl
      rotate_left
      · simp only [Act.put, List.setIfInBounds_toArray, List.set_cons_zero, List.set_cons_succ, i64_w, i32_w]
        rfl
      refine pure_ (i := 15) (N := some 26) (v := undef) (a' := ?_) #[true, true, true, true, true, true, true, true, true, true, true, true, true, true, true, true, false, false, false, false, false] rfl rfl (any_of HT_.out (by kernel_rfl)) (fun _ _ _ h => h) (Or.inr ⟨by rfl, rfl⟩) ?_ ?_
      rotate_left
      · simp only [Act.put, List.setIfInBounds_toArray, List.set_cons_zero, List.set_cons_succ, i64_w, i32_w]
        rfl
      refine pure_ (i := 16) (N := some 27) (v := undef) (a' := ?_) #[true, true, true, true, true, true, true, true, true, true, true, true, true, true, true, true, true, false, false, false, false] rfl rfl (any_of HT_.out (by kernel_rfl)) (fun _ _ _ h => h) (Or.inr ⟨by rfl, rfl⟩) ?_ ?_
      rotate_left
      · simp only [Act.put, List.setIfInBounds_toArray, List.set_cons_zero, List.set_cons_succ, i64_w, i32_w]
        rfl
      refine pure_ (i := 17) (N := some 28) (v := undef) (a' := ?_) #[true, true, true, true, true, true, true, true, true, true, true, true, true, true, true, true, true, true, false, false, false] rfl rfl (any_of HT_.out (by kernel_rfl)) (fun _ _ _ h => h) (Or.inr ⟨by rfl, rfl⟩) ?_ ?_
      rotate_left
      · simp only [Act.put, List.setIfInBounds_toArray, List.set_cons_zero, List.set_cons_succ, i64_w, i32_w]
        rfl
      refine pure_ (i := 18) (N := some 29) (v := ?_) (a' := ?_) #[true, true, true, true, true, true, true, true, true, true, true, true, true, true, true, true, true, true, true, false, false] rfl rfl (any_of HT_.out (by kernel_rfl)) (fun _ _ _ h => h) (Or.inl ⟨by rfl, ?_⟩) ?_ ?_
      rotate_left
      · intro w'
        go_simp
        with_reducible rfl
      rotate_left
      · simp only [Act.put, List.setIfInBounds_toArray, List.set_cons_zero, List.set_cons_succ, i64_w, i32_w]
        rfl
      refine one_ (i := 19) (N := none) #[true, true, true, true, true, true, true, true, true, true, true, true, true, true, true, true, true, true, true, true, false] rfl rfl (one_of HT_.out (by kernel_rfl)) (by decide) (fun K hK => ?_)
      have hs38 : w37.cell? ⟨gb130, 0, none⟩ = some (.bool false) := (blk_cell BK130.out 0).trans rfl
      have hfs38 := blk_frozen BK130.out 0
      have hns38_0 := NB129_130.out
      have hns38_2 := NB138_130.out
      have hms38_0 := NB130_129.out
      have hms38_2 := NB130_138.out
      have hs39 : w37.cell? ⟨gb130, 1, none⟩ = some (.slice none 0 0) := (blk_cell BK130.out 1).trans rfl
      have hfs39 := blk_frozen BK130.out 1
      have hns39_0 := NB129_130.out
      have hns39_2 := NB138_130.out
      have hms39_0 := NB130_129.out
      have hms39_2 := NB130_138.out
      have hs40 : w37.cell? ⟨gb130, 2, none⟩ = some (.int .i64 0) := (blk_cell BK130.out 2).trans rfl
      have hfs40 := blk_frozen BK130.out 2
      have hns40_0 := NB129_130.out
      have hns40_2 := NB138_130.out
      have hms40_0 := NB130_129.out
      have hms40_2 := NB130_138.out
      refine skip_ (w1 := ?_) (by rfl) rfl ?_ ?_
      rotate_left
      · go_simp
        rfl
      refine hK.out _ _ ⟨((cell_far (p := ⟨gb130, _, none⟩) NB138_130.out _).trans (((cell_far (p := ⟨gb130, _, none⟩) NB138_130.out _).trans (((cell_far (p := ⟨gb130, _, none⟩) NB138_130.out _).trans (hHeld.1)))))), ((cell_far (p := ⟨gb130, _, none⟩) NB138_130.out _).trans (((cell_far (p := ⟨gb130, _, none⟩) NB138_130.out _).trans (((cell_far (p := ⟨gb130, _, none⟩) NB138_130.out _).trans (hHeld.2.1)))))), ((cell_far (p := ⟨gb130, _, none⟩) NB129_130.out _).trans (((cell_far (p := ⟨gb130, _, none⟩) NB129_130.out _).trans (((cell_far (p := ⟨gb130, _, none⟩) NB129_130.out _).trans (hHeld.2.2.1)))))), ((cell_far (p := ⟨gb130, _, none⟩) NB129_130.out _).trans (((cell_far (p := ⟨gb130, _, none⟩) NB129_130.out _).trans (((cell_far (p := ⟨gb130, _, none⟩) NB129_130.out _).trans (hHeld.2.2.2.1)))))), ((cell_far (p := ⟨gb130, _, none⟩) NB129_130.out _).trans (((cell_far (p := ⟨gb130, _, none⟩) NB129_130.out _).trans (((cell_far (p := ⟨gb130, _, none⟩) NB129_130.out _).trans (hHeld.2.2.2.2))))))⟩ (fun hHeld => ?_)
      clear hK K
      refine pure_ (i := 20) (N := some 3) (v := ?_) (a' := ?_) #[true, true, true, true, true, true, true, true, true, true, true, true, true, true, true, true, true, true, true, true, true] rfl rfl (any_of HT_.out (by kernel_rfl)) (fun _ _ _ h => h) (Or.inl ⟨by rfl, ?_⟩) ?_ ?_
      rotate_left
      · intro w'
        go_simp
        with_reducible rfl
      rotate_left
      · simp only [Act.put, List.setIfInBounds_toArray, List.set_cons_zero, List.set_cons_succ, i64_w, i32_w]
        rfl
      refine done_ (done_of HT_.out (by kernel_rfl)) ?_
      try go_wp2
      refine bodyPost_ret (results_ct rfl _ _ gb130 40 #[.bool t134, .slice Ao33 t135.length co33, .int .i64 (wrap64 (-a0_2))] (0, 0) _ rfl (by (with_reducible repeat (first | refine blk_drewN ?_ _ | refine blk_drew ?_ | refine blk_alloc ?_ _)); refine blk_put (cs := #[.bool t134, .slice Ao33 t135.length co33, .int .i64 0]) ?_ 2 _ rfl; (with_reducible repeat (first | refine blk_drewN ?_ _ | refine blk_drew ?_ | refine blk_alloc ?_ _)); refine blk_put (cs := #[.bool t134, .slice none 0 0, .int .i64 0]) ?_ 1 _ rfl; (with_reducible repeat (first | refine blk_drewN ?_ _ | refine blk_drew ?_ | refine blk_alloc ?_ _)); refine blk_put (cs := #[.bool false, .slice none 0 0, .int .i64 0]) ?_ 0 _ rfl; (with_reducible repeat (first | refine blk_drewN ?_ _ | refine blk_drew ?_ | refine blk_alloc ?_ _)); exact BK130.out) Tryd.underlying40 rfl (by kernel_rfl)) rfl ?_
      exact ⟨_, by first | rfl | (simp [errW_none, errW_some] <;> rfl) | (simp [*, errW_none, errW_some] <;> rfl), by (with_reducible repeat (first | apply Kd.V_alloc | apply Kd.V_drewN | apply Kd.V_drew)); exact Kd.V_mono (Kd.V_far (p := ⟨gb130, 2, none⟩) (Kd.V_far (p := ⟨gb130, 1, none⟩) (Kd.V_far (p := ⟨gb130, 0, none⟩) (Kd.V_mono HO137.out (fun k_ hk => (⟨hk, hk.2.2.1⟩ : _ ∧ k_ ≠ gb130))) (fun _ hk => hk.2) (.bool t134)) (fun _ hk => hk.2) (.slice Ao33 t135.length co33)) (fun _ hk => hk.2) (.int .i64 (wrap64 (-a0_2)))) (fun _ hk => hk.1.1), by repeat (first | (with_reducible first | exact HB.out | apply below_alloc | apply pw_below_drewN | apply below_drew1 | refine below_set ?_ GE129.out | refine below_set ?_ GE130.out | refine below_set ?_ GE138.out) | exact HB.out)⟩
  · rw [if_neg c5] at H
    have c5b0 : decide (t139 ≤ 19) = false := decide_eq_false c5
    clear c5
    simp only [Option.some.injEq, Prod.mk.injEq] at H
    obtain ⟨rfl, rfl, rfl, rfl⟩ := H
    go_enter Tryd.func16, Tryd.ntmps16
    try go_wp2_with (first | ((with_reducible refine gate_dst (N := 1) rfl ?_); refine box_event ?hg (N := 1) ?hd (cs := #[.bool a0_0, .int .u64 a0_1, .int .i64 a0_2]) (t := 34) ?hr ?_; (case hd => rfl); (case hg => rfl); (case hr => first | (go_simp; done) | (go_simp; rfl)); intro gb129 hg w41 hbox hb; have n0_ := Aside0.mk (below_step (by repeat (first | (with_reducible first | exact HB.out | apply below_alloc | apply pw_below_drewN | apply below_drew1) | exact HB.out)) hb); have n1_ := Aside0.mk (hbox); have n2_ := Aside0.mk ((by rw [hg]; exact (below_size (by repeat (first | (with_reducible first | exact HB.out | apply below_alloc | apply pw_below_drewN | apply below_drew1) | exact HB.out))) : w.heap.size ≤ gb129)); have n3_ := Aside0.mk ((by rw [hg]; exact (below_size (by repeat (first | (with_reducible first | exact HB.out | apply below_alloc | apply pw_below_drewN | apply below_drew1) | exact HB.out))) : w.heap.size ≤ gb129)); clear HB; have HB := n0_; have BK129 := n1_; have GW129 := n2_; have GE129 := n3_; clear n0_ n1_ n2_ n3_; clear hb hbox hg) | ((with_reducible refine gate_dst (N := 2) rfl ?_); refine box_event ?hg (N := 2) ?hd (cs := #[.bool false, .slice none 0 0, .int .i64 0]) (t := 40) ?hr ?_; (case hd => rfl); (case hg => rfl); (case hr => first | (go_simp; done) | (go_simp; rfl)); intro gb130 hg w42 hbox hb; have n0_ := Aside0.mk (blk_below (g := gb129) (o := .cells #[.bool a0_0, .int .u64 a0_1, .int .i64 a0_2] 34 (0, 0)) (by (with_reducible repeat (first | refine blk_drewN ?_ _ | refine blk_drew ?_ | refine blk_alloc ?_ _)); exact BK129.out) hb); have n1_ := Aside0.mk (below_step (by repeat (first | (with_reducible first | exact HB.out | apply below_alloc | apply pw_below_drewN | apply below_drew1 | refine below_set ?_ GE129.out) | exact HB.out)) hb); have n2_ := Aside0.mk (hbox); have n3_ := Aside0.mk ((by rw [hg]; exact (below_size (by repeat (first | (with_reducible first | exact HB.out | apply below_alloc | apply pw_below_drewN | apply below_drew1 | refine below_set ?_ GE129.out) | exact HB.out))) : w.heap.size ≤ gb130)); have n4_ := Aside0.mk ((by rw [hg]; exact (below_size (by repeat (first | (with_reducible first | exact HB.out | apply below_alloc | apply pw_below_drewN | apply below_drew1 | refine below_set ?_ GE129.out) | exact HB.out))) : w.heap.size ≤ gb130)); have n5_ := Aside0.mk ((by rw [hg]; exact Nat.ne_of_lt (blk_lt (g := gb129) (o := .cells #[.bool a0_0, .int .u64 a0_1, .int .i64 a0_2] 34 (0, 0)) (by (with_reducible repeat (first | refine blk_drewN ?_ _ | refine blk_drew ?_ | refine blk_alloc ?_ _)); exact BK129.out)) : gb129 ≠ gb130)); have n6_ := Aside0.mk ((by rw [hg]; exact Nat.ne_of_gt (blk_lt (g := gb129) (o := .cells #[.bool a0_0, .int .u64 a0_1, .int .i64 a0_2] 34 (0, 0)) (by (with_reducible repeat (first | refine blk_drewN ?_ _ | refine blk_drew ?_ | refine blk_alloc ?_ _)); exact BK129.out)) : gb130 ≠ gb129)); clear BK129; clear HB; have BK129 := n0_; have HB := n1_; have BK130 := n2_; have GW130 := n3_; have GE130 := n4_; have NB129_130 := n5_; have NB130_129 := n6_; clear n0_ n1_ n2_ n3_ n4_ n5_ n6_; clear hb hbox hg))
    have n0_ := Aside0.mk (blk_drew BK129.out)
    have n1_ := Aside0.mk (blk_drew BK130.out)
    have n2_ := Aside0.mk (below_drew1 HB.out)
    clear BK129
    clear BK130
    clear HB
    have BK129 := n0_
    have BK130 := n1_
    have HB := n2_
    clear n0_ n1_ n2_
    refine start_ (n := 8) (S := fun w' => w'.cell? ⟨gb129, 0, none⟩ = some (.bool a0_0) ∧ w'.cell? ⟨gb129, 1, none⟩ = some (.int .u64 a0_1) ∧ w'.cell? ⟨gb129, 2, none⟩ = some (.int .i64 a0_2)) (ds := []) #[false, false, false, false, false, false, false, false] (by kernel_rfl) rfl rfl ⟨(blk_cell BK129.out 0).trans rfl, (blk_cell BK129.out 1).trans rfl, (blk_cell BK129.out 2).trans rfl⟩ (fun hHeld => ?_); refine with_tabW spec_OfFix.tab1 spec_OfFix.bits1 (fun HT_ HW_ => ?_)
    generalize w42.drew = w43 at BK129 BK130 HB hHeld ⊢
    refine pure_ (i := 0) (N := some 5) (v := ?_) (a' := ?_) #[true, false, false, false, false, false, false, false] rfl rfl (any_of HT_.out (by kernel_rfl)) (fun _ _ _ h => h) (Or.inl ⟨by rfl, ?_⟩) ?_ ?_
    rotate_left
    · intro w'
      go_simp
      with_reducible rfl
    rotate_left
    · simp only [Act.put, List.setIfInBounds_toArray, List.set_cons_zero, List.set_cons_succ, i64_w, i32_w]
      rfl
    refine pure_ (i := 2) (N := some 7) (v := ?_) (a' := ?_) #[true, false, true, false, false, false, false, false] rfl rfl (any_of HT_.out (by kernel_rfl)) (fun _ _ _ h => h) (Or.inl ⟨by rfl, ?_⟩) ?_ ?_
    rotate_left
    · intro w'
      go_simp
      with_reducible rfl
    rotate_left
    · simp only [Act.put, List.setIfInBounds_toArray, List.set_cons_zero, List.set_cons_succ, i64_w, i32_w]
      rfl
    refine take_ (i := 1) (N := some 6) (v := ?_) (a' := ?_) #[true, true, true, false, false, false, false, false] rfl rfl (take_ofW HT_.out HW_.out (by kernel_rfl)) (fun _ _ _ h => h) (Or.inl ⟨by rfl, ?_⟩) hHeld ?_ ?_
    rotate_left
    · rintro w' ⟨s0, s1, s2⟩
      go_simp
      with_reducible rfl
    rotate_left
    · simp only [Act.put, List.setIfInBounds_toArray, List.set_cons_zero, List.set_cons_succ, i64_w, i32_w]
      rfl
    refine take_ (i := 3) (N := some 8) (v := ?_) (a' := ?_) #[true, true, true, true, false, false, false, false] rfl rfl (take_ofW HT_.out HW_.out (by kernel_rfl)) (fun _ _ _ h => h) (Or.inl ⟨by rfl, ?_⟩) hHeld ?_ ?_
    rotate_left
    · rintro w' ⟨s0, s1, s2⟩
      go_simp
      with_reducible rfl
    rotate_left
    · simp only [Act.put, List.setIfInBounds_toArray, List.set_cons_zero, List.set_cons_succ, i64_w, i32_w]
      rfl
    refine join_ (σ := Value × Value × Nat) 1 #[true, true, true, true, true, true, true, false] (fun s_ => [(9, s_.1), (10, .agg #[.bool t134, s_.2.1]), (4, .pointer (some ⟨s_.2.2, 0, none⟩))]) (fun s_ w' => (w'.cell? ⟨gb129, 0, none⟩ = some (.bool a0_0) ∧ w'.cell? ⟨gb129, 1, none⟩ = some (.int .u64 a0_1) ∧ w'.cell? ⟨gb129, 2, none⟩ = some (.int .i64 a0_2)) ∧ (Kd.R (Kd.int .u32) 59 w' w.heap.size (fun k_ => (w.heap.size ≤ k_)) s_.1 t131) ∧ (Kd.V (Kd.int .u32) 59 w' w.heap.size (fun k_ => (w.heap.size ≤ k_) ∧ k_ ≠ gb129 ∧ k_ ≠ gb130 ∧ k_ ≠ s_.2.2) s_.2.1 t135) ∧ (w'.heap[gb129]? = some (.cells #[.bool a0_0, .int .u64 a0_1, .int .i64 a0_2] 34 (0, 0))) ∧ (w'.heap[gb130]? = some (.cells #[.bool false, .slice none 0 0, .int .i64 0] 40 (0, 0))) ∧ (w'.heap[s_.2.2]? = some (.cells #[.bool false, .slice none 0 0] 38 (0, 0))) ∧ (w.heap.size ≤ s_.2.2) ∧ (w.heap.size ≤ s_.2.2) ∧ (gb129 ≠ s_.2.2) ∧ (s_.2.2 ≠ gb129) ∧ (gb130 ≠ s_.2.2) ∧ (s_.2.2 ≠ gb130) ∧ (Below w.heap.size w w')) ?_ ?_
    rotate_left
    · intro hCont
      refine two_ (i := 4) (j := 6) (Ni := some 9) (Nj := some 4) #[true, true, true, true, true, false, false, false] #[true, true, true, true, false, false, true, false] rfl rfl rfl rfl (two_of HT_.out (by kernel_rfl)) (by decide) (by decide) (fun K hK => ?_) (fun K hK => ?_)
      · skip
        refine goes_ Tryd.func13 (by kernel_rfl) rfl #[.int .u64 a0_1] (by rfl) rfl rfl (by (try simp only [List.map_toArray, List.map_cons, List.map_nil]); first | done | rfl | (simp only [List.length_drop, List.length_take]; rfl)) ?_
        with_reducible refine (spec_NatFrom.calls k a0_1 t131 _ A2.out).mono ?_
        rintro e w44 ⟨v132, rfl, ho0, hb⟩
        refine ⟨_, rfl, ?_⟩
        have n0_ := Aside0.mk (Kd.R_lower (Kd.R_newM (M := fun k_ => (w.heap.size ≤ k_)) ho0 (below_size (by repeat (first | (with_reducible first | exact HB.out | apply below_alloc | apply pw_below_drewN | apply below_drew1 | refine below_set ?_ GE129.out | refine below_set ?_ GE130.out) | exact HB.out))) (fun k_ h_ => h_)) (below_size (by repeat (first | (with_reducible first | exact HB.out | apply below_alloc | apply pw_below_drewN | apply below_drew1 | refine below_set ?_ GE129.out | refine below_set ?_ GE130.out) | exact HB.out))))
        have n1_ := Aside0.mk (blk_below (g := gb129) (o := .cells #[.bool a0_0, .int .u64 a0_1, .int .i64 a0_2] 34 (0, 0)) (by (with_reducible repeat (first | refine blk_drewN ?_ _ | refine blk_drew ?_ | refine blk_alloc ?_ _)); exact BK129.out) hb)
        have n2_ := Aside0.mk (blk_below (g := gb130) (o := .cells #[.bool false, .slice none 0 0, .int .i64 0] 40 (0, 0)) (by (with_reducible repeat (first | refine blk_drewN ?_ _ | refine blk_drew ?_ | refine blk_alloc ?_ _)); exact BK130.out) hb)
        have n3_ := Aside0.mk (below_step (by repeat (first | (with_reducible first | exact HB.out | apply below_alloc | apply pw_below_drewN | apply below_drew1 | refine below_set ?_ GE129.out | refine below_set ?_ GE130.out) | exact HB.out)) hb)
        clear BK129
        clear BK130
        clear HB
        have HO133 := n0_
        have BK129 := n1_
        have BK130 := n2_
        have HB := n3_
        clear n0_ n1_ n2_ n3_
        (try clear hb)
        (try clear hb2)
        (try clear hk)
        (try clear hi)
        (try clear ho0)
        obtain ⟨Ao45, co45, eo45⟩ := Kd.R_slice HO133.out
        (first | subst eo45 | (injection eo45 with f1_ f2_ f3_; have f4_ := f1_.symm; have f5_ := f3_.symm; clear f1_ f2_ f3_; subst f4_; subst f5_))
        refine hK.out _ _ ⟨(blk_cell BK129.out 0).trans rfl, (blk_cell BK129.out 1).trans rfl, (blk_cell BK129.out 2).trans rfl⟩ (fun hHeld => ?_)
        clear hK K
        refine norm_ (a' := ?_) ?_ ?_
        rotate_left
        · show Act.put _ (some 9) _ = _
          simp only [Act.put, List.setIfInBounds_toArray, List.set_cons_zero, List.set_cons_succ, i64_w, i32_w]
          rfl
        refine two_ (i := 5) (j := 6) (Ni := some 10) (Nj := some 4) #[true, true, true, true, true, true, false, false] #[true, true, true, true, true, false, true, false] rfl rfl rfl rfl (two_of HT_.out (by kernel_rfl)) (by decide) (by decide) (fun K hK => ?_) (fun K hK => ?_)
        · skip
          refine goes_ Tryd.func34 (by kernel_rfl) rfl #[.bool a0_0, .slice Ao45 t131.length co45] (by rfl) rfl rfl (by (try simp only [List.map_toArray, List.map_cons, List.map_nil]); first | done | rfl | (simp only [List.length_drop, List.length_take]; rfl)) ?_
          with_reducible refine (spec_wholeOf.calls a0_0 (fun k_ => some k_ = (.slice Ao45 t131.length co45 : Value).ownBlock) _ _ t131 t134 t135 _ ?side1 A3.out).mono ?_
          (case side1 => exact Kd.R_V (Kd.R_tight rfl (Kd.R_types (Kd.R_types (HO133.out) BK129.out (by decide)) BK130.out (by decide))))
          rintro e w46 ⟨v136, rfl, ho0, hb⟩
          refine ⟨_, rfl, ?_⟩
          have n0_ := Aside0.mk (Kd.R_below (by (with_reducible repeat (first | apply Kd.R_alloc | apply Kd.R_drewN | apply Kd.R_drew)); exact HO133.out) hb)
          have n1_ := Aside0.mk (Kd.V_lower (Kd.V_mono (ok' := fun k_ => (w.heap.size ≤ k_) ∧ k_ ≠ gb129 ∧ k_ ≠ gb130) ho0 (fun k_ hk_ => ⟨Or.elim hk_ (fun hs_ => ((Kd.R_types (Kd.R_types (HO133.out) BK129.out (by decide)) BK130.out (by decide)).1 k_ hs_.symm).1.1.1) (fun hn_ => (Nat.le_trans (below_size (by repeat (first | (with_reducible first | exact HB.out | apply below_alloc | apply pw_below_drewN | apply below_drew1 | refine below_set ?_ GE129.out | refine below_set ?_ GE130.out) | exact HB.out))) hn_)), Or.elim hk_ (fun hs_ => ((Kd.R_types (Kd.R_types (HO133.out) BK129.out (by decide)) BK130.out (by decide)).1 k_ hs_.symm).1.2) (fun hn_ => (Kd.freshB (g := gb129) (o := .cells #[.bool a0_0, .int .u64 a0_1, .int .i64 a0_2] 34 (0, 0)) (by (with_reducible repeat (first | refine blk_drewN ?_ _ | refine blk_drew ?_ | refine blk_alloc ?_ _)); exact BK129.out) k_ hn_)), Or.elim hk_ (fun hs_ => ((Kd.R_types (Kd.R_types (HO133.out) BK129.out (by decide)) BK130.out (by decide)).1 k_ hs_.symm).2) (fun hn_ => (Kd.freshB (g := gb130) (o := .cells #[.bool false, .slice none 0 0, .int .i64 0] 40 (0, 0)) (by (with_reducible repeat (first | refine blk_drewN ?_ _ | refine blk_drew ?_ | refine blk_alloc ?_ _)); exact BK130.out) k_ hn_))⟩)) (below_size (by repeat (first | (with_reducible first | exact HB.out | apply below_alloc | apply pw_below_drewN | apply below_drew1 | refine below_set ?_ GE129.out | refine below_set ?_ GE130.out) | exact HB.out))))
          have n2_ := Aside0.mk (blk_below (g := gb129) (o := .cells #[.bool a0_0, .int .u64 a0_1, .int .i64 a0_2] 34 (0, 0)) (by (with_reducible repeat (first | refine blk_drewN ?_ _ | refine blk_drew ?_ | refine blk_alloc ?_ _)); exact BK129.out) hb)
          have n3_ := Aside0.mk (blk_below (g := gb130) (o := .cells #[.bool false, .slice none 0 0, .int .i64 0] 40 (0, 0)) (by (with_reducible repeat (first | refine blk_drewN ?_ _ | refine blk_drew ?_ | refine blk_alloc ?_ _)); exact BK130.out) hb)
          have n4_ := Aside0.mk (below_step (by repeat (first | (with_reducible first | exact HB.out | apply below_alloc | apply pw_below_drewN | apply below_drew1 | refine below_set ?_ GE129.out | refine below_set ?_ GE130.out) | exact HB.out)) hb)
          clear HO133
          clear BK129
          clear BK130
          clear HB
          have HO133 := n0_
          have HO137 := n1_
          have BK129 := n2_
          have BK130 := n3_
          have HB := n4_
          clear n0_ n1_ n2_ n3_ n4_
          (try clear hb)
          (try clear hb2)
          (try clear hk)
          (try clear hi)
          (try clear ho0)
          refine hK.out _ _ ⟨(blk_cell BK129.out 0).trans rfl, (blk_cell BK129.out 1).trans rfl, (blk_cell BK129.out 2).trans rfl⟩ (fun hHeld => ?_)
          clear hK K
          refine norm_ (a' := ?_) ?_ ?_
          rotate_left
          · show Act.put _ (some 10) _ = _
            simp only [Act.put, List.setIfInBounds_toArray, List.set_cons_zero, List.set_cons_succ, i64_w, i32_w]
            rfl
          refine one_ (i := 6) (N := some 4) #[true, true, true, true, true, true, true, false] rfl rfl (one_of HT_.out (by kernel_rfl)) (by decide) (fun K hK => ?_)
          refine box_step ?hg (N := 4) ?hd (cs := #[.bool false, .slice none 0 0]) (t := 38) ?hr ?_; (case hd => rfl); (case hg => rfl); (case hr => first | (go_simp; done) | (go_simp; rfl))
          intro gb138 hg w47 hbox hb
          have n0_ := Aside0.mk (Kd.R_below (by (with_reducible repeat (first | apply Kd.R_alloc | apply Kd.R_drewN | apply Kd.R_drew)); exact HO133.out) hb)
          have n1_ := Aside0.mk (Kd.V_below (Kd.V_elderB (by (with_reducible repeat (first | apply Kd.V_alloc | apply Kd.V_drewN | apply Kd.V_drew)); exact HO137.out) gb138 (Nat.le_of_eq hg.symm)) hb)
          have n2_ := Aside0.mk (blk_below (g := gb129) (o := .cells #[.bool a0_0, .int .u64 a0_1, .int .i64 a0_2] 34 (0, 0)) (by (with_reducible repeat (first | refine blk_drewN ?_ _ | refine blk_drew ?_ | refine blk_alloc ?_ _)); exact BK129.out) hb)
          have n3_ := Aside0.mk (blk_below (g := gb130) (o := .cells #[.bool false, .slice none 0 0, .int .i64 0] 40 (0, 0)) (by (with_reducible repeat (first | refine blk_drewN ?_ _ | refine blk_drew ?_ | refine blk_alloc ?_ _)); exact BK130.out) hb)
          have n4_ := Aside0.mk (below_step (by repeat (first | (with_reducible first | exact HB.out | apply below_alloc | apply pw_below_drewN | apply below_drew1 | refine below_set ?_ GE129.out | refine below_set ?_ GE130.out) | exact HB.out)) hb)
          have n5_ := Aside0.mk (hbox)
          have n6_ := Aside0.mk ((by rw [hg]; exact (below_size (by repeat (first | (with_reducible first | exact HB.out | apply below_alloc | apply pw_below_drewN | apply below_drew1 | refine below_set ?_ GE129.out | refine below_set ?_ GE130.out) | exact HB.out))) : w.heap.size ≤ gb138))
          have n7_ := Aside0.mk ((by rw [hg]; exact (below_size (by repeat (first | (with_reducible first | exact HB.out | apply below_alloc | apply pw_below_drewN | apply below_drew1 | refine below_set ?_ GE129.out | refine below_set ?_ GE130.out) | exact HB.out))) : w.heap.size ≤ gb138))
          have n8_ := Aside0.mk ((by rw [hg]; exact Nat.ne_of_lt (blk_lt (g := gb129) (o := .cells #[.bool a0_0, .int .u64 a0_1, .int .i64 a0_2] 34 (0, 0)) (by (with_reducible repeat (first | refine blk_drewN ?_ _ | refine blk_drew ?_ | refine blk_alloc ?_ _)); exact BK129.out)) : gb129 ≠ gb138))
          have n9_ := Aside0.mk ((by rw [hg]; exact Nat.ne_of_gt (blk_lt (g := gb129) (o := .cells #[.bool a0_0, .int .u64 a0_1, .int .i64 a0_2] 34 (0, 0)) (by (with_reducible repeat (first | refine blk_drewN ?_ _ | refine blk_drew ?_ | refine blk_alloc ?_ _)); exact BK129.out)) : gb138 ≠ gb129))
          have n10_ := Aside0.mk ((by rw [hg]; exact Nat.ne_of_lt (blk_lt (g := gb130) (o := .cells #[.bool false, .slice none 0 0, .int .i64 0] 40 (0, 0)) (by (with_reducible repeat (first | refine blk_drewN ?_ _ | refine blk_drew ?_ | refine blk_alloc ?_ _)); exact BK130.out)) : gb130 ≠ gb138))
          have n11_ := Aside0.mk ((by rw [hg]; exact Nat.ne_of_gt (blk_lt (g := gb130) (o := .cells #[.bool false, .slice none 0 0, .int .i64 0] 40 (0, 0)) (by (with_reducible repeat (first | refine blk_drewN ?_ _ | refine blk_drew ?_ | refine blk_alloc ?_ _)); exact BK130.out)) : gb138 ≠ gb130))
          clear HO133
          clear HO137
          clear BK129
          clear BK130
          clear HB
          have HO133 := n0_
          have HO137 := n1_
          have BK129 := n2_
          have BK130 := n3_
          have HB := n4_
          have BK138 := n5_
          have GW138 := n6_
          have GE138 := n7_
          have NB129_138 := n8_
          have NB138_129 := n9_
          have NB130_138 := n10_
          have NB138_130 := n11_
          clear n0_ n1_ n2_ n3_ n4_ n5_ n6_ n7_ n8_ n9_ n10_ n11_
          clear hb hbox hg
          refine hK.out _ _ ⟨(blk_cell BK129.out 0).trans rfl, (blk_cell BK129.out 1).trans rfl, (blk_cell BK129.out 2).trans rfl⟩ (fun hHeld => ?_)
          clear hK K
          refine norm_ (a' := ?_) ?_ ?_
          rotate_left
          · show Act.put _ (some 4) _ = _
            simp only [Act.put, List.setIfInBounds_toArray, List.set_cons_zero, List.set_cons_succ, i64_w, i32_w]
            rfl
          exact norm_ (by simp only [putAll, Act.put, List.setIfInBounds_toArray, List.set_cons_zero, List.set_cons_succ]) (hCont (.slice Ao45 t131.length co45, v136, gb138) _ ⟨hHeld, (by (with_reducible repeat (first | apply Kd.R_alloc | apply Kd.R_drewN | apply Kd.R_drew)); exact Kd.R_mono HO133.out (fun _ hk => hk.1)), (by (with_reducible repeat (first | apply Kd.V_alloc | apply Kd.V_drewN | apply Kd.V_drew)); exact Kd.V_mono HO137.out (fun _ hk => ⟨hk.1.1, ⟨hk.1.2.1, ⟨hk.1.2.2, hk.2⟩⟩⟩)), (by (with_reducible repeat (first | refine blk_drewN ?_ _ | refine blk_drew ?_ | refine blk_alloc ?_ _)); exact BK129.out), (by (with_reducible repeat (first | refine blk_drewN ?_ _ | refine blk_drew ?_ | refine blk_alloc ?_ _)); exact BK130.out), (by (with_reducible repeat (first | refine blk_drewN ?_ _ | refine blk_drew ?_ | refine blk_alloc ?_ _)); exact BK138.out), GW138.out, GE138.out, NB129_138.out, NB138_129.out, NB130_138.out, NB138_130.out, (by repeat (first | (with_reducible first | exact HB.out | apply below_alloc | apply pw_below_drewN | apply below_drew1 | refine below_set ?_ GE129.out | refine below_set ?_ GE130.out | refine below_set ?_ GE138.out) | exact HB.out))⟩)
        · skip
          refine box_step ?hg (N := 4) ?hd (cs := #[.bool false, .slice none 0 0]) (t := 38) ?hr ?_; (case hd => rfl); (case hg => rfl); (case hr => first | (go_simp; done) | (go_simp; rfl))
          intro gb138 hg w45 hbox hb
          have n0_ := Aside0.mk (Kd.R_below (by (with_reducible repeat (first | apply Kd.R_alloc | apply Kd.R_drewN | apply Kd.R_drew)); exact HO133.out) hb)
          have n1_ := Aside0.mk (blk_below (g := gb129) (o := .cells #[.bool a0_0, .int .u64 a0_1, .int .i64 a0_2] 34 (0, 0)) (by (with_reducible repeat (first | refine blk_drewN ?_ _ | refine blk_drew ?_ | refine blk_alloc ?_ _)); exact BK129.out) hb)
          have n2_ := Aside0.mk (blk_below (g := gb130) (o := .cells #[.bool false, .slice none 0 0, .int .i64 0] 40 (0, 0)) (by (with_reducible repeat (first | refine blk_drewN ?_ _ | refine blk_drew ?_ | refine blk_alloc ?_ _)); exact BK130.out) hb)
          have n3_ := Aside0.mk (below_step (by repeat (first | (with_reducible first | exact HB.out | apply below_alloc | apply pw_below_drewN | apply below_drew1 | refine below_set ?_ GE129.out | refine below_set ?_ GE130.out) | exact HB.out)) hb)
          have n4_ := Aside0.mk (hbox)
          have n5_ := Aside0.mk ((by rw [hg]; exact (below_size (by repeat (first | (with_reducible first | exact HB.out | apply below_alloc | apply pw_below_drewN | apply below_drew1 | refine below_set ?_ GE129.out | refine below_set ?_ GE130.out) | exact HB.out))) : w.heap.size ≤ gb138))
          have n6_ := Aside0.mk ((by rw [hg]; exact (below_size (by repeat (first | (with_reducible first | exact HB.out | apply below_alloc | apply pw_below_drewN | apply below_drew1 | refine below_set ?_ GE129.out | refine below_set ?_ GE130.out) | exact HB.out))) : w.heap.size ≤ gb138))
          have n7_ := Aside0.mk ((by rw [hg]; exact Nat.ne_of_lt (blk_lt (g := gb129) (o := .cells #[.bool a0_0, .int .u64 a0_1, .int .i64 a0_2] 34 (0, 0)) (by (with_reducible repeat (first | refine blk_drewN ?_ _ | refine blk_drew ?_ | refine blk_alloc ?_ _)); exact BK129.out)) : gb129 ≠ gb138))
          have n8_ := Aside0.mk ((by rw [hg]; exact Nat.ne_of_gt (blk_lt (g := gb129) (o := .cells #[.bool a0_0, .int .u64 a0_1, .int .i64 a0_2] 34 (0, 0)) (by (with_reducible repeat (first | refine blk_drewN ?_ _ | refine blk_drew ?_ | refine blk_alloc ?_ _)); exact BK129.out)) : gb138 ≠ gb129))
          have n9_ := Aside0.mk ((by rw [hg]; exact Nat.ne_of_lt (blk_lt (g := gb130) (o := .cells #[.bool false, .slice none 0 0, .int .i64 0] 40 (0, 0)) (by (with_reducible repeat (first | refine blk_drewN ?_ _ | refine blk_drew ?_ | refine blk_alloc ?_ _)); exact BK130.out)) : gb130 ≠ gb138))
          have n10_ := Aside0.mk ((by rw [hg]; exact Nat.ne_of_gt (blk_lt (g := gb130) (o := .cells #[.bool false, .slice none 0 0, .int .i64 0] 40 (0, 0)) (by (with_reducible repeat (first | refine blk_drewN ?_ _ | refine blk_drew ?_ | refine blk_alloc ?_ _)); exact BK130.out)) : gb138 ≠ gb130))
          clear HO133
          clear BK129
          clear BK130
          clear HB
          have HO133 := n0_
          have BK129 := n1_
          have BK130 := n2_
          have HB := n3_
          have BK138 := n4_
          have GW138 := n5_
          have GE138 := n6_
          have NB129_138 := n7_
          have NB138_129 := n8_
          have NB130_138 := n9_
          have NB138_130 := n10_
          clear n0_ n1_ n2_ n3_ n4_ n5_ n6_ n7_ n8_ n9_ n10_
          clear hb hbox hg
          obtain ⟨Ao46, co46, eo46⟩ := Kd.R_slice HO133.out
          (first | subst eo46 | (injection eo46 with f1_ f2_ f3_; have f4_ := f1_.symm; have f5_ := f3_.symm; clear f1_ f2_ f3_; subst f4_; subst f5_))
          refine hK.out _ _ ⟨(blk_cell BK129.out 0).trans rfl, (blk_cell BK129.out 1).trans rfl, (blk_cell BK129.out 2).trans rfl⟩ (fun hHeld => ?_)
          clear hK K
          refine norm_ (a' := ?_) ?_ ?_
          rotate_left
          · show Act.put _ (some 4) _ = _
            simp only [Act.put, List.setIfInBounds_toArray, List.set_cons_zero, List.set_cons_succ, i64_w, i32_w]
            rfl
          refine one_ (i := 5) (N := some 10) #[true, true, true, true, true, true, true, false] rfl rfl (one_of HT_.out (by kernel_rfl)) (by decide) (fun K hK => ?_)
          refine goes_ Tryd.func34 (by kernel_rfl) rfl #[.bool a0_0, .slice Ao46 t131.length co46] (by rfl) rfl rfl (by (try simp only [List.map_toArray, List.map_cons, List.map_nil]); first | done | rfl | (simp only [List.length_drop, List.length_take]; rfl)) ?_
          with_reducible refine (spec_wholeOf.calls a0_0 (fun k_ => some k_ = (.slice Ao46 t131.length co46 : Value).ownBlock) _ _ t131 t134 t135 _ ?side1 A3.out).mono ?_
          (case side1 => exact Kd.R_V (Kd.R_tight rfl (Kd.R_types (Kd.R_types (Kd.R_types (HO133.out) BK129.out (by decide)) BK130.out (by decide)) BK138.out (by decide))))
          rintro e w47 ⟨v136, rfl, ho0, hb⟩
          refine ⟨_, rfl, ?_⟩
          have n0_ := Aside0.mk (Kd.R_below (by (with_reducible repeat (first | apply Kd.R_alloc | apply Kd.R_drewN | apply Kd.R_drew)); exact HO133.out) hb)
          have n1_ := Aside0.mk (Kd.V_lower (Kd.V_mono (ok' := fun k_ => (w.heap.size ≤ k_) ∧ k_ ≠ gb129 ∧ k_ ≠ gb130 ∧ k_ ≠ gb138) ho0 (fun k_ hk_ => ⟨Or.elim hk_ (fun hs_ => ((Kd.R_types (Kd.R_types (Kd.R_types (HO133.out) BK129.out (by decide)) BK130.out (by decide)) BK138.out (by decide)).1 k_ hs_.symm).1.1.1.1) (fun hn_ => (Nat.le_trans (below_size (by repeat (first | (with_reducible first | exact HB.out | apply below_alloc | apply pw_below_drewN | apply below_drew1 | refine below_set ?_ GE129.out | refine below_set ?_ GE130.out | refine below_set ?_ GE138.out) | exact HB.out))) hn_)), Or.elim hk_ (fun hs_ => ((Kd.R_types (Kd.R_types (Kd.R_types (HO133.out) BK129.out (by decide)) BK130.out (by decide)) BK138.out (by decide)).1 k_ hs_.symm).1.1.2) (fun hn_ => (Kd.freshB (g := gb129) (o := .cells #[.bool a0_0, .int .u64 a0_1, .int .i64 a0_2] 34 (0, 0)) (by (with_reducible repeat (first | refine blk_drewN ?_ _ | refine blk_drew ?_ | refine blk_alloc ?_ _)); exact BK129.out) k_ hn_)), Or.elim hk_ (fun hs_ => ((Kd.R_types (Kd.R_types (Kd.R_types (HO133.out) BK129.out (by decide)) BK130.out (by decide)) BK138.out (by decide)).1 k_ hs_.symm).1.2) (fun hn_ => (Kd.freshB (g := gb130) (o := .cells #[.bool false, .slice none 0 0, .int .i64 0] 40 (0, 0)) (by (with_reducible repeat (first | refine blk_drewN ?_ _ | refine blk_drew ?_ | refine blk_alloc ?_ _)); exact BK130.out) k_ hn_)), Or.elim hk_ (fun hs_ => ((Kd.R_types (Kd.R_types (Kd.R_types (HO133.out) BK129.out (by decide)) BK130.out (by decide)) BK138.out (by decide)).1 k_ hs_.symm).2) (fun hn_ => (Kd.freshB (g := gb138) (o := .cells #[.bool false, .slice none 0 0] 38 (0, 0)) (by (with_reducible repeat (first | refine blk_drewN ?_ _ | refine blk_drew ?_ | refine blk_alloc ?_ _)); exact BK138.out) k_ hn_))⟩)) (below_size (by repeat (first | (with_reducible first | exact HB.out | apply below_alloc | apply pw_below_drewN | apply below_drew1 | refine below_set ?_ GE129.out | refine below_set ?_ GE130.out | refine below_set ?_ GE138.out) | exact HB.out))))
          have n2_ := Aside0.mk (blk_below (g := gb129) (o := .cells #[.bool a0_0, .int .u64 a0_1, .int .i64 a0_2] 34 (0, 0)) (by (with_reducible repeat (first | refine blk_drewN ?_ _ | refine blk_drew ?_ | refine blk_alloc ?_ _)); exact BK129.out) hb)
          have n3_ := Aside0.mk (blk_below (g := gb130) (o := .cells #[.bool false, .slice none 0 0, .int .i64 0] 40 (0, 0)) (by (with_reducible repeat (first | refine blk_drewN ?_ _ | refine blk_drew ?_ | refine blk_alloc ?_ _)); exact BK130.out) hb)
          have n4_ := Aside0.mk (blk_below (g := gb138) (o := .cells #[.bool false, .slice none 0 0] 38 (0, 0)) (by (with_reducible repeat (first | refine blk_drewN ?_ _ | refine blk_drew ?_ | refine blk_alloc ?_ _)); exact BK138.out) hb)
          have n5_ := Aside0.mk (below_step (by repeat (first | (with_reducible first | exact HB.out | apply below_alloc | apply pw_below_drewN | apply below_drew1 | refine below_set ?_ GE129.out | refine below_set ?_ GE130.out | refine below_set ?_ GE138.out) | exact HB.out)) hb)
          clear HO133
          clear BK129
          clear BK130
          clear BK138
          clear HB
          have HO133 := n0_
          have HO137 := n1_
          have BK129 := n2_
          have BK130 := n3_
          have BK138 := n4_
          have HB := n5_
          clear n0_ n1_ n2_ n3_ n4_ n5_
          (try clear hb)
          (try clear hb2)
          (try clear hk)
          (try clear hi)
          (try clear ho0)
          refine hK.out _ _ ⟨(blk_cell BK129.out 0).trans rfl, (blk_cell BK129.out 1).trans rfl, (blk_cell BK129.out 2).trans rfl⟩ (fun hHeld => ?_)
          clear hK K
          refine norm_ (a' := ?_) ?_ ?_
          rotate_left
          · show Act.put _ (some 10) _ = _
            simp only [Act.put, List.setIfInBounds_toArray, List.set_cons_zero, List.set_cons_succ, i64_w, i32_w]
            rfl
          exact norm_ (by simp only [putAll, Act.put, List.setIfInBounds_toArray, List.set_cons_zero, List.set_cons_succ]) (hCont (.slice Ao46 t131.length co46, v136, gb138) _ ⟨hHeld, (by (with_reducible repeat (first | apply Kd.R_alloc | apply Kd.R_drewN | apply Kd.R_drew)); exact Kd.R_mono HO133.out (fun _ hk => hk.1)), (by (with_reducible repeat (first | apply Kd.V_alloc | apply Kd.V_drewN | apply Kd.V_drew)); exact HO137.out), (by (with_reducible repeat (first | refine blk_drewN ?_ _ | refine blk_drew ?_ | refine blk_alloc ?_ _)); exact BK129.out), (by (with_reducible repeat (first | refine blk_drewN ?_ _ | refine blk_drew ?_ | refine blk_alloc ?_ _)); exact BK130.out), (by (with_reducible repeat (first | refine blk_drewN ?_ _ | refine blk_drew ?_ | refine blk_alloc ?_ _)); exact BK138.out), GW138.out, GE138.out, NB129_138.out, NB138_129.out, NB130_138.out, NB138_130.out, (by repeat (first | (with_reducible first | exact HB.out | apply below_alloc | apply pw_below_drewN | apply below_drew1 | refine below_set ?_ GE129.out | refine below_set ?_ GE130.out | refine below_set ?_ GE138.out) | exact HB.out))⟩)
      · skip
        refine box_step ?hg (N := 4) ?hd (cs := #[.bool false, .slice none 0 0]) (t := 38) ?hr ?_; (case hd => rfl); (case hg => rfl); (case hr => first | (go_simp; done) | (go_simp; rfl))
        intro gb138 hg w44 hbox hb
        have n0_ := Aside0.mk (blk_below (g := gb129) (o := .cells #[.bool a0_0, .int .u64 a0_1, .int .i64 a0_2] 34 (0, 0)) (by (with_reducible repeat (first | refine blk_drewN ?_ _ | refine blk_drew ?_ | refine blk_alloc ?_ _)); exact BK129.out) hb)
        have n1_ := Aside0.mk (blk_below (g := gb130) (o := .cells #[.bool false, .slice none 0 0, .int .i64 0] 40 (0, 0)) (by (with_reducible repeat (first | refine blk_drewN ?_ _ | refine blk_drew ?_ | refine blk_alloc ?_ _)); exact BK130.out) hb)
        have n2_ := Aside0.mk (below_step (by repeat (first | (with_reducible first | exact HB.out | apply below_alloc | apply pw_below_drewN | apply below_drew1 | refine below_set ?_ GE129.out | refine below_set ?_ GE130.out) | exact HB.out)) hb)
        have n3_ := Aside0.mk (hbox)
        have n4_ := Aside0.mk ((by rw [hg]; exact (below_size (by repeat (first | (with_reducible first | exact HB.out | apply below_alloc | apply pw_below_drewN | apply below_drew1 | refine below_set ?_ GE129.out | refine below_set ?_ GE130.out) | exact HB.out))) : w.heap.size ≤ gb138))
        have n5_ := Aside0.mk ((by rw [hg]; exact (below_size (by repeat (first | (with_reducible first | exact HB.out | apply below_alloc | apply pw_below_drewN | apply below_drew1 | refine below_set ?_ GE129.out | refine below_set ?_ GE130.out) | exact HB.out))) : w.heap.size ≤ gb138))
        have n6_ := Aside0.mk ((by rw [hg]; exact Nat.ne_of_lt (blk_lt (g := gb129) (o := .cells #[.bool a0_0, .int .u64 a0_1, .int .i64 a0_2] 34 (0, 0)) (by (with_reducible repeat (first | refine blk_drewN ?_ _ | refine blk_drew ?_ | refine blk_alloc ?_ _)); exact BK129.out)) : gb129 ≠ gb138))
        have n7_ := Aside0.mk ((by rw [hg]; exact Nat.ne_of_gt (blk_lt (g := gb129) (o := .cells #[.bool a0_0, .int .u64 a0_1, .int .i64 a0_2] 34 (0, 0)) (by (with_reducible repeat (first | refine blk_drewN ?_ _ | refine blk_drew ?_ | refine blk_alloc ?_ _)); exact BK129.out)) : gb138 ≠ gb129))
        have n8_ := Aside0.mk ((by rw [hg]; exact Nat.ne_of_lt (blk_lt (g := gb130) (o := .cells #[.bool false, .slice none 0 0, .int .i64 0] 40 (0, 0)) (by (with_reducible repeat (first | refine blk_drewN ?_ _ | refine blk_drew ?_ | refine blk_alloc ?_ _)); exact BK130.out)) : gb130 ≠ gb138))
        have n9_ := Aside0.mk ((by rw [hg]; exact Nat.ne_of_gt (blk_lt (g := gb130) (o := .cells #[.bool false, .slice none 0 0, .int .i64 0] 40 (0, 0)) (by (with_reducible repeat (first | refine blk_drewN ?_ _ | refine blk_drew ?_ | refine blk_alloc ?_ _)); exact BK130.out)) : gb138 ≠ gb130))
        clear BK129
        clear BK130
        clear HB
        have BK129 := n0_
        have BK130 := n1_
        have HB := n2_
        have BK138 := n3_
        have GW138 := n4_
        have GE138 := n5_
        have NB129_138 := n6_
        have NB138_129 := n7_
        have NB130_138 := n8_
        have NB138_130 := n9_
        clear n0_ n1_ n2_ n3_ n4_ n5_ n6_ n7_ n8_ n9_
        clear hb hbox hg
        refine hK.out _ _ ⟨(blk_cell BK129.out 0).trans rfl, (blk_cell BK129.out 1).trans rfl, (blk_cell BK129.out 2).trans rfl⟩ (fun hHeld => ?_)
        clear hK K
        refine norm_ (a' := ?_) ?_ ?_
        rotate_left
        · show Act.put _ (some 4) _ = _
          simp only [Act.put, List.setIfInBounds_toArray, List.set_cons_zero, List.set_cons_succ, i64_w, i32_w]
          rfl
        refine one_ (i := 4) (N := some 9) #[true, true, true, true, true, false, true, false] rfl rfl (one_of HT_.out (by kernel_rfl)) (by decide) (fun K hK => ?_)
        refine goes_ Tryd.func13 (by kernel_rfl) rfl #[.int .u64 a0_1] (by rfl) rfl rfl (by (try simp only [List.map_toArray, List.map_cons, List.map_nil]); first | done | rfl | (simp only [List.length_drop, List.length_take]; rfl)) ?_
        with_reducible refine (spec_NatFrom.calls k a0_1 t131 _ A2.out).mono ?_
        rintro e w45 ⟨v132, rfl, ho0, hb⟩
        refine ⟨_, rfl, ?_⟩
        have n0_ := Aside0.mk (Kd.R_lower (Kd.R_newM (M := fun k_ => (w.heap.size ≤ k_)) ho0 (below_size (by repeat (first | (with_reducible first | exact HB.out | apply below_alloc | apply pw_below_drewN | apply below_drew1 | refine below_set ?_ GE129.out | refine below_set ?_ GE130.out | refine below_set ?_ GE138.out) | exact HB.out))) (fun k_ h_ => h_)) (below_size (by repeat (first | (with_reducible first | exact HB.out | apply below_alloc | apply pw_below_drewN | apply below_drew1 | refine below_set ?_ GE129.out | refine below_set ?_ GE130.out | refine below_set ?_ GE138.out) | exact HB.out))))
        have n1_ := Aside0.mk (blk_below (g := gb129) (o := .cells #[.bool a0_0, .int .u64 a0_1, .int .i64 a0_2] 34 (0, 0)) (by (with_reducible repeat (first | refine blk_drewN ?_ _ | refine blk_drew ?_ | refine blk_alloc ?_ _)); exact BK129.out) hb)
        have n2_ := Aside0.mk (blk_below (g := gb130) (o := .cells #[.bool false, .slice none 0 0, .int .i64 0] 40 (0, 0)) (by (with_reducible repeat (first | refine blk_drewN ?_ _ | refine blk_drew ?_ | refine blk_alloc ?_ _)); exact BK130.out) hb)
        have n3_ := Aside0.mk (blk_below (g := gb138) (o := .cells #[.bool false, .slice none 0 0] 38 (0, 0)) (by (with_reducible repeat (first | refine blk_drewN ?_ _ | refine blk_drew ?_ | refine blk_alloc ?_ _)); exact BK138.out) hb)
        have n4_ := Aside0.mk (below_step (by repeat (first | (with_reducible first | exact HB.out | apply below_alloc | apply pw_below_drewN | apply below_drew1 | refine below_set ?_ GE129.out | refine below_set ?_ GE130.out | refine below_set ?_ GE138.out) | exact HB.out)) hb)
        clear BK129
        clear BK130
        clear BK138
        clear HB
        have HO133 := n0_
        have BK129 := n1_
        have BK130 := n2_
        have BK138 := n3_
        have HB := n4_
        clear n0_ n1_ n2_ n3_ n4_
        (try clear hb)
        (try clear hb2)
        (try clear hk)
        (try clear hi)
        (try clear ho0)
        obtain ⟨Ao46, co46, eo46⟩ := Kd.R_slice HO133.out
        (first | subst eo46 | (injection eo46 with f1_ f2_ f3_; have f4_ := f1_.symm; have f5_ := f3_.symm; clear f1_ f2_ f3_; subst f4_; subst f5_))
        refine hK.out _ _ ⟨(blk_cell BK129.out 0).trans rfl, (blk_cell BK129.out 1).trans rfl, (blk_cell BK129.out 2).trans rfl⟩ (fun hHeld => ?_)
        clear hK K
        refine norm_ (a' := ?_) ?_ ?_
        rotate_left
        · show Act.put _ (some 9) _ = _
          simp only [Act.put, List.setIfInBounds_toArray, List.set_cons_zero, List.set_cons_succ, i64_w, i32_w]
          rfl
        refine one_ (i := 5) (N := some 10) #[true, true, true, true, true, true, true, false] rfl rfl (one_of HT_.out (by kernel_rfl)) (by decide) (fun K hK => ?_)
        refine goes_ Tryd.func34 (by kernel_rfl) rfl #[.bool a0_0, .slice Ao46 t131.length co46] (by rfl) rfl rfl (by (try simp only [List.map_toArray, List.map_cons, List.map_nil]); first | done | rfl | (simp only [List.length_drop, List.length_take]; rfl)) ?_
        with_reducible refine (spec_wholeOf.calls a0_0 (fun k_ => some k_ = (.slice Ao46 t131.length co46 : Value).ownBlock) _ _ t131 t134 t135 _ ?side1 A3.out).mono ?_
        (case side1 => exact Kd.R_V (Kd.R_tight rfl (Kd.R_types (Kd.R_types (Kd.R_types (HO133.out) BK129.out (by decide)) BK130.out (by decide)) BK138.out (by decide))))
        rintro e w47 ⟨v136, rfl, ho0, hb⟩
        refine ⟨_, rfl, ?_⟩
        have n0_ := Aside0.mk (Kd.R_below (by (with_reducible repeat (first | apply Kd.R_alloc | apply Kd.R_drewN | apply Kd.R_drew)); exact HO133.out) hb)
        have n1_ := Aside0.mk (Kd.V_lower (Kd.V_mono (ok' := fun k_ => (w.heap.size ≤ k_) ∧ k_ ≠ gb129 ∧ k_ ≠ gb130 ∧ k_ ≠ gb138) ho0 (fun k_ hk_ => ⟨Or.elim hk_ (fun hs_ => ((Kd.R_types (Kd.R_types (Kd.R_types (HO133.out) BK129.out (by decide)) BK130.out (by decide)) BK138.out (by decide)).1 k_ hs_.symm).1.1.1.1) (fun hn_ => (Nat.le_trans (below_size (by repeat (first | (with_reducible first | exact HB.out | apply below_alloc | apply pw_below_drewN | apply below_drew1 | refine below_set ?_ GE129.out | refine below_set ?_ GE130.out | refine below_set ?_ GE138.out) | exact HB.out))) hn_)), Or.elim hk_ (fun hs_ => ((Kd.R_types (Kd.R_types (Kd.R_types (HO133.out) BK129.out (by decide)) BK130.out (by decide)) BK138.out (by decide)).1 k_ hs_.symm).1.1.2) (fun hn_ => (Kd.freshB (g := gb129) (o := .cells #[.bool a0_0, .int .u64 a0_1, .int .i64 a0_2] 34 (0, 0)) (by (with_reducible repeat (first | refine blk_drewN ?_ _ | refine blk_drew ?_ | refine blk_alloc ?_ _)); exact BK129.out) k_ hn_)), Or.elim hk_ (fun hs_ => ((Kd.R_types (Kd.R_types (Kd.R_types (HO133.out) BK129.out (by decide)) BK130.out (by decide)) BK138.out (by decide)).1 k_ hs_.symm).1.2) (fun hn_ => (Kd.freshB (g := gb130) (o := .cells #[.bool false, .slice none 0 0, .int .i64 0] 40 (0, 0)) (by (with_reducible repeat (first | refine blk_drewN ?_ _ | refine blk_drew ?_ | refine blk_alloc ?_ _)); exact BK130.out) k_ hn_)), Or.elim hk_ (fun hs_ => ((Kd.R_types (Kd.R_types (Kd.R_types (HO133.out) BK129.out (by decide)) BK130.out (by decide)) BK138.out (by decide)).1 k_ hs_.symm).2) (fun hn_ => (Kd.freshB (g := gb138) (o := .cells #[.bool false, .slice none 0 0] 38 (0, 0)) (by (with_reducible repeat (first | refine blk_drewN ?_ _ | refine blk_drew ?_ | refine blk_alloc ?_ _)); exact BK138.out) k_ hn_))⟩)) (below_size (by repeat (first | (with_reducible first | exact HB.out | apply below_alloc | apply pw_below_drewN | apply below_drew1 | refine below_set ?_ GE129.out | refine below_set ?_ GE130.out | refine below_set ?_ GE138.out) | exact HB.out))))
        have n2_ := Aside0.mk (blk_below (g := gb129) (o := .cells #[.bool a0_0, .int .u64 a0_1, .int .i64 a0_2] 34 (0, 0)) (by (with_reducible repeat (first | refine blk_drewN ?_ _ | refine blk_drew ?_ | refine blk_alloc ?_ _)); exact BK129.out) hb)
        have n3_ := Aside0.mk (blk_below (g := gb130) (o := .cells #[.bool false, .slice none 0 0, .int .i64 0] 40 (0, 0)) (by (with_reducible repeat (first | refine blk_drewN ?_ _ | refine blk_drew ?_ | refine blk_alloc ?_ _)); exact BK130.out) hb)
        have n4_ := Aside0.mk (blk_below (g := gb138) (o := .cells #[.bool false, .slice none 0 0] 38 (0, 0)) (by (with_reducible repeat (first | refine blk_drewN ?_ _ | refine blk_drew ?_ | refine blk_alloc ?_ _)); exact BK138.out) hb)
        have n5_ := Aside0.mk (below_step (by repeat (first | (with_reducible first | exact HB.out | apply below_alloc | apply pw_below_drewN | apply below_drew1 | refine below_set ?_ GE129.out | refine below_set ?_ GE130.out | refine below_set ?_ GE138.out) | exact HB.out)) hb)
        clear HO133
        clear BK129
        clear BK130
        clear BK138
        clear HB
        have HO133 := n0_
        have HO137 := n1_
        have BK129 := n2_
        have BK130 := n3_
        have BK138 := n4_
        have HB := n5_
        clear n0_ n1_ n2_ n3_ n4_ n5_
        (try clear hb)
        (try clear hb2)
        (try clear hk)
        (try clear hi)
        (try clear ho0)
        refine hK.out _ _ ⟨(blk_cell BK129.out 0).trans rfl, (blk_cell BK129.out 1).trans rfl, (blk_cell BK129.out 2).trans rfl⟩ (fun hHeld => ?_)
        clear hK K
        refine norm_ (a' := ?_) ?_ ?_
        rotate_left
        · show Act.put _ (some 10) _ = _
          simp only [Act.put, List.setIfInBounds_toArray, List.set_cons_zero, List.set_cons_succ, i64_w, i32_w]
          rfl
        exact norm_ (by simp only [putAll, Act.put, List.setIfInBounds_toArray, List.set_cons_zero, List.set_cons_succ]) (hCont (.slice Ao46 t131.length co46, v136, gb138) _ ⟨hHeld, (by (with_reducible repeat (first | apply Kd.R_alloc | apply Kd.R_drewN | apply Kd.R_drew)); exact Kd.R_mono HO133.out (fun _ hk => hk.1)), (by (with_reducible repeat (first | apply Kd.V_alloc | apply Kd.V_drewN | apply Kd.V_drew)); exact HO137.out), (by (with_reducible repeat (first | refine blk_drewN ?_ _ | refine blk_drew ?_ | refine blk_alloc ?_ _)); exact BK129.out), (by (with_reducible repeat (first | refine blk_drewN ?_ _ | refine blk_drew ?_ | refine blk_alloc ?_ _)); exact BK130.out), (by (with_reducible repeat (first | refine blk_drewN ?_ _ | refine blk_drew ?_ | refine blk_alloc ?_ _)); exact BK138.out), GW138.out, GE138.out, NB129_138.out, NB138_129.out, NB130_138.out, NB138_130.out, (by repeat (first | (with_reducible first | exact HB.out | apply below_alloc | apply pw_below_drewN | apply below_drew1 | refine below_set ?_ GE129.out | refine below_set ?_ GE130.out | refine below_set ?_ GE138.out) | exact HB.out))⟩)
    rintro ⟨v132, v136, gb138⟩ w48 ⟨hS_, h0_, h1_, h2_, h3_, h4_, h5_, h6_, h7_, h8_, h9_, h10_, h11_⟩
    have n0_ : Aside0 (Kd.R (Kd.int .u32) 59 w48 w.heap.size (fun k_ => (w.heap.size ≤ k_)) v132 t131) := ⟨h0_⟩
    have n1_ : Aside0 (Kd.V (Kd.int .u32) 59 w48 w.heap.size (fun k_ => (w.heap.size ≤ k_) ∧ k_ ≠ gb129 ∧ k_ ≠ gb130 ∧ k_ ≠ gb138) v136 t135) := ⟨h1_⟩
    have n2_ : Aside0 (w48.heap[gb129]? = some (.cells #[.bool a0_0, .int .u64 a0_1, .int .i64 a0_2] 34 (0, 0))) := ⟨h2_⟩
    have n3_ : Aside0 (w48.heap[gb130]? = some (.cells #[.bool false, .slice none 0 0, .int .i64 0] 40 (0, 0))) := ⟨h3_⟩
    have n4_ : Aside0 (w48.heap[gb138]? = some (.cells #[.bool false, .slice none 0 0] 38 (0, 0))) := ⟨h4_⟩
    have n5_ : Aside0 (w.heap.size ≤ gb138) := ⟨h5_⟩
    have n6_ : Aside0 (w.heap.size ≤ gb138) := ⟨h6_⟩
    have n7_ : Aside0 (gb129 ≠ gb138) := ⟨h7_⟩
    have n8_ : Aside0 (gb138 ≠ gb129) := ⟨h8_⟩
    have n9_ : Aside0 (gb130 ≠ gb138) := ⟨h9_⟩
    have n10_ : Aside0 (gb138 ≠ gb130) := ⟨h10_⟩
    have n11_ : Aside0 (Below w.heap.size w w48) := ⟨h11_⟩
    clear BK129
    clear BK130
    clear HB
    clear h0_ h1_ h2_ h3_ h4_ h5_ h6_ h7_ h8_ h9_ h10_ h11_
    have HO133 := n0_
    have HO137 := n1_
    have BK129 := n2_
    have BK130 := n3_
    have BK138 := n4_
    have GW138 := n5_
    have GE138 := n6_
    have NB129_138 := n7_
    have NB138_129 := n8_
    have NB130_138 := n9_
    have NB138_130 := n10_
    have HB := n11_
    clear n0_ n1_ n2_ n3_ n4_ n5_ n6_ n7_ n8_ n9_ n10_ n11_
    have hHeld : w48.cell? ⟨gb129, 0, none⟩ = some (.bool a0_0) ∧ w48.cell? ⟨gb129, 1, none⟩ = some (.int .u64 a0_1) ∧ w48.cell? ⟨gb129, 2, none⟩ = some (.int .i64 a0_2) := hS_
    obtain ⟨Ao50, co50, eo50⟩ := Kd.V_slice HO137.out
    (first | subst eo50 | (injection eo50 with f1_ f2_ f3_; have f4_ := f1_.symm; have f5_ := f3_.symm; clear f1_ f2_ f3_; subst f4_; subst f5_))
    refine norm_ (a' := ?_) ?_ ?_
    rotate_left
    · simp only [putAll, Act.put, List.setIfInBounds_toArray, List.set_cons_zero, List.set_cons_succ]
      rfl
    refine one_ (i := 7) (N := none) #[true, true, true, true, true, true, true, true] rfl rfl (one_of HT_.out (by kernel_rfl)) (by decide) (fun K hK => ?_)
    have hs49 : w48.cell? ⟨gb138, 0, none⟩ = some (.bool false) := (blk_cell BK138.out 0).trans rfl
    have hfs49 := blk_frozen BK138.out 0
    have hns49_0 := NB129_138.out
    have hns49_1 := NB130_138.out
    have hms49_0 := NB138_129.out
    have hms49_1 := NB138_130.out
    have hs51 : w48.cell? ⟨gb138, 1, none⟩ = some (.slice none 0 0) := (blk_cell BK138.out 1).trans rfl
    have hfs51 := blk_frozen BK138.out 1
    have hns51_0 := NB129_138.out
    have hns51_1 := NB130_138.out
    have hms51_0 := NB138_129.out
    have hms51_1 := NB138_130.out
    refine skip_ (w1 := ?_) (by rfl) rfl ?_ ?_
    rotate_left
    · go_simp
      rfl
    refine hK.out _ _ ⟨((cell_far (p := ⟨gb138, _, none⟩) NB129_138.out _).trans (((cell_far (p := ⟨gb138, _, none⟩) NB129_138.out _).trans (hHeld.1)))), ((cell_far (p := ⟨gb138, _, none⟩) NB129_138.out _).trans (((cell_far (p := ⟨gb138, _, none⟩) NB129_138.out _).trans (hHeld.2.1)))), ((cell_far (p := ⟨gb138, _, none⟩) NB129_138.out _).trans (((cell_far (p := ⟨gb138, _, none⟩) NB129_138.out _).trans (hHeld.2.2))))⟩ (fun hHeld => ?_)
    clear hK K
    refine done_ (done_of HT_.out (by kernel_rfl)) ?_
    try go_wp2
    have n0_ : Aside0 (Kd.R (Kd.int .u32) 59 ((w48.setCell ⟨gb138, 0, none⟩ (.bool t134)).setCell ⟨gb138, 1, none⟩ (.slice Ao50 t135.length co50)) w.heap.size (fun k_ => (w.heap.size ≤ k_)) v132 t131) := ⟨by (with_reducible repeat (first | apply Kd.R_alloc | apply Kd.R_drewN | apply Kd.R_drew)); exact Kd.R_mono (Kd.R_far (p := ⟨gb138, 1, none⟩) (Kd.R_far (p := ⟨gb138, 0, none⟩) (Kd.R_types HO133.out BK138.out (by decide)) (fun _ hk => hk.2) (.bool t134)) (fun _ hk => hk.2) (.slice Ao50 t135.length co50)) (fun _ hk => hk.1)⟩
    have n1_ : Aside0 (Kd.V (Kd.int .u32) 59 ((w48.setCell ⟨gb138, 0, none⟩ (.bool t134)).setCell ⟨gb138, 1, none⟩ (.slice Ao50 t135.length co50)) w.heap.size (fun k_ => (w.heap.size ≤ k_) ∧ k_ ≠ gb129 ∧ k_ ≠ gb130 ∧ k_ ≠ gb138) (.slice Ao50 t135.length co50) t135) := ⟨by (with_reducible repeat (first | apply Kd.V_alloc | apply Kd.V_drewN | apply Kd.V_drew)); exact Kd.V_mono (Kd.V_far (p := ⟨gb138, 1, none⟩) (Kd.V_far (p := ⟨gb138, 0, none⟩) (Kd.V_mono HO137.out (fun k_ hk => (⟨hk, hk.2.2.2⟩ : _ ∧ k_ ≠ gb138))) (fun _ hk => hk.2) (.bool t134)) (fun _ hk => hk.2) (.slice Ao50 t135.length co50)) (fun _ hk => ⟨hk.1.1, ⟨hk.1.2.1, ⟨hk.1.2.2.1, hk.1.2.2.2⟩⟩⟩)⟩
    have n2_ : Aside0 (((w48.setCell ⟨gb138, 0, none⟩ (.bool t134)).setCell ⟨gb138, 1, none⟩ (.slice Ao50 t135.length co50)).heap[gb129]? = some (.cells #[.bool a0_0, .int .u64 a0_1, .int .i64 a0_2] 34 (0, 0))) := ⟨by (with_reducible repeat (first | refine blk_drewN ?_ _ | refine blk_drew ?_ | refine blk_alloc ?_ _)); refine blk_far ?_ NB129_138.out _; (with_reducible repeat (first | refine blk_drewN ?_ _ | refine blk_drew ?_ | refine blk_alloc ?_ _)); refine blk_far ?_ NB129_138.out _; (with_reducible repeat (first | refine blk_drewN ?_ _ | refine blk_drew ?_ | refine blk_alloc ?_ _)); exact BK129.out⟩
    have n3_ : Aside0 (((w48.setCell ⟨gb138, 0, none⟩ (.bool t134)).setCell ⟨gb138, 1, none⟩ (.slice Ao50 t135.length co50)).heap[gb130]? = some (.cells #[.bool false, .slice none 0 0, .int .i64 0] 40 (0, 0))) := ⟨by (with_reducible repeat (first | refine blk_drewN ?_ _ | refine blk_drew ?_ | refine blk_alloc ?_ _)); refine blk_far ?_ NB130_138.out _; (with_reducible repeat (first | refine blk_drewN ?_ _ | refine blk_drew ?_ | refine blk_alloc ?_ _)); refine blk_far ?_ NB130_138.out _; (with_reducible repeat (first | refine blk_drewN ?_ _ | refine blk_drew ?_ | refine blk_alloc ?_ _)); exact BK130.out⟩
    have n4_ : Aside0 (((w48.setCell ⟨gb138, 0, none⟩ (.bool t134)).setCell ⟨gb138, 1, none⟩ (.slice Ao50 t135.length co50)).heap[gb138]? = some (.cells #[.bool t134, .slice Ao50 t135.length co50] 38 (0, 0))) := ⟨by (with_reducible repeat (first | refine blk_drewN ?_ _ | refine blk_drew ?_ | refine blk_alloc ?_ _)); refine blk_put (cs := #[.bool t134, .slice none 0 0]) ?_ 1 _ rfl; (with_reducible repeat (first | refine blk_drewN ?_ _ | refine blk_drew ?_ | refine blk_alloc ?_ _)); refine blk_put (cs := #[.bool false, .slice none 0 0]) ?_ 0 _ rfl; (with_reducible repeat (first | refine blk_drewN ?_ _ | refine blk_drew ?_ | refine blk_alloc ?_ _)); exact BK138.out⟩
    have n5_ : Aside0 (Below w.heap.size w ((w48.setCell ⟨gb138, 0, none⟩ (.bool t134)).setCell ⟨gb138, 1, none⟩ (.slice Ao50 t135.length co50))) := ⟨by repeat (first | (with_reducible first | exact HB.out | apply below_alloc | apply pw_below_drewN | apply below_drew1 | refine below_set ?_ GE129.out | refine below_set ?_ GE130.out | refine below_set ?_ GE138.out) | exact HB.out)⟩
    (try clear HO133)
    (try clear HO137)
    (try clear BK129)
    (try clear BK130)
    (try clear BK138)
    (try clear HB)
    generalize ((w48.setCell ⟨gb138, 0, none⟩ (.bool t134)).setCell ⟨gb138, 1, none⟩ (.slice Ao50 t135.length co50)) = w52 at n0_ n1_ n2_ n3_ n4_ n5_ ⊢
    have HO133 := n0_
    have HO137 := n1_
    have BK129 := n2_
    have BK130 := n3_
    have BK138 := n4_
    have HB := n5_
    clear n0_ n1_ n2_ n3_ n4_ n5_
    have n0_ := Aside0.mk (Kd.R_drew HO133.out)
    have n1_ := Aside0.mk (Kd.V_drew HO137.out)
    have n2_ := Aside0.mk (blk_drew BK129.out)
    have n3_ := Aside0.mk (blk_drew BK130.out)
    have n4_ := Aside0.mk (blk_drew BK138.out)
    have n5_ := Aside0.mk (below_drew1 HB.out)
    clear HO133
    clear HO137
    clear BK129
    clear BK130
    clear BK138
    clear HB
    have HO133 := n0_
    have HO137 := n1_
    have BK129 := n2_
    have BK130 := n3_
    have BK138 := n4_
    have HB := n5_
    clear n0_ n1_ n2_ n3_ n4_ n5_
    refine start_ (n := 21) (S := fun w' => w'.cell? ⟨gb138, 0, none⟩ = some (.bool t134) ∧ w'.cell? ⟨gb138, 1, none⟩ = some (.slice Ao50 t135.length co50) ∧ w'.cell? ⟨gb129, 0, none⟩ = some (.bool a0_0) ∧ w'.cell? ⟨gb129, 1, none⟩ = some (.int .u64 a0_1) ∧ w'.cell? ⟨gb129, 2, none⟩ = some (.int .i64 a0_2)) (ds := []) #[false, false, false, false, false, false, false, false, false, false, false, false, false, false, false, false, false, false, false, false, false] (by kernel_rfl) rfl rfl ⟨(blk_cell BK138.out 0).trans rfl, (blk_cell BK138.out 1).trans rfl, (blk_cell BK129.out 0).trans rfl, (blk_cell BK129.out 1).trans rfl, (blk_cell BK129.out 2).trans rfl⟩ (fun hHeld => ?_); refine with_tabW spec_OfFix.tab2 spec_OfFix.bits2 (fun HT_ HW_ => ?_)
    generalize w52.drew = w53 at HO133 HO137 BK129 BK130 BK138 HB hHeld ⊢
    refine pure_ (i := 1) (N := some 12) (v := ?_) (a' := ?_) #[false, true, false, false, false, false, false, false, false, false, false, false, false, false, false, false, false, false, false, false, false] rfl rfl (any_of HT_.out (by kernel_rfl)) (fun _ _ _ h => h) (Or.inl ⟨by rfl, ?_⟩) ?_ ?_
    rotate_left
    · intro w'
      go_simp
      with_reducible rfl
    rotate_left
    · simp only [Act.put, List.setIfInBounds_toArray, List.set_cons_zero, List.set_cons_succ, i64_w, i32_w]
      rfl
    refine pure_ (i := 5) (N := some 16) (v := ?_) (a' := ?_) #[false, true, false, false, false, true, false, false, false, false, false, false, false, false, false, false, false, false, false, false, false] rfl rfl (any_of HT_.out (by kernel_rfl)) (fun _ _ _ h => h) (Or.inl ⟨by rfl, ?_⟩) ?_ ?_
    rotate_left
    · intro w'
      go_simp
      with_reducible rfl
    rotate_left
    · simp only [Act.put, List.setIfInBounds_toArray, List.set_cons_zero, List.set_cons_succ, i64_w, i32_w]
      rfl
    refine take_ (i := 0) (N := some 11) (v := ?_) (a' := ?_) #[true, true, false, false, false, true, false, false, false, false, false, false, false, false, false, false, false, false, false, false, false] rfl rfl (take_ofW HT_.out HW_.out (by kernel_rfl)) (fun _ _ _ h => h) (Or.inl ⟨by rfl, ?_⟩) hHeld ?_ ?_
    rotate_left
    · rintro w' ⟨s0, s1, s2, s3, s4⟩
      go_simp
      with_reducible rfl
    rotate_left
    · simp only [Act.put, List.setIfInBounds_toArray, List.set_cons_zero, List.set_cons_succ, i64_w, i32_w]
      rfl
    refine take_ (i := 2) (N := some 13) (v := ?_) (a' := ?_) #[true, true, true, false, false, true, false, false, false, false, false, false, false, false, false, false, false, false, false, false, false] rfl rfl (take_ofW HT_.out HW_.out (by kernel_rfl)) (fun _ _ _ h => h) (Or.inl ⟨by rfl, ?_⟩) hHeld ?_ ?_
    rotate_left
    · rintro w' ⟨s0, s1, s2, s3, s4⟩
      go_simp
      with_reducible rfl
    rotate_left
    · simp only [Act.put, List.setIfInBounds_toArray, List.set_cons_zero, List.set_cons_succ, i64_w, i32_w]
      rfl
    refine pure_ (i := 3) (N := some 14) (v := ?_) (a' := ?_) #[true, true, true, true, false, true, false, false, false, false, false, false, false, false, false, false, false, false, false, false, false] rfl rfl (any_of HT_.out (by kernel_rfl)) (fun _ _ _ h => h) (Or.inl ⟨by rfl, ?_⟩) ?_ ?_
    rotate_left
    · intro w'
      go_simp
      with_reducible rfl
    rotate_left
    · simp only [Act.put, List.setIfInBounds_toArray, List.set_cons_zero, List.set_cons_succ, i64_w, i32_w]
      rfl
    refine pure_ (i := 4) (N := some 15) (v := ?_) (a' := ?_) #[true, true, true, true, true, true, false, false, false, false, false, false, false, false, false, false, false, false, false, false, false] rfl rfl (any_of HT_.out (by kernel_rfl)) (fun _ _ _ h => h) (Or.inl ⟨by rfl, ?_⟩) ?_ ?_
    rotate_left
    · intro w'
      go_simp
      with_reducible rfl
    rotate_left
    · simp only [Act.put, List.setIfInBounds_toArray, List.set_cons_zero, List.set_cons_succ, i64_w, i32_w]
      rfl
    refine take_ (i := 6) (N := some 17) (v := ?_) (a' := ?_) #[true, true, true, true, true, true, true, false, false, false, false, false, false, false, false, false, false, false, false, false, false] rfl rfl (take_ofW HT_.out HW_.out (by kernel_rfl)) (fun _ _ _ h => h) (Or.inl ⟨by rfl, ?_⟩) hHeld ?_ ?_
    rotate_left
    · rintro w' ⟨s0, s1, s2, s3, s4⟩
      go_simp
      with_reducible rfl
    rotate_left
    · simp only [Act.put, List.setIfInBounds_toArray, List.set_cons_zero, List.set_cons_succ, i64_w, i32_w]
      rfl
    refine one_ (i := 7) (N := some 18) #[true, true, true, true, true, true, true, true, false, false, false, false, false, false, false, false, false, false, false, false, false] rfl rfl (one_of HT_.out (by kernel_rfl)) (by decide) (fun K hK => ?_)
    refine goes_ Tryd.func29 (by kernel_rfl) rfl #[.slice Ao50 t135.length co50] (by rfl) rfl rfl (by (try simp only [List.map_toArray, List.map_cons, List.map_nil]); first | done | rfl | (simp only [List.length_drop, List.length_take]; rfl)) ?_
    with_reducible refine (spec_Nat_Digits.calls k _ _ t135 t139 _ ?side1 ?side2 A4.out).mono ?_
    (case side1 => repeat (first | exact (Kd.V_reads' HO137.out).2.2 | (with_reducible refine Kd.C_alloc ?_ _) | (with_reducible refine Kd.C_drewN ?_ _) | (with_reducible refine Kd.C_drew ?_)))
    (case side2 => exact (Kd.V_reads' HO137.out).2.1)
    rintro e w54 ⟨rfl, hb⟩
    refine ⟨_, rfl, ?_⟩
    have n0_ := Aside0.mk (Kd.R_below (by (with_reducible repeat (first | apply Kd.R_alloc | apply Kd.R_drewN | apply Kd.R_drew)); exact HO133.out) hb)
    have n1_ := Aside0.mk (Kd.V_below (by (with_reducible repeat (first | apply Kd.V_alloc | apply Kd.V_drewN | apply Kd.V_drew)); exact HO137.out) hb)
    have n2_ := Aside0.mk (blk_below (g := gb129) (o := .cells #[.bool a0_0, .int .u64 a0_1, .int .i64 a0_2] 34 (0, 0)) (by (with_reducible repeat (first | refine blk_drewN ?_ _ | refine blk_drew ?_ | refine blk_alloc ?_ _)); exact BK129.out) hb)
    have n3_ := Aside0.mk (blk_below (g := gb130) (o := .cells #[.bool false, .slice none 0 0, .int .i64 0] 40 (0, 0)) (by (with_reducible repeat (first | refine blk_drewN ?_ _ | refine blk_drew ?_ | refine blk_alloc ?_ _)); exact BK130.out) hb)
    have n4_ := Aside0.mk (blk_below (g := gb138) (o := .cells #[.bool t134, .slice Ao50 t135.length co50] 38 (0, 0)) (by (with_reducible repeat (first | refine blk_drewN ?_ _ | refine blk_drew ?_ | refine blk_alloc ?_ _)); exact BK138.out) hb)
    have n5_ := Aside0.mk (below_step (by repeat (first | (with_reducible first | exact HB.out | apply below_alloc | apply pw_below_drewN | apply below_drew1 | refine below_set ?_ GE129.out | refine below_set ?_ GE130.out | refine below_set ?_ GE138.out) | exact HB.out)) hb)
    clear HO133
    clear HO137
    clear BK129
    clear BK130
    clear BK138
    clear HB
    have HO133 := n0_
    have HO137 := n1_
    have BK129 := n2_
    have BK130 := n3_
    have BK138 := n4_
    have HB := n5_
    clear n0_ n1_ n2_ n3_ n4_ n5_
    (try clear hb)
    (try clear hb2)
    (try clear hk)
    (try clear hi)
    refine hK.out _ _ ⟨(blk_cell BK138.out 0).trans rfl, (blk_cell BK138.out 1).trans rfl, (blk_cell BK129.out 0).trans rfl, (blk_cell BK129.out 1).trans rfl, (blk_cell BK129.out 2).trans rfl⟩ (fun hHeld => ?_)
    clear hK K
    refine norm_ (a' := ?_) ?_ ?_
    rotate_left
    · show Act.put _ (some 18) _ = _
      simp only [Act.put, List.setIfInBounds_toArray, List.set_cons_zero, List.set_cons_succ, i64_w, i32_w]
      rfl
    refine pure_ (i := 8) (N := some 19) (v := ?_) (a' := ?_) #[true, true, true, true, true, true, true, true, true, false, false, false, false, false, false, false, false, false, false, false, false] rfl rfl (any_of HT_.out (by kernel_rfl)) (fun _ _ _ h => h) (Or.inl ⟨by rfl, ?_⟩) ?_ ?_
    rotate_left
    · intro w'
      go_simp
      with_reducible rfl
    rotate_left
    · simp only [Act.put, List.setIfInBounds_toArray, List.set_cons_zero, List.set_cons_succ, i64_w, i32_w]
      rfl
    refine pure_ (i := 9) (N := some 20) (v := ?_) (a' := ?_) #[true, true, true, true, true, true, true, true, true, true, false, false, false, false, false, false, false, false, false, false, false] rfl rfl (any_of HT_.out (by kernel_rfl)) (fun _ _ _ h => h) (Or.inl ⟨by rfl, ?_⟩) ?_ ?_
    rotate_left
    · intro w'
      go_simp
      with_reducible rfl
    rotate_left
    · simp only [Act.put, List.setIfInBounds_toArray, List.set_cons_zero, List.set_cons_succ, i64_w, i32_w]
      rfl
    refine pure_ (i := 10) (N := some 21) (v := undef) (a' := ?_) #[true, true, true, true, true, true, true, true, true, true, true, false, false, false, false, false, false, false, false, false, false] rfl rfl (any_of HT_.out (by kernel_rfl)) (fun _ _ _ h => h) (Or.inr ⟨by rfl, rfl⟩) ?_ ?_
    rotate_left
    · simp only [Act.put, List.setIfInBounds_toArray, List.set_cons_zero, List.set_cons_succ, i64_w, i32_w]
      rfl
    refine pure_ (i := 11) (N := some 22) (v := undef) (a' := ?_) #[true, true, true, true, true, true, true, true, true, true, true, true, false, false, false, false, false, false, false, false, false] rfl rfl (any_of HT_.out (by kernel_rfl)) (fun _ _ _ h => h) (Or.inr ⟨by rfl, rfl⟩) ?_ ?_
    rotate_left
    · simp only [Act.put, List.setIfInBounds_toArray, List.set_cons_zero, List.set_cons_succ, i64_w, i32_w]
      rfl
    refine pure_ (i := 12) (N := some 23) (v := undef) (a' := ?_) #[true, true, true, true, true, true, true, true, true, true, true, true, true, false, false, false, false, false, false, false, false] rfl rfl (any_of HT_.out (by kernel_rfl)) (fun _ _ _ h => h) (Or.inr ⟨by rfl, rfl⟩) ?_ ?_
    rotate_left
    · simp only [Act.put, List.setIfInBounds_toArray, List.set_cons_zero, List.set_cons_succ, i64_w, i32_w]
      rfl
    refine pure_ (i := 13) (N := some 24) (v := ?_) (a' := ?_) #[true, true, true, true, true, true, true, true, true, true, true, true, true, true, false, false, false, false, false, false, false] rfl rfl (any_of HT_.out (by kernel_rfl)) (fun _ _ _ h => h) (Or.inl ⟨by rfl, ?_⟩) ?_ ?_
    rotate_left
    · intro w'
      go_simp
      with_reducible rfl
    rotate_left
    · simp only [Act.put, List.setIfInBounds_toArray, List.set_cons_zero, List.set_cons_succ, i64_w, i32_w]
      rfl
    refine pure_ (i := 14) (N := some 25) (v := ?_) (a' := ?_) #[true, true, true, true, true, true, true, true, true, true, true, true, true, true, true, false, false, false, false, false, false] rfl rfl (any_of HT_.out (by kernel_rfl)) (fun _ _ _ h => h) (Or.inl ⟨by rfl, ?_⟩) ?_ ?_
    rotate_left
    · intro w'
      go_simp
      with_reducible rfl
    rotate_left
    · simp only [Act.put, List.setIfInBounds_toArray, List.set_cons_zero, List.set_cons_succ, i64_w, i32_w]
      rfl
    refine pure_ (i := 15) (N := some 26) (v := undef) (a' := ?_) #[true, true, true, true, true, true, true, true, true, true, true, true, true, true, true, true, false, false, false, false, false] rfl rfl (any_of HT_.out (by kernel_rfl)) (fun _ _ _ h => h) (Or.inr ⟨by rfl, rfl⟩) ?_ ?_
    rotate_left
    · simp only [Act.put, List.setIfInBounds_toArray, List.set_cons_zero, List.set_cons_succ, i64_w, i32_w]
      rfl
    refine pure_ (i := 16) (N := some 27) (v := undef) (a' := ?_) #[true, true, true, true, true, true, true, true, true, true, true, true, true, true, true, true, true, false, false, false, false] rfl rfl (any_of HT_.out (by kernel_rfl)) (fun _ _ _ h => h) (Or.inr ⟨by rfl, rfl⟩) ?_ ?_
    rotate_left
    · simp only [Act.put, List.setIfInBounds_toArray, List.set_cons_zero, List.set_cons_succ, i64_w, i32_w]
      rfl
    refine pure_ (i := 17) (N := some 28) (v := undef) (a' := ?_) #[true, true, true, true, true, true, true, true, true, true, true, true, true, true, true, true, true, true, false, false, false] rfl rfl (any_of HT_.out (by kernel_rfl)) (fun _ _ _ h => h) (Or.inr ⟨by rfl, rfl⟩) ?_ ?_
    rotate_left
    · simp only [Act.put, List.setIfInBounds_toArray, List.set_cons_zero, List.set_cons_succ, i64_w, i32_w]
      rfl
    refine pure_ (i := 18) (N := some 29) (v := ?_) (a' := ?_) #[true, true, true, true, true, true, true, true, true, true, true, true, true, true, true, true, true, true, true, false, false] rfl rfl (any_of HT_.out (by kernel_rfl)) (fun _ _ _ h => h) (Or.inl ⟨by rfl, ?_⟩) ?_ ?_
    rotate_left
    · intro w'
      go_simp
      with_reducible rfl
    rotate_left
    · simp only [Act.put, List.setIfInBounds_toArray, List.set_cons_zero, List.set_cons_succ, i64_w, i32_w]
      rfl
    refine one_ (i := 19) (N := none) #[true, true, true, true, true, true, true, true, true, true, true, true, true, true, true, true, true, true, true, true, false] rfl rfl (one_of HT_.out (by kernel_rfl)) (by decide) (fun K hK => ?_)
    have hs55 : w54.cell? ⟨gb130, 0, none⟩ = some (.bool false) := (blk_cell BK130.out 0).trans rfl
    have hfs55 := blk_frozen BK130.out 0
    have hns55_0 := NB129_130.out
    have hns55_2 := NB138_130.out
    have hms55_0 := NB130_129.out
    have hms55_2 := NB130_138.out
    have hs56 : w54.cell? ⟨gb130, 1, none⟩ = some (.slice none 0 0) := (blk_cell BK130.out 1).trans rfl
    have hfs56 := blk_frozen BK130.out 1
    have hns56_0 := NB129_130.out
    have hns56_2 := NB138_130.out
    have hms56_0 := NB130_129.out
    have hms56_2 := NB130_138.out
    have hs57 : w54.cell? ⟨gb130, 2, none⟩ = some (.int .i64 0) := (blk_cell BK130.out 2).trans rfl
    have hfs57 := blk_frozen BK130.out 2
    have hns57_0 := NB129_130.out
    have hns57_2 := NB138_130.out
    have hms57_0 := NB130_129.out
    have hms57_2 := NB130_138.out
    refine skip_ (w1 := ?_) (by rfl) rfl ?_ ?_
    rotate_left
    · go_simp
      rfl
    refine hK.out _ _ ⟨((cell_far (p := ⟨gb130, _, none⟩) NB138_130.out _).trans (((cell_far (p := ⟨gb130, _, none⟩) NB138_130.out _).trans (((cell_far (p := ⟨gb130, _, none⟩) NB138_130.out _).trans (hHeld.1)))))), ((cell_far (p := ⟨gb130, _, none⟩) NB138_130.out _).trans (((cell_far (p := ⟨gb130, _, none⟩) NB138_130.out _).trans (((cell_far (p := ⟨gb130, _, none⟩) NB138_130.out _).trans (hHeld.2.1)))))), ((cell_far (p := ⟨gb130, _, none⟩) NB129_130.out _).trans (((cell_far (p := ⟨gb130, _, none⟩) NB129_130.out _).trans (((cell_far (p := ⟨gb130, _, none⟩) NB129_130.out _).trans (hHeld.2.2.1)))))), ((cell_far (p := ⟨gb130, _, none⟩) NB129_130.out _).trans (((cell_far (p := ⟨gb130, _, none⟩) NB129_130.out _).trans (((cell_far (p := ⟨gb130, _, none⟩) NB129_130.out _).trans (hHeld.2.2.2.1)))))), ((cell_far (p := ⟨gb130, _, none⟩) NB129_130.out _).trans (((cell_far (p := ⟨gb130, _, none⟩) NB129_130.out _).trans (((cell_far (p := ⟨gb130, _, none⟩) NB129_130.out _).trans (hHeld.2.2.2.2))))))⟩ (fun hHeld => ?_)
    clear hK K
    refine pure_ (i := 20) (N := some 3) (v := ?_) (a' := ?_) #[true, true, true, true, true, true, true, true, true, true, true, true, true, true, true, true, true, true, true, true, true] rfl rfl (any_of HT_.out (by kernel_rfl)) (fun _ _ _ h => h) (Or.inl ⟨by rfl, ?_⟩) ?_ ?_
    rotate_left
    · intro w'
      go_simp
      with_reducible rfl
    rotate_left
    · simp only [Act.put, List.setIfInBounds_toArray, List.set_cons_zero, List.set_cons_succ, i64_w, i32_w]
      rfl
    refine done_ (done_of HT_.out (by kernel_rfl)) ?_
    try go_wp2
    refine bodyPost_ret (results_ct rfl _ _ gb130 40 #[.bool t134, .slice Ao50 t135.length co50, .int .i64 (wrap64 (-a0_2))] (0, 0) _ rfl (by (with_reducible repeat (first | refine blk_drewN ?_ _ | refine blk_drew ?_ | refine blk_alloc ?_ _)); refine blk_put (cs := #[.bool t134, .slice Ao50 t135.length co50, .int .i64 0]) ?_ 2 _ rfl; (with_reducible repeat (first | refine blk_drewN ?_ _ | refine blk_drew ?_ | refine blk_alloc ?_ _)); refine blk_put (cs := #[.bool t134, .slice none 0 0, .int .i64 0]) ?_ 1 _ rfl; (with_reducible repeat (first | refine blk_drewN ?_ _ | refine blk_drew ?_ | refine blk_alloc ?_ _)); refine blk_put (cs := #[.bool false, .slice none 0 0, .int .i64 0]) ?_ 0 _ rfl; (with_reducible repeat (first | refine blk_drewN ?_ _ | refine blk_drew ?_ | refine blk_alloc ?_ _)); exact BK130.out) Tryd.underlying40 rfl (by kernel_rfl)) rfl ?_
    exact ⟨_, by first | rfl | (simp [errW_none, errW_some] <;> rfl) | (simp [*, errW_none, errW_some] <;> rfl), by (with_reducible repeat (first | apply Kd.V_alloc | apply Kd.V_drewN | apply Kd.V_drew)); exact Kd.V_mono (Kd.V_far (p := ⟨gb130, 2, none⟩) (Kd.V_far (p := ⟨gb130, 1, none⟩) (Kd.V_far (p := ⟨gb130, 0, none⟩) (Kd.V_mono HO137.out (fun k_ hk => (⟨hk, hk.2.2.1⟩ : _ ∧ k_ ≠ gb130))) (fun _ hk => hk.2) (.bool t134)) (fun _ hk => hk.2) (.slice Ao50 t135.length co50)) (fun _ hk => hk.2) (.int .i64 (wrap64 (-a0_2)))) (fun _ hk => hk.1.1), by repeat (first | (with_reducible first | exact HB.out | apply below_alloc | apply pw_below_drewN | apply below_drew1 | refine below_set ?_ GE129.out | refine below_set ?_ GE130.out | refine below_set ?_ GE138.out) | exact HB.out)⟩


end Go.Proofs.YtcgdphciepdkiaaDoor.S
