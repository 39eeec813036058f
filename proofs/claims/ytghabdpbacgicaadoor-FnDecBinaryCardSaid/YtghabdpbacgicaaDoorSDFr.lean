/- CONTRACTS of spec_Dec_Frac: each as the plain function beside it. (Began as print.sh's text for this seat; the turns are those of wip/tools/split.py.) -/
import Derived.Test.YtghabdpbacgicaaDoorSMul
import Derived.Test.YtghabdpbacgicaaDoorSWOf
import Derived.Test.YtghabdpbacgicaaDoorSPow
namespace Go.Proofs.YtghabdpbacgicaaDoor.S
open Go.RowKit Go.Proofs.YtghabdpbacgicaaDoorW.PrintWords Go.Proofs.YtghabdpbacgicaaDoorW.PrintLast Go.Proofs.YtghabdpbacgicaaDoorW.PrintMore
attribute [local go_sem] max2_int min2_int max_two min_two max_three min_three max_four min_four   -- for this text's walks alone
set_option linter.unusedVariables false
set_option linter.unusedSimpArgs false

/-! ### spec_Dec_Frac: function 35 -/
def spec_Dec_Frac.f (k : Nat) (a0_0 : Bool) (l0_1 : List Int) (a0_2 : Int) : Option (Bool × List Int × List Int) := if a0_2 ≥ 0 then ((spec_Pow10.f k a0_2).bind fun t217 => ((spec_NatMul.f k l0_1 t217).bind fun t220 => ((spec_wholeOf.f a0_0 t220).bind fun bt223 => ((spec_one.f).bind fun t227 => (some (bt223.1, bt223.2, t227)))))) else ((spec_Pow10.f k (wrap64 (-a0_2))).bind fun t230 => (some (a0_0, l0_1, t230)))
theorem spec_Dec_Frac.mono : ∀ a0 a1 a2 k, LeO (spec_Dec_Frac.f k a0 a1 a2) (spec_Dec_Frac.f (k + 1) a0 a1 a2) := by
  intro a0 a1 a2 k
  unfold spec_Dec_Frac.f
  repeat' first
      | (with_reducible exact spec_NatMul.mono _ _ _)
      | (with_reducible exact spec_Pow10.mono _ _)
      | (with_reducible exact LeO.refl _)
      | (with_reducible exact LeO.none _)
      | (with_reducible refine LeO.ite ?_ ?_)
      | (with_reducible refine LeO.bind ?_ (fun _ => ?_))
      | exact spec_NatMul.mono _ _ _
      | exact spec_Pow10.mono _ _
      | exact LeO.none _
      | refine LeO.ite ?_ ?_
      | refine LeO.bind ?_ (fun _ => ?_)
def spec_Dec_Frac.T2 : Bool × List (List Nat × List Nat) := (true, [([], []), ([0], [0]), ([1], [1]), ([], []), ([3], [3]), ([4], [4]), ([], []), ([6], [6]), ([7], [7]), ([5, 8, 8], [5, 8]), ([2, 9, 9], [2, 9]), ([10], []), ([10, 11], [10, 11]), ([12, 11, 0, 1, 2, 3, 4, 5, 6, 7, 8, 9, 10, 11, 12], [12])])
def spec_Dec_Frac.B2 : List Nat := [0, 1, 3, 0, 8, 24, 0, 64, 192, 504, 1023, 2047, 4095, 8191]
theorem spec_Dec_Frac.tab2 : rtab .any (opsOf Tryd.f35 2) = spec_Dec_Frac.T2 := by kernel_rfl
theorem spec_Dec_Frac.bits2 : waitsOk spec_Dec_Frac.T2.2 spec_Dec_Frac.B2 = true := by kernel_rfl
def spec_Dec_Frac.T3 : Bool × List (List Nat × List Nat) := (true, [([], []), ([0], [0]), ([], []), ([2], [2]), ([3], [3]), ([4], [4]), ([1, 5], [1, 5]), ([6, 5, 0, 1, 2, 3, 4, 5, 6], [6])])
def spec_Dec_Frac.B3 : List Nat := [0, 1, 0, 4, 12, 28, 63, 127]
theorem spec_Dec_Frac.tab3 : rtab .any (opsOf Tryd.f35 3) = spec_Dec_Frac.T3 := by kernel_rfl
theorem spec_Dec_Frac.bits3 : waitsOk spec_Dec_Frac.T3.2 spec_Dec_Frac.B3 = true := by kernel_rfl
set_option maxHeartbeats 8000000 in
set_option maxRecDepth 100000 in
theorem spec_Dec_Frac.calls (k : Nat) (a0_0 : Bool) (P0_1_ : Nat → Prop) (A0_1 : Option Addr) (c0_1 : Nat) (l0_1 : List Int) (a0_2 : Int) (r1 : Bool) (r2 : List Int) (r3 : List Int) (w : World) (hs0_1 : Kd.V (Kd.int .u32) 58 w w.heap.size (fun k_ => P0_1_ k_) (.slice A0_1 l0_1.length c0_1) l0_1) (h : spec_Dec_Frac.f k a0_0 l0_1 a0_2 = some (r1, r2, r3)) :
    Calls Tryd.prog 35 #[.agg #[.bool a0_0, .slice A0_1 l0_1.length c0_1, .int .i64 a0_2]] w fun e w' => ∃ v1_ v2_ : Value, e = .returned (.agg #[.bool r1, v1_, v2_]) ∧ Kd.V (Kd.int .u32) 58 w' w.heap.size (fun k_ => (P0_1_ k_ ∨ w.heap.size ≤ k_) ∧ some k_ ≠ (v2_ : Value).ownBlock) v1_ r2 ∧ Kd.R (Kd.int .u32) 58 w' w.heap.size (fun k_ => (w.heap.size ≤ k_)) v2_ r3 ∧ Below w.heap.size w w' := by
  have hu30 := Tryd.underlying30
  have hu78 := Tryd.underlying78
  have hu28 := Tryd.underlying28
  have HO0_1 := Aside0.mk (show Kd.V (Kd.int .u32) 58 w w.heap.size (fun k_ => (P0_1_ k_ ∨ w.heap.size ≤ k_)) (.slice A0_1 l0_1.length c0_1) l0_1 from Kd.V_mono hs0_1 (fun k_ hk => .inl hk))
  have HB := Aside0.mk (Below.refl w.heap.size w)
  have H : (if a0_2 ≥ 0 then ((spec_Pow10.f k a0_2).bind fun t217 => ((spec_NatMul.f k l0_1 t217).bind fun t220 => ((spec_wholeOf.f a0_0 t220).bind fun bt223 => ((spec_one.f).bind fun t227 => (some (bt223.1, bt223.2, t227)))))) else ((spec_Pow10.f k (wrap64 (-a0_2))).bind fun t230 => (some (a0_0, l0_1, t230)))) = some (r1, r2, r3) := h
  clear h
  by_cases c2 : a0_2 ≥ 0
  · rw [if_pos c2] at H
    have c2b0 : decide (0 ≤ a0_2) = true := decide_eq_true c2
    clear c2
    replace H := Option.bind_eq_some_iff.mp H
    obtain ⟨t217, A30, H⟩ := H
    replace H : ((spec_NatMul.f k l0_1 t217).bind fun t220 => ((spec_wholeOf.f a0_0 t220).bind fun bt223 => ((spec_one.f).bind fun t227 => (some (bt223.1, bt223.2, t227))))) = some (r1, r2, r3) := H
    have A3 := Aside0.mk A30
    clear A30
    replace H := Option.bind_eq_some_iff.mp H
    obtain ⟨t220, A40, H⟩ := H
    replace H : ((spec_wholeOf.f a0_0 t220).bind fun bt223 => ((spec_one.f).bind fun t227 => (some (bt223.1, bt223.2, t227)))) = some (r1, r2, r3) := H
    have A4 := Aside0.mk A40
    clear A40
    replace H := Option.bind_eq_some_iff.mp H
    obtain ⟨⟨t223, t224⟩, A50, H⟩ := H
    replace H : ((spec_one.f).bind fun t227 => (some (t223, t224, t227))) = some (r1, r2, r3) := H
    have A5 := Aside0.mk A50
    clear A50
    replace H := Option.bind_eq_some_iff.mp H
    obtain ⟨t227, A60, H⟩ := H
    replace H : (some (t223, t224, t227)) = some (r1, r2, r3) := H
    have A6 := Aside0.mk A60
    clear A60
    simp only [Option.some.injEq, Prod.mk.injEq] at H
    obtain ⟨rfl, rfl, rfl⟩ := H
    go_enter Tryd.func35, Tryd.ntmps35
    try go_wp2_with (first | ((with_reducible refine gate_dst (N := 1) rfl ?_); refine box_event ?hg (N := 1) ?hd (cs := #[.bool a0_0, .slice A0_1 l0_1.length c0_1, .int .i64 a0_2]) (t := 30) ?hr ?_; (case hd => rfl); (case hg => rfl); (case hr => first | (go_simp; done) | (go_simp; rfl)); intro gb215 hg w7 hbox hb; have n0_ := Aside0.mk (Kd.V_below (Kd.V_elderB (by (with_reducible repeat (first | apply Kd.V_alloc | apply Kd.V_drewN | apply Kd.V_drew)); exact HO0_1.out) gb215 (Nat.le_of_eq hg.symm)) hb); have n1_ := Aside0.mk (below_step (by repeat (first | (with_reducible first | exact HB.out | apply below_alloc | apply pw_below_drewN | apply below_drew1) | exact HB.out)) hb); have n2_ := Aside0.mk (hbox); have n3_ := Aside0.mk ((by rw [hg]; exact (below_size (by repeat (first | (with_reducible first | exact HB.out | apply below_alloc | apply pw_below_drewN | apply below_drew1) | exact HB.out))) : w.heap.size ≤ gb215)); have n4_ := Aside0.mk ((by rw [hg]; exact (below_size (by repeat (first | (with_reducible first | exact HB.out | apply below_alloc | apply pw_below_drewN | apply below_drew1) | exact HB.out))) : w.heap.size ≤ gb215)); clear HO0_1; clear HB; have HO0_1 := n0_; have HB := n1_; have BK215 := n2_; have GW215 := n3_; have GE215 := n4_; clear n0_ n1_ n2_ n3_ n4_; clear hb hbox hg) | ((with_reducible refine gate_dst (N := 2) rfl ?_); refine box_event ?hg (N := 2) ?hd (cs := #[.bool false, .slice none 0 0, .slice none 0 0]) (t := 78) ?hr ?_; (case hd => rfl); (case hg => rfl); (case hr => first | (go_simp; done) | (go_simp; rfl)); intro gb216 hg w8 hbox hb; have n0_ := Aside0.mk (Kd.V_below (Kd.V_elderB (by (with_reducible repeat (first | apply Kd.V_alloc | apply Kd.V_drewN | apply Kd.V_drew)); exact HO0_1.out) gb216 (Nat.le_of_eq hg.symm)) hb); have n1_ := Aside0.mk (blk_below (g := gb215) (o := .cells #[.bool a0_0, .slice A0_1 l0_1.length c0_1, .int .i64 a0_2] 30 (0, 0)) (by (with_reducible repeat (first | refine blk_drewN ?_ _ | refine blk_drew ?_ | refine blk_alloc ?_ _)); exact BK215.out) hb); have n2_ := Aside0.mk (below_step (by repeat (first | (with_reducible first | exact HB.out | apply below_alloc | apply pw_below_drewN | apply below_drew1 | refine below_set ?_ GE215.out) | exact HB.out)) hb); have n3_ := Aside0.mk (hbox); have n4_ := Aside0.mk ((by rw [hg]; exact (below_size (by repeat (first | (with_reducible first | exact HB.out | apply below_alloc | apply pw_below_drewN | apply below_drew1 | refine below_set ?_ GE215.out) | exact HB.out))) : w.heap.size ≤ gb216)); have n5_ := Aside0.mk ((by rw [hg]; exact (below_size (by repeat (first | (with_reducible first | exact HB.out | apply below_alloc | apply pw_below_drewN | apply below_drew1 | refine below_set ?_ GE215.out) | exact HB.out))) : w.heap.size ≤ gb216)); have n6_ := Aside0.mk ((by rw [hg]; exact Nat.ne_of_lt (blk_lt (g := gb215) (o := .cells #[.bool a0_0, .slice A0_1 l0_1.length c0_1, .int .i64 a0_2] 30 (0, 0)) (by (with_reducible repeat (first | refine blk_drewN ?_ _ | refine blk_drew ?_ | refine blk_alloc ?_ _)); exact BK215.out)) : gb215 ≠ gb216)); have n7_ := Aside0.mk ((by rw [hg]; exact Nat.ne_of_gt (blk_lt (g := gb215) (o := .cells #[.bool a0_0, .slice A0_1 l0_1.length c0_1, .int .i64 a0_2] 30 (0, 0)) (by (with_reducible repeat (first | refine blk_drewN ?_ _ | refine blk_drew ?_ | refine blk_alloc ?_ _)); exact BK215.out)) : gb216 ≠ gb215)); clear HO0_1; clear BK215; clear HB; have HO0_1 := n0_; have BK215 := n1_; have HB := n2_; have BK216 := n3_; have GW216 := n4_; have GE216 := n5_; have NB215_216 := n6_; have NB216_215 := n7_; clear n0_ n1_ n2_ n3_ n4_ n5_ n6_ n7_; clear hb hbox hg; have hnb9 := NB215_216.out; have hnc9 := NB216_215.out; have hcz10_0 : w8.cell? ⟨gb215, 0, none⟩ = some (.bool a0_0) := (blk_cell BK215.out 0).trans rfl; have hcz10_1 : w8.cell? ⟨gb215, 1, none⟩ = some (.slice A0_1 l0_1.length c0_1) := (blk_cell BK215.out 1).trans rfl; have hcz10_2 : w8.cell? ⟨gb215, 2, none⟩ = some (.int .i64 a0_2) := (blk_cell BK215.out 2).trans rfl; have hfz10_0 := blk_frozen BK215.out 0; have hfz10_1 := blk_frozen BK215.out 1; have hfz10_2 := blk_frozen BK215.out 2))
    have n0_ := Aside0.mk (Kd.V_drew HO0_1.out)
    have n1_ := Aside0.mk (blk_drew BK215.out)
    have n2_ := Aside0.mk (blk_drew BK216.out)
    have n3_ := Aside0.mk (below_drew1 HB.out)
    clear HO0_1
    clear BK215
    clear BK216
    clear HB
    have HO0_1 := n0_
    have BK215 := n1_
    have BK216 := n2_
    have HB := n3_
    clear n0_ n1_ n2_ n3_
    refine start_ (n := 14) (S := fun w' => w'.cell? ⟨gb215, 0, none⟩ = some (.bool a0_0) ∧ w'.cell? ⟨gb215, 1, none⟩ = some (.slice A0_1 l0_1.length c0_1) ∧ w'.cell? ⟨gb215, 2, none⟩ = some (.int .i64 a0_2)) (ds := []) #[false, false, false, false, false, false, false, false, false, false, false, false, false, false] (by kernel_rfl) rfl rfl ⟨(blk_cell BK215.out 0).trans rfl, (blk_cell BK215.out 1).trans rfl, (blk_cell BK215.out 2).trans rfl⟩ (fun hHeld => ?_); refine with_tabW spec_Dec_Frac.tab2 spec_Dec_Frac.bits2 (fun HT_ HW_ => ?_)
    generalize w8.drew = w11 at HO0_1 BK215 BK216 HB hHeld ⊢
    refine pure_ (i := 0) (N := some 6) (v := ?_) (a' := ?_) #[true, false, false, false, false, false, false, false, false, false, false, false, false, false] rfl rfl (any_of HT_.out (by kernel_rfl)) (fun _ _ _ h => h) (Or.inl ⟨by rfl, ?_⟩) ?_ ?_
    rotate_left
    · intro w'
      go_simp
      with_reducible rfl
    rotate_left
    · simp only [Act.put, List.setIfInBounds_toArray, List.set_cons_zero, List.set_cons_succ, i64_w, i32_w]
      rfl
    refine pure_ (i := 1) (N := some 7) (v := ?_) (a' := ?_) #[true, true, false, false, false, false, false, false, false, false, false, false, false, false] rfl rfl (any_of HT_.out (by kernel_rfl)) (fun _ _ _ h => h) (Or.inl ⟨by rfl, ?_⟩) ?_ ?_
    rotate_left
    · intro w'
      go_simp
      with_reducible rfl
    rotate_left
    · simp only [Act.put, List.setIfInBounds_toArray, List.set_cons_zero, List.set_cons_succ, i64_w, i32_w]
      rfl
    refine pure_ (i := 3) (N := some 9) (v := ?_) (a' := ?_) #[true, true, false, true, false, false, false, false, false, false, false, false, false, false] rfl rfl (any_of HT_.out (by kernel_rfl)) (fun _ _ _ h => h) (Or.inl ⟨by rfl, ?_⟩) ?_ ?_
    rotate_left
    · intro w'
      go_simp
      with_reducible rfl
    rotate_left
    · simp only [Act.put, List.setIfInBounds_toArray, List.set_cons_zero, List.set_cons_succ, i64_w, i32_w]
      rfl
    refine pure_ (i := 4) (N := some 10) (v := ?_) (a' := ?_) #[true, true, false, true, true, false, false, false, false, false, false, false, false, false] rfl rfl (any_of HT_.out (by kernel_rfl)) (fun _ _ _ h => h) (Or.inl ⟨by rfl, ?_⟩) ?_ ?_
    rotate_left
    · intro w'
      go_simp
      with_reducible rfl
    rotate_left
    · simp only [Act.put, List.setIfInBounds_toArray, List.set_cons_zero, List.set_cons_succ, i64_w, i32_w]
      rfl
    refine pure_ (i := 6) (N := some 12) (v := ?_) (a' := ?_) #[true, true, false, true, true, false, true, false, false, false, false, false, false, false] rfl rfl (any_of HT_.out (by kernel_rfl)) (fun _ _ _ h => h) (Or.inl ⟨by rfl, ?_⟩) ?_ ?_
    rotate_left
    · intro w'
      go_simp
      with_reducible rfl
    rotate_left
    · simp only [Act.put, List.setIfInBounds_toArray, List.set_cons_zero, List.set_cons_succ, i64_w, i32_w]
      rfl
    refine take_ (i := 2) (N := some 8) (v := ?_) (a' := ?_) #[true, true, true, true, true, false, true, false, false, false, false, false, false, false] rfl rfl (take_ofW HT_.out HW_.out (by kernel_rfl)) (fun _ _ _ h => h) (Or.inl ⟨by rfl, ?_⟩) hHeld ?_ ?_
    rotate_left
    · rintro w' ⟨s0, s1, s2⟩
      go_simp
      with_reducible rfl
    rotate_left
    · simp only [Act.put, List.setIfInBounds_toArray, List.set_cons_zero, List.set_cons_succ, i64_w, i32_w]
      rfl
    refine take_ (i := 5) (N := some 11) (v := ?_) (a' := ?_) #[true, true, true, true, true, true, true, false, false, false, false, false, false, false] rfl rfl (take_ofW HT_.out HW_.out (by kernel_rfl)) (fun _ _ _ h => h) (Or.inl ⟨by rfl, ?_⟩) hHeld ?_ ?_
    rotate_left
    · rintro w' ⟨s0, s1, s2⟩
      go_simp
      with_reducible rfl
    rotate_left
    · simp only [Act.put, List.setIfInBounds_toArray, List.set_cons_zero, List.set_cons_succ, i64_w, i32_w]
      rfl
    refine take_ (i := 7) (N := some 13) (v := ?_) (a' := ?_) #[true, true, true, true, true, true, true, true, false, false, false, false, false, false] rfl rfl (take_ofW HT_.out HW_.out (by kernel_rfl)) (fun _ _ _ h => h) (Or.inl ⟨by rfl, ?_⟩) hHeld ?_ ?_
    rotate_left
    · rintro w' ⟨s0, s1, s2⟩
      go_simp
      with_reducible rfl
    rotate_left
    · simp only [Act.put, List.setIfInBounds_toArray, List.set_cons_zero, List.set_cons_succ, i64_w, i32_w]
      rfl
    refine one_ (i := 8) (N := some 14) #[true, true, true, true, true, true, true, true, true, false, false, false, false, false] rfl rfl (one_of HT_.out (by kernel_rfl)) (by decide) (fun K hK => ?_)
    refine goes_ Tryd.func46 (by kernel_rfl) rfl #[.int .i64 a0_2] (by rfl) rfl rfl (by (try simp only [List.map_toArray, List.map_cons, List.map_nil]); first | done | rfl | (simp only [List.length_drop, List.length_take]; rfl)) ?_
    with_reducible refine (spec_Pow10.calls k a0_2 t217 _ A3.out).mono ?_
    rintro e w12 ⟨v218, rfl, ho0, hb⟩
    refine ⟨_, rfl, ?_⟩
    have n0_ := Aside0.mk (Kd.V_elder' (by (with_reducible repeat (first | apply Kd.V_alloc | apply Kd.V_drewN | apply Kd.V_drew)); exact HO0_1.out) (Kd.R_base ho0) hb)
    have n1_ := Aside0.mk (Kd.R_lower (Kd.R_newM (M := fun k_ => (w.heap.size ≤ k_)) ho0 (below_size (by repeat (first | (with_reducible first | exact HB.out | apply below_alloc | apply pw_below_drewN | apply below_drew1 | refine below_set ?_ GE215.out | refine below_set ?_ GE216.out) | exact HB.out))) (fun k_ h_ => h_)) (below_size (by repeat (first | (with_reducible first | exact HB.out | apply below_alloc | apply pw_below_drewN | apply below_drew1 | refine below_set ?_ GE215.out | refine below_set ?_ GE216.out) | exact HB.out))))
    have n2_ := Aside0.mk (blk_below (g := gb215) (o := .cells #[.bool a0_0, .slice A0_1 l0_1.length c0_1, .int .i64 a0_2] 30 (0, 0)) (by (with_reducible repeat (first | refine blk_drewN ?_ _ | refine blk_drew ?_ | refine blk_alloc ?_ _)); exact BK215.out) hb)
    have n3_ := Aside0.mk (blk_below (g := gb216) (o := .cells #[.bool false, .slice none 0 0, .slice none 0 0] 78 (0, 0)) (by (with_reducible repeat (first | refine blk_drewN ?_ _ | refine blk_drew ?_ | refine blk_alloc ?_ _)); exact BK216.out) hb)
    have n4_ := Aside0.mk (below_step (by repeat (first | (with_reducible first | exact HB.out | apply below_alloc | apply pw_below_drewN | apply below_drew1 | refine below_set ?_ GE215.out | refine below_set ?_ GE216.out) | exact HB.out)) hb)
    clear HO0_1
    clear BK215
    clear BK216
    clear HB
    have HO0_1 := n0_
    have HO219 := n1_
    have BK215 := n2_
    have BK216 := n3_
    have HB := n4_
    clear n0_ n1_ n2_ n3_ n4_
    (try clear hb)
    (try clear hb2)
    (try clear hk)
    (try clear hi)
    (try clear ho0)
    obtain ⟨Ao13, co13, eo13⟩ := Kd.R_slice HO219.out
    (first | subst eo13 | (injection eo13 with f1_ f2_ f3_; have f4_ := f1_.symm; have f5_ := f3_.symm; clear f1_ f2_ f3_; subst f4_; subst f5_))
    refine hK.out _ _ ⟨(blk_cell BK215.out 0).trans rfl, (blk_cell BK215.out 1).trans rfl, (blk_cell BK215.out 2).trans rfl⟩ (fun hHeld => ?_)
    clear hK K
    refine norm_ (a' := ?_) ?_ ?_
    rotate_left
    · show Act.put _ (some 14) _ = _
      simp only [Act.put, List.setIfInBounds_toArray, List.set_cons_zero, List.set_cons_succ, i64_w, i32_w]
      rfl
    refine one_ (i := 9) (N := some 15) #[true, true, true, true, true, true, true, true, true, true, false, false, false, false] rfl rfl (one_of HT_.out (by kernel_rfl)) (by decide) (fun K hK => ?_)
    refine goes_ Tryd.func45 (by kernel_rfl) rfl #[.slice A0_1 l0_1.length c0_1, .slice Ao13 t217.length co13] (by rfl) rfl rfl (by (try simp only [List.map_toArray, List.map_cons, List.map_nil]); first | done | rfl | (simp only [List.length_drop, List.length_take]; rfl)) ?_
    with_reducible refine (spec_NatMul.calls k _ _ l0_1 _ _ t217 t220 _ ?side1 ?side2 ?side3 ?side4 A4.out).mono ?_
    (case side1 => repeat (first | exact (Kd.V_reads' HO0_1.out).2.2 | (with_reducible refine Kd.C_alloc ?_ _) | (with_reducible refine Kd.C_drewN ?_ _) | (with_reducible refine Kd.C_drew ?_)))
    (case side2 => exact (Kd.V_reads' HO0_1.out).2.1)
    (case side3 => repeat (first | exact (Kd.R_reads' HO219.out).2.2 | (with_reducible refine Kd.C_alloc ?_ _) | (with_reducible refine Kd.C_drewN ?_ _) | (with_reducible refine Kd.C_drew ?_)))
    (case side4 => exact (Kd.R_reads' HO219.out).2.1)
    rintro e w14 ⟨v221, rfl, ho0, hb⟩
    refine ⟨_, rfl, ?_⟩
    have n0_ := Aside0.mk (Kd.V_below (by (with_reducible repeat (first | apply Kd.V_alloc | apply Kd.V_drewN | apply Kd.V_drew)); exact HO0_1.out) hb)
    have n1_ := Aside0.mk (Kd.R_below (by (with_reducible repeat (first | apply Kd.R_alloc | apply Kd.R_drewN | apply Kd.R_drew)); exact HO219.out) hb)
    have n2_ := Aside0.mk (Kd.V_lower (Kd.V_mono (ok' := fun k_ => (P0_1_ k_ ∨ w.heap.size ≤ k_) ∧ some k_ ≠ (.slice Ao13 t217.length co13 : Value).ownBlock ∧ k_ ≠ gb215 ∧ k_ ≠ gb216) ho0 (fun k_ hk_ => ⟨(.inr (Nat.le_trans (below_size (by repeat (first | (with_reducible first | exact HB.out | apply below_alloc | apply pw_below_drewN | apply below_drew1 | refine below_set ?_ GE215.out | refine below_set ?_ GE216.out) | exact HB.out))) hk_)), (Kd.fresh' (Kd.R_lt (by (with_reducible repeat (first | apply Kd.R_alloc | apply Kd.R_drewN | apply Kd.R_drew)); exact HO219.out)) k_ hk_), (Kd.freshB (g := gb215) (o := .cells #[.bool a0_0, .slice A0_1 l0_1.length c0_1, .int .i64 a0_2] 30 (0, 0)) (by (with_reducible repeat (first | refine blk_drewN ?_ _ | refine blk_drew ?_ | refine blk_alloc ?_ _)); exact BK215.out) k_ hk_), (Kd.freshB (g := gb216) (o := .cells #[.bool false, .slice none 0 0, .slice none 0 0] 78 (0, 0)) (by (with_reducible repeat (first | refine blk_drewN ?_ _ | refine blk_drew ?_ | refine blk_alloc ?_ _)); exact BK216.out) k_ hk_)⟩)) (below_size (by repeat (first | (with_reducible first | exact HB.out | apply below_alloc | apply pw_below_drewN | apply below_drew1 | refine below_set ?_ GE215.out | refine below_set ?_ GE216.out) | exact HB.out))))
    have n3_ := Aside0.mk (blk_below (g := gb215) (o := .cells #[.bool a0_0, .slice A0_1 l0_1.length c0_1, .int .i64 a0_2] 30 (0, 0)) (by (with_reducible repeat (first | refine blk_drewN ?_ _ | refine blk_drew ?_ | refine blk_alloc ?_ _)); exact BK215.out) hb)
    have n4_ := Aside0.mk (blk_below (g := gb216) (o := .cells #[.bool false, .slice none 0 0, .slice none 0 0] 78 (0, 0)) (by (with_reducible repeat (first | refine blk_drewN ?_ _ | refine blk_drew ?_ | refine blk_alloc ?_ _)); exact BK216.out) hb)
    have n5_ := Aside0.mk (below_step (by repeat (first | (with_reducible first | exact HB.out | apply below_alloc | apply pw_below_drewN | apply below_drew1 | refine below_set ?_ GE215.out | refine below_set ?_ GE216.out) | exact HB.out)) hb)
    clear HO0_1
    clear HO219
    clear BK215
    clear BK216
    clear HB
    have HO0_1 := n0_
    have HO219 := n1_
    have HO222 := n2_
    have BK215 := n3_
    have BK216 := n4_
    have HB := n5_
    clear n0_ n1_ n2_ n3_ n4_ n5_
    (try clear hb)
    (try clear hb2)
    (try clear hk)
    (try clear hi)
    (try clear ho0)
    obtain ⟨Ao15, co15, eo15⟩ := Kd.V_slice HO222.out
    (first | subst eo15 | (injection eo15 with f1_ f2_ f3_; have f4_ := f1_.symm; have f5_ := f3_.symm; clear f1_ f2_ f3_; subst f4_; subst f5_))
    refine hK.out _ _ ⟨(blk_cell BK215.out 0).trans rfl, (blk_cell BK215.out 1).trans rfl, (blk_cell BK215.out 2).trans rfl⟩ (fun hHeld => ?_)
    clear hK K
    refine norm_ (a' := ?_) ?_ ?_
    rotate_left
    · show Act.put _ (some 15) _ = _
      simp only [Act.put, List.setIfInBounds_toArray, List.set_cons_zero, List.set_cons_succ, i64_w, i32_w]
      rfl
    refine one_ (i := 10) (N := some 16) #[true, true, true, true, true, true, true, true, true, true, true, false, false, false] rfl rfl (one_of HT_.out (by kernel_rfl)) (by decide) (fun K hK => ?_)
    refine goes_ Tryd.func22 (by kernel_rfl) rfl #[.bool a0_0, .slice Ao15 t220.length co15] (by rfl) rfl rfl (by (try simp only [List.map_toArray, List.map_cons, List.map_nil]); first | done | rfl | (simp only [List.length_drop, List.length_take]; rfl)) ?_
    with_reducible refine (spec_wholeOf.calls a0_0 (fun k_ => ((P0_1_ k_ ∨ w.heap.size ≤ k_) ∧ (some k_ ≠ (.slice Ao13 t217.length co13 : Value).ownBlock ∧ (k_ ≠ gb215 ∧ k_ ≠ gb216)))) _ _ t220 t223 t224 _ ?side1 A5.out).mono ?_
    (case side1 => exact HO222.out)
    rintro e w16 ⟨v225, rfl, ho0, hb⟩
    refine ⟨_, rfl, ?_⟩
    have n0_ := Aside0.mk (Kd.V_below (by (with_reducible repeat (first | apply Kd.V_alloc | apply Kd.V_drewN | apply Kd.V_drew)); exact HO0_1.out) hb)
    have n1_ := Aside0.mk (Kd.R_below (by (with_reducible repeat (first | apply Kd.R_alloc | apply Kd.R_drewN | apply Kd.R_drew)); exact HO219.out) hb)
    have n2_ := Aside0.mk (Kd.V_below (by (with_reducible repeat (first | apply Kd.V_alloc | apply Kd.V_drewN | apply Kd.V_drew)); exact HO222.out) hb)
    have n3_ := Aside0.mk (Kd.V_lower (Kd.V_mono (ok' := fun k_ => (P0_1_ k_ ∨ w.heap.size ≤ k_) ∧ some k_ ≠ (.slice Ao13 t217.length co13 : Value).ownBlock ∧ k_ ≠ gb215 ∧ k_ ≠ gb216) ho0 (fun k_ hk_ => ⟨Or.elim hk_ (fun hs_ => hs_.1) (fun hn_ => (.inr (Nat.le_trans (below_size (by repeat (first | (with_reducible first | exact HB.out | apply below_alloc | apply pw_below_drewN | apply below_drew1 | refine below_set ?_ GE215.out | refine below_set ?_ GE216.out) | exact HB.out))) hn_))), Or.elim hk_ (fun hs_ => hs_.2.1) (fun hn_ => (Kd.fresh' (Kd.R_lt (by (with_reducible repeat (first | apply Kd.R_alloc | apply Kd.R_drewN | apply Kd.R_drew)); exact HO219.out)) k_ hn_)), Or.elim hk_ (fun hs_ => hs_.2.2.1) (fun hn_ => (Kd.freshB (g := gb215) (o := .cells #[.bool a0_0, .slice A0_1 l0_1.length c0_1, .int .i64 a0_2] 30 (0, 0)) (by (with_reducible repeat (first | refine blk_drewN ?_ _ | refine blk_drew ?_ | refine blk_alloc ?_ _)); exact BK215.out) k_ hn_)), Or.elim hk_ (fun hs_ => hs_.2.2.2) (fun hn_ => (Kd.freshB (g := gb216) (o := .cells #[.bool false, .slice none 0 0, .slice none 0 0] 78 (0, 0)) (by (with_reducible repeat (first | refine blk_drewN ?_ _ | refine blk_drew ?_ | refine blk_alloc ?_ _)); exact BK216.out) k_ hn_))⟩)) (below_size (by repeat (first | (with_reducible first | exact HB.out | apply below_alloc | apply pw_below_drewN | apply below_drew1 | refine below_set ?_ GE215.out | refine below_set ?_ GE216.out) | exact HB.out))))
    have n4_ := Aside0.mk (blk_below (g := gb215) (o := .cells #[.bool a0_0, .slice A0_1 l0_1.length c0_1, .int .i64 a0_2] 30 (0, 0)) (by (with_reducible repeat (first | refine blk_drewN ?_ _ | refine blk_drew ?_ | refine blk_alloc ?_ _)); exact BK215.out) hb)
    have n5_ := Aside0.mk (blk_below (g := gb216) (o := .cells #[.bool false, .slice none 0 0, .slice none 0 0] 78 (0, 0)) (by (with_reducible repeat (first | refine blk_drewN ?_ _ | refine blk_drew ?_ | refine blk_alloc ?_ _)); exact BK216.out) hb)
    have n6_ := Aside0.mk (below_step (by repeat (first | (with_reducible first | exact HB.out | apply below_alloc | apply pw_below_drewN | apply below_drew1 | refine below_set ?_ GE215.out | refine below_set ?_ GE216.out) | exact HB.out)) hb)
    clear HO0_1
    clear HO219
    clear HO222
    clear BK215
    clear BK216
    clear HB
    have HO0_1 := n0_
    have HO219 := n1_
    have HO222 := n2_
    have HO226 := n3_
    have BK215 := n4_
    have BK216 := n5_
    have HB := n6_
    clear n0_ n1_ n2_ n3_ n4_ n5_ n6_
    (try clear hb)
    (try clear hb2)
    (try clear hk)
    (try clear hi)
    (try clear ho0)
    refine hK.out _ _ ⟨(blk_cell BK215.out 0).trans rfl, (blk_cell BK215.out 1).trans rfl, (blk_cell BK215.out 2).trans rfl⟩ (fun hHeld => ?_)
    clear hK K
    refine norm_ (a' := ?_) ?_ ?_
    rotate_left
    · show Act.put _ (some 16) _ = _
      simp only [Act.put, List.setIfInBounds_toArray, List.set_cons_zero, List.set_cons_succ, i64_w, i32_w]
      rfl
    refine one_ (i := 11) (N := some 17) #[true, true, true, true, true, true, true, true, true, true, true, true, false, false] rfl rfl (one_of HT_.out (by kernel_rfl)) (by decide) (fun K hK => ?_)
    refine goes_ Tryd.func47 (by kernel_rfl) rfl #[] (by rfl) rfl rfl (by (try simp only [List.map_toArray, List.map_cons, List.map_nil]); first | done | rfl | (simp only [List.length_drop, List.length_take]; rfl)) ?_
    with_reducible refine (spec_one.calls  t227 _ A6.out).mono ?_
    rintro e w17 ⟨v228, rfl, ho0, hb⟩
    refine ⟨_, rfl, ?_⟩
    have n0_ := Aside0.mk (Kd.V_elder' (by (with_reducible repeat (first | apply Kd.V_alloc | apply Kd.V_drewN | apply Kd.V_drew)); exact HO0_1.out) (Kd.R_base ho0) hb)
    have n1_ := Aside0.mk (Kd.R_elder' (by (with_reducible repeat (first | apply Kd.R_alloc | apply Kd.R_drewN | apply Kd.R_drew)); exact HO219.out) (Kd.R_base ho0) hb)
    have n2_ := Aside0.mk (Kd.V_elder' (by (with_reducible repeat (first | apply Kd.V_alloc | apply Kd.V_drewN | apply Kd.V_drew)); exact HO222.out) (Kd.R_base ho0) hb)
    have n3_ := Aside0.mk (Kd.V_elder' (by (with_reducible repeat (first | apply Kd.V_alloc | apply Kd.V_drewN | apply Kd.V_drew)); exact HO226.out) (Kd.R_base ho0) hb)
    have n4_ := Aside0.mk (Kd.R_lower (Kd.R_new' (Kd.R_newM (M := fun k_ => (w.heap.size ≤ k_)) ho0 (below_size (by repeat (first | (with_reducible first | exact HB.out | apply below_alloc | apply pw_below_drewN | apply below_drew1 | refine below_set ?_ GE215.out | refine below_set ?_ GE216.out) | exact HB.out))) (fun k_ h_ => h_)) (Kd.R_lt (by (with_reducible repeat (first | apply Kd.R_alloc | apply Kd.R_drewN | apply Kd.R_drew)); exact HO219.out))) (below_size (by repeat (first | (with_reducible first | exact HB.out | apply below_alloc | apply pw_below_drewN | apply below_drew1 | refine below_set ?_ GE215.out | refine below_set ?_ GE216.out) | exact HB.out))))
    have n5_ := Aside0.mk (blk_below (g := gb215) (o := .cells #[.bool a0_0, .slice A0_1 l0_1.length c0_1, .int .i64 a0_2] 30 (0, 0)) (by (with_reducible repeat (first | refine blk_drewN ?_ _ | refine blk_drew ?_ | refine blk_alloc ?_ _)); exact BK215.out) hb)
    have n6_ := Aside0.mk (blk_below (g := gb216) (o := .cells #[.bool false, .slice none 0 0, .slice none 0 0] 78 (0, 0)) (by (with_reducible repeat (first | refine blk_drewN ?_ _ | refine blk_drew ?_ | refine blk_alloc ?_ _)); exact BK216.out) hb)
    have n7_ := Aside0.mk (below_step (by repeat (first | (with_reducible first | exact HB.out | apply below_alloc | apply pw_below_drewN | apply below_drew1 | refine below_set ?_ GE215.out | refine below_set ?_ GE216.out) | exact HB.out)) hb)
    clear HO0_1
    clear HO219
    clear HO222
    clear HO226
    clear BK215
    clear BK216
    clear HB
    have HO0_1 := n0_
    have HO219 := n1_
    have HO222 := n2_
    have HO226 := n3_
    have HO229 := n4_
    have BK215 := n5_
    have BK216 := n6_
    have HB := n7_
    clear n0_ n1_ n2_ n3_ n4_ n5_ n6_ n7_
    (try clear hb)
    (try clear hb2)
    (try clear hk)
    (try clear hi)
    (try clear ho0)
    obtain ⟨Ao18, co18, eo18⟩ := Kd.R_slice HO229.out
    (first | subst eo18 | (injection eo18 with f1_ f2_ f3_; have f4_ := f1_.symm; have f5_ := f3_.symm; clear f1_ f2_ f3_; subst f4_; subst f5_))
    obtain ⟨Ao19, co19, eo19⟩ := Kd.V_slice HO226.out
    (first | subst eo19 | (injection eo19 with f1_ f2_ f3_; have f4_ := f1_.symm; have f5_ := f3_.symm; clear f1_ f2_ f3_; subst f4_; subst f5_))
    refine hK.out _ _ ⟨(blk_cell BK215.out 0).trans rfl, (blk_cell BK215.out 1).trans rfl, (blk_cell BK215.out 2).trans rfl⟩ (fun hHeld => ?_)
    clear hK K
    refine norm_ (a' := ?_) ?_ ?_
    rotate_left
    · show Act.put _ (some 17) _ = _
      simp only [Act.put, List.setIfInBounds_toArray, List.set_cons_zero, List.set_cons_succ, i64_w, i32_w]
      rfl
    refine pure_ (i := 12) (N := some 18) (v := ?_) (a' := ?_) #[true, true, true, true, true, true, true, true, true, true, true, true, true, false] rfl rfl (any_of HT_.out (by kernel_rfl)) (fun _ _ _ h => h) (Or.inl ⟨by rfl, ?_⟩) ?_ ?_
    rotate_left
    · intro w'
      go_simp
      with_reducible rfl
    rotate_left
    · simp only [Act.put, List.setIfInBounds_toArray, List.set_cons_zero, List.set_cons_succ, i64_w, i32_w]
      rfl
    refine one_ (i := 13) (N := none) #[true, true, true, true, true, true, true, true, true, true, true, true, true, true] rfl rfl (one_of HT_.out (by kernel_rfl)) (by decide) (fun K hK => ?_)
    have hs20 : w17.cell? ⟨gb216, 0, none⟩ = some (.bool false) := (blk_cell BK216.out 0).trans rfl
    have hfs20 := blk_frozen BK216.out 0
    have hns20_0 := NB215_216.out
    have hms20_0 := NB216_215.out
    have hs21 : w17.cell? ⟨gb216, 1, none⟩ = some (.slice none 0 0) := (blk_cell BK216.out 1).trans rfl
    have hfs21 := blk_frozen BK216.out 1
    have hns21_0 := NB215_216.out
    have hms21_0 := NB216_215.out
    have hs22 : w17.cell? ⟨gb216, 2, none⟩ = some (.slice none 0 0) := (blk_cell BK216.out 2).trans rfl
    have hfs22 := blk_frozen BK216.out 2
    have hns22_0 := NB215_216.out
    have hms22_0 := NB216_215.out
    refine skip_ (w1 := ?_) (by rfl) rfl ?_ ?_
    rotate_left
    · go_simp
      rfl
    refine hK.out _ _ ⟨((cell_far (p := ⟨gb216, _, none⟩) NB215_216.out _).trans (((cell_far (p := ⟨gb216, _, none⟩) NB215_216.out _).trans (((cell_far (p := ⟨gb216, _, none⟩) NB215_216.out _).trans (hHeld.1)))))), ((cell_far (p := ⟨gb216, _, none⟩) NB215_216.out _).trans (((cell_far (p := ⟨gb216, _, none⟩) NB215_216.out _).trans (((cell_far (p := ⟨gb216, _, none⟩) NB215_216.out _).trans (hHeld.2.1)))))), ((cell_far (p := ⟨gb216, _, none⟩) NB215_216.out _).trans (((cell_far (p := ⟨gb216, _, none⟩) NB215_216.out _).trans (((cell_far (p := ⟨gb216, _, none⟩) NB215_216.out _).trans (hHeld.2.2))))))⟩ (fun hHeld => ?_)
    clear hK K
    refine done_ (done_of HT_.out (by kernel_rfl)) ?_
    try go_wp2
    refine bodyPost_ret (results_cell_row rfl _ _ gb216 78 #[.bool t223, .slice Ao19 t224.length co19, .slice Ao18 t227.length co18] (0, 0) _ rfl (by (with_reducible repeat (first | refine blk_drewN ?_ _ | refine blk_drew ?_ | refine blk_alloc ?_ _)); refine blk_put (cs := #[.bool t223, .slice Ao19 t224.length co19, .slice none 0 0]) ?_ 2 _ rfl; (with_reducible repeat (first | refine blk_drewN ?_ _ | refine blk_drew ?_ | refine blk_alloc ?_ _)); refine blk_put (cs := #[.bool t223, .slice none 0 0, .slice none 0 0]) ?_ 1 _ rfl; (with_reducible repeat (first | refine blk_drewN ?_ _ | refine blk_drew ?_ | refine blk_alloc ?_ _)); refine blk_put (cs := #[.bool false, .slice none 0 0, .slice none 0 0]) ?_ 0 _ rfl; (with_reducible repeat (first | refine blk_drewN ?_ _ | refine blk_drew ?_ | refine blk_alloc ?_ _)); exact BK216.out) Tryd.underlying78 rfl (by kernel_rfl)) rfl ?_
    exact ⟨_, _, by first | rfl | (simp [errW_none, errW_some] <;> rfl) | (simp [*, errW_none, errW_some] <;> rfl), by (with_reducible repeat (first | apply Kd.V_alloc | apply Kd.V_drewN | apply Kd.V_drew)); exact Kd.V_mono (Kd.V_far (p := ⟨gb216, 2, none⟩) (Kd.V_far (p := ⟨gb216, 1, none⟩) (Kd.V_far (p := ⟨gb216, 0, none⟩) (Kd.V_mono HO226.out (fun k_ hk => (⟨hk, hk.1.2.2.2⟩ : _ ∧ k_ ≠ gb216))) (fun _ hk => hk.2) (.bool t223)) (fun _ hk => hk.2) (.slice Ao19 t224.length co19)) (fun _ hk => hk.2) (.slice Ao18 t227.length co18)) (fun _ hk => ⟨hk.1.1.1, hk.1.2⟩), by (with_reducible repeat (first | apply Kd.R_alloc | apply Kd.R_drewN | apply Kd.R_drew)); exact Kd.R_mono (Kd.R_far (p := ⟨gb216, 2, none⟩) (Kd.R_far (p := ⟨gb216, 1, none⟩) (Kd.R_far (p := ⟨gb216, 0, none⟩) (Kd.R_types HO229.out BK216.out (by decide)) (fun _ hk => hk.2) (.bool t223)) (fun _ hk => hk.2) (.slice Ao19 t224.length co19)) (fun _ hk => hk.2) (.slice Ao18 t227.length co18)) (fun _ hk => hk.1.1.1), by repeat (first | (with_reducible first | exact HB.out | apply below_alloc | apply pw_below_drewN | apply below_drew1 | refine below_set ?_ GE215.out | refine below_set ?_ GE216.out) | exact HB.out)⟩
  · rw [if_neg c2] at H
    have c2b0 : decide (0 ≤ a0_2) = false := decide_eq_false c2
    clear c2
    replace H := Option.bind_eq_some_iff.mp H
    obtain ⟨t230, A230, H⟩ := H
    replace H : (some (a0_0, l0_1, t230)) = some (r1, r2, r3) := H
    have A23 := Aside0.mk A230
    clear A230
    simp only [Option.some.injEq, Prod.mk.injEq] at H
    obtain ⟨rfl, rfl, rfl⟩ := H
    go_enter Tryd.func35, Tryd.ntmps35
    try go_wp2_with (first | ((with_reducible refine gate_dst (N := 1) rfl ?_); refine box_event ?hg (N := 1) ?hd (cs := #[.bool a0_0, .slice A0_1 l0_1.length c0_1, .int .i64 a0_2]) (t := 30) ?hr ?_; (case hd => rfl); (case hg => rfl); (case hr => first | (go_simp; done) | (go_simp; rfl)); intro gb215 hg w24 hbox hb; have n0_ := Aside0.mk (Kd.V_below (Kd.V_elderB (by (with_reducible repeat (first | apply Kd.V_alloc | apply Kd.V_drewN | apply Kd.V_drew)); exact HO0_1.out) gb215 (Nat.le_of_eq hg.symm)) hb); have n1_ := Aside0.mk (below_step (by repeat (first | (with_reducible first | exact HB.out | apply below_alloc | apply pw_below_drewN | apply below_drew1) | exact HB.out)) hb); have n2_ := Aside0.mk (hbox); have n3_ := Aside0.mk ((by rw [hg]; exact (below_size (by repeat (first | (with_reducible first | exact HB.out | apply below_alloc | apply pw_below_drewN | apply below_drew1) | exact HB.out))) : w.heap.size ≤ gb215)); have n4_ := Aside0.mk ((by rw [hg]; exact (below_size (by repeat (first | (with_reducible first | exact HB.out | apply below_alloc | apply pw_below_drewN | apply below_drew1) | exact HB.out))) : w.heap.size ≤ gb215)); clear HO0_1; clear HB; have HO0_1 := n0_; have HB := n1_; have BK215 := n2_; have GW215 := n3_; have GE215 := n4_; clear n0_ n1_ n2_ n3_ n4_; clear hb hbox hg) | ((with_reducible refine gate_dst (N := 2) rfl ?_); refine box_event ?hg (N := 2) ?hd (cs := #[.bool false, .slice none 0 0, .slice none 0 0]) (t := 78) ?hr ?_; (case hd => rfl); (case hg => rfl); (case hr => first | (go_simp; done) | (go_simp; rfl)); intro gb216 hg w25 hbox hb; have n0_ := Aside0.mk (Kd.V_below (Kd.V_elderB (by (with_reducible repeat (first | apply Kd.V_alloc | apply Kd.V_drewN | apply Kd.V_drew)); exact HO0_1.out) gb216 (Nat.le_of_eq hg.symm)) hb); have n1_ := Aside0.mk (blk_below (g := gb215) (o := .cells #[.bool a0_0, .slice A0_1 l0_1.length c0_1, .int .i64 a0_2] 30 (0, 0)) (by (with_reducible repeat (first | refine blk_drewN ?_ _ | refine blk_drew ?_ | refine blk_alloc ?_ _)); exact BK215.out) hb); have n2_ := Aside0.mk (below_step (by repeat (first | (with_reducible first | exact HB.out | apply below_alloc | apply pw_below_drewN | apply below_drew1 | refine below_set ?_ GE215.out) | exact HB.out)) hb); have n3_ := Aside0.mk (hbox); have n4_ := Aside0.mk ((by rw [hg]; exact (below_size (by repeat (first | (with_reducible first | exact HB.out | apply below_alloc | apply pw_below_drewN | apply below_drew1 | refine below_set ?_ GE215.out) | exact HB.out))) : w.heap.size ≤ gb216)); have n5_ := Aside0.mk ((by rw [hg]; exact (below_size (by repeat (first | (with_reducible first | exact HB.out | apply below_alloc | apply pw_below_drewN | apply below_drew1 | refine below_set ?_ GE215.out) | exact HB.out))) : w.heap.size ≤ gb216)); have n6_ := Aside0.mk ((by rw [hg]; exact Nat.ne_of_lt (blk_lt (g := gb215) (o := .cells #[.bool a0_0, .slice A0_1 l0_1.length c0_1, .int .i64 a0_2] 30 (0, 0)) (by (with_reducible repeat (first | refine blk_drewN ?_ _ | refine blk_drew ?_ | refine blk_alloc ?_ _)); exact BK215.out)) : gb215 ≠ gb216)); have n7_ := Aside0.mk ((by rw [hg]; exact Nat.ne_of_gt (blk_lt (g := gb215) (o := .cells #[.bool a0_0, .slice A0_1 l0_1.length c0_1, .int .i64 a0_2] 30 (0, 0)) (by (with_reducible repeat (first | refine blk_drewN ?_ _ | refine blk_drew ?_ | refine blk_alloc ?_ _)); exact BK215.out)) : gb216 ≠ gb215)); clear HO0_1; clear BK215; clear HB; have HO0_1 := n0_; have BK215 := n1_; have HB := n2_; have BK216 := n3_; have GW216 := n4_; have GE216 := n5_; have NB215_216 := n6_; have NB216_215 := n7_; clear n0_ n1_ n2_ n3_ n4_ n5_ n6_ n7_; clear hb hbox hg; have hnb26 := NB215_216.out; have hnc26 := NB216_215.out; have hcz27_0 : w25.cell? ⟨gb215, 0, none⟩ = some (.bool a0_0) := (blk_cell BK215.out 0).trans rfl; have hcz27_1 : w25.cell? ⟨gb215, 1, none⟩ = some (.slice A0_1 l0_1.length c0_1) := (blk_cell BK215.out 1).trans rfl; have hcz27_2 : w25.cell? ⟨gb215, 2, none⟩ = some (.int .i64 a0_2) := (blk_cell BK215.out 2).trans rfl; have hfz27_0 := blk_frozen BK215.out 0; have hfz27_1 := blk_frozen BK215.out 1; have hfz27_2 := blk_frozen BK215.out 2))
    have n0_ := Aside0.mk (Kd.V_drew HO0_1.out)
    have n1_ := Aside0.mk (blk_drew BK215.out)
    have n2_ := Aside0.mk (blk_drew BK216.out)
    have n3_ := Aside0.mk (below_drew1 HB.out)
    clear HO0_1
    clear BK215
    clear BK216
    clear HB
    have HO0_1 := n0_
    have BK215 := n1_
    have BK216 := n2_
    have HB := n3_
    clear n0_ n1_ n2_ n3_
    refine start_ (n := 8) (S := fun w' => w'.cell? ⟨gb215, 0, none⟩ = some (.bool a0_0) ∧ w'.cell? ⟨gb215, 1, none⟩ = some (.slice A0_1 l0_1.length c0_1) ∧ w'.cell? ⟨gb215, 2, none⟩ = some (.int .i64 a0_2)) (ds := []) #[false, false, false, false, false, false, false, false] (by kernel_rfl) rfl rfl ⟨(blk_cell BK215.out 0).trans rfl, (blk_cell BK215.out 1).trans rfl, (blk_cell BK215.out 2).trans rfl⟩ (fun hHeld => ?_); refine with_tabW spec_Dec_Frac.tab3 spec_Dec_Frac.bits3 (fun HT_ HW_ => ?_)
    generalize w25.drew = w28 at HO0_1 BK215 BK216 HB hHeld ⊢
    refine pure_ (i := 0) (N := some 19) (v := ?_) (a' := ?_) #[true, false, false, false, false, false, false, false] rfl rfl (any_of HT_.out (by kernel_rfl)) (fun _ _ _ h => h) (Or.inl ⟨by rfl, ?_⟩) ?_ ?_
    rotate_left
    · intro w'
      go_simp
      with_reducible rfl
    rotate_left
    · simp only [Act.put, List.setIfInBounds_toArray, List.set_cons_zero, List.set_cons_succ, i64_w, i32_w]
      rfl
    refine pure_ (i := 2) (N := some 21) (v := ?_) (a' := ?_) #[true, false, true, false, false, false, false, false] rfl rfl (any_of HT_.out (by kernel_rfl)) (fun _ _ _ h => h) (Or.inl ⟨by rfl, ?_⟩) ?_ ?_
    rotate_left
    · intro w'
      go_simp
      with_reducible rfl
    rotate_left
    · simp only [Act.put, List.setIfInBounds_toArray, List.set_cons_zero, List.set_cons_succ, i64_w, i32_w]
      rfl
    refine take_ (i := 1) (N := some 20) (v := ?_) (a' := ?_) #[true, true, true, false, false, false, false, false] rfl rfl (take_ofW HT_.out HW_.out (by kernel_rfl)) (fun _ _ _ h => h) (Or.inl ⟨by rfl, ?_⟩) hHeld ?_ ?_
    rotate_left
    · rintro w' ⟨s0, s1, s2⟩
      go_simp
      with_reducible rfl
    rotate_left
    · simp only [Act.put, List.setIfInBounds_toArray, List.set_cons_zero, List.set_cons_succ, i64_w, i32_w]
      rfl
    refine take_ (i := 3) (N := some 22) (v := ?_) (a' := ?_) #[true, true, true, true, false, false, false, false] rfl rfl (take_ofW HT_.out HW_.out (by kernel_rfl)) (fun _ _ _ h => h) (Or.inl ⟨by rfl, ?_⟩) hHeld ?_ ?_
    rotate_left
    · rintro w' ⟨s0, s1, s2⟩
      go_simp
      with_reducible rfl
    rotate_left
    · simp only [Act.put, List.setIfInBounds_toArray, List.set_cons_zero, List.set_cons_succ, i64_w, i32_w]
      rfl
    refine pure_ (i := 4) (N := some 23) (v := ?_) (a' := ?_) #[true, true, true, true, true, false, false, false] rfl rfl (any_of HT_.out (by kernel_rfl)) (fun _ _ _ h => h) (Or.inl ⟨by rfl, ?_⟩) ?_ ?_
    rotate_left
    · intro w'
      go_simp
      with_reducible rfl
    rotate_left
    · simp only [Act.put, List.setIfInBounds_toArray, List.set_cons_zero, List.set_cons_succ, i64_w, i32_w]
      rfl
    refine one_ (i := 5) (N := some 24) #[true, true, true, true, true, true, false, false] rfl rfl (one_of HT_.out (by kernel_rfl)) (by decide) (fun K hK => ?_)
    refine goes_ Tryd.func46 (by kernel_rfl) rfl #[.int .i64 (wrap64 (-a0_2))] (by rfl) rfl rfl (by (try simp only [List.map_toArray, List.map_cons, List.map_nil]); first | done | rfl | (simp only [List.length_drop, List.length_take]; rfl)) ?_
    with_reducible refine (spec_Pow10.calls k (wrap64 (-a0_2)) t230 _ A23.out).mono ?_
    rintro e w29 ⟨v231, rfl, ho0, hb⟩
    refine ⟨_, rfl, ?_⟩
    have n0_ := Aside0.mk (Kd.V_elder' (by (with_reducible repeat (first | apply Kd.V_alloc | apply Kd.V_drewN | apply Kd.V_drew)); exact HO0_1.out) (Kd.R_base ho0) hb)
    have n1_ := Aside0.mk (Kd.R_lower (Kd.R_newM (M := fun k_ => (w.heap.size ≤ k_)) ho0 (below_size (by repeat (first | (with_reducible first | exact HB.out | apply below_alloc | apply pw_below_drewN | apply below_drew1 | refine below_set ?_ GE215.out | refine below_set ?_ GE216.out) | exact HB.out))) (fun k_ h_ => h_)) (below_size (by repeat (first | (with_reducible first | exact HB.out | apply below_alloc | apply pw_below_drewN | apply below_drew1 | refine below_set ?_ GE215.out | refine below_set ?_ GE216.out) | exact HB.out))))
    have n2_ := Aside0.mk (blk_below (g := gb215) (o := .cells #[.bool a0_0, .slice A0_1 l0_1.length c0_1, .int .i64 a0_2] 30 (0, 0)) (by (with_reducible repeat (first | refine blk_drewN ?_ _ | refine blk_drew ?_ | refine blk_alloc ?_ _)); exact BK215.out) hb)
    have n3_ := Aside0.mk (blk_below (g := gb216) (o := .cells #[.bool false, .slice none 0 0, .slice none 0 0] 78 (0, 0)) (by (with_reducible repeat (first | refine blk_drewN ?_ _ | refine blk_drew ?_ | refine blk_alloc ?_ _)); exact BK216.out) hb)
    have n4_ := Aside0.mk (below_step (by repeat (first | (with_reducible first | exact HB.out | apply below_alloc | apply pw_below_drewN | apply below_drew1 | refine below_set ?_ GE215.out | refine below_set ?_ GE216.out) | exact HB.out)) hb)
    clear HO0_1
    clear BK215
    clear BK216
    clear HB
    have HO0_1 := n0_
    have HO232 := n1_
    have BK215 := n2_
    have BK216 := n3_
    have HB := n4_
    clear n0_ n1_ n2_ n3_ n4_
    (try clear hb)
    (try clear hb2)
    (try clear hk)
    (try clear hi)
    (try clear ho0)
    obtain ⟨Ao30, co30, eo30⟩ := Kd.R_slice HO232.out
    (first | subst eo30 | (injection eo30 with f1_ f2_ f3_; have f4_ := f1_.symm; have f5_ := f3_.symm; clear f1_ f2_ f3_; subst f4_; subst f5_))
    refine hK.out _ _ ⟨(blk_cell BK215.out 0).trans rfl, (blk_cell BK215.out 1).trans rfl, (blk_cell BK215.out 2).trans rfl⟩ (fun hHeld => ?_)
    clear hK K
    refine norm_ (a' := ?_) ?_ ?_
    rotate_left
    · show Act.put _ (some 24) _ = _
      simp only [Act.put, List.setIfInBounds_toArray, List.set_cons_zero, List.set_cons_succ, i64_w, i32_w]
      rfl
    refine pure_ (i := 6) (N := some 25) (v := ?_) (a' := ?_) #[true, true, true, true, true, true, true, false] rfl rfl (any_of HT_.out (by kernel_rfl)) (fun _ _ _ h => h) (Or.inl ⟨by rfl, ?_⟩) ?_ ?_
    rotate_left
    · intro w'
      go_simp
      with_reducible rfl
    rotate_left
    · simp only [Act.put, List.setIfInBounds_toArray, List.set_cons_zero, List.set_cons_succ, i64_w, i32_w]
      rfl
    refine one_ (i := 7) (N := none) #[true, true, true, true, true, true, true, true] rfl rfl (one_of HT_.out (by kernel_rfl)) (by decide) (fun K hK => ?_)
    have hs31 : w29.cell? ⟨gb216, 0, none⟩ = some (.bool false) := (blk_cell BK216.out 0).trans rfl
    have hfs31 := blk_frozen BK216.out 0
    have hns31_0 := NB215_216.out
    have hms31_0 := NB216_215.out
    have hs32 : w29.cell? ⟨gb216, 1, none⟩ = some (.slice none 0 0) := (blk_cell BK216.out 1).trans rfl
    have hfs32 := blk_frozen BK216.out 1
    have hns32_0 := NB215_216.out
    have hms32_0 := NB216_215.out
    have hs33 : w29.cell? ⟨gb216, 2, none⟩ = some (.slice none 0 0) := (blk_cell BK216.out 2).trans rfl
    have hfs33 := blk_frozen BK216.out 2
    have hns33_0 := NB215_216.out
    have hms33_0 := NB216_215.out
    refine skip_ (w1 := ?_) (by rfl) rfl ?_ ?_
    rotate_left
    · go_simp
      rfl
    refine hK.out _ _ ⟨((cell_far (p := ⟨gb216, _, none⟩) NB215_216.out _).trans (((cell_far (p := ⟨gb216, _, none⟩) NB215_216.out _).trans (((cell_far (p := ⟨gb216, _, none⟩) NB215_216.out _).trans (hHeld.1)))))), ((cell_far (p := ⟨gb216, _, none⟩) NB215_216.out _).trans (((cell_far (p := ⟨gb216, _, none⟩) NB215_216.out _).trans (((cell_far (p := ⟨gb216, _, none⟩) NB215_216.out _).trans (hHeld.2.1)))))), ((cell_far (p := ⟨gb216, _, none⟩) NB215_216.out _).trans (((cell_far (p := ⟨gb216, _, none⟩) NB215_216.out _).trans (((cell_far (p := ⟨gb216, _, none⟩) NB215_216.out _).trans (hHeld.2.2))))))⟩ (fun hHeld => ?_)
    clear hK K
    refine done_ (done_of HT_.out (by kernel_rfl)) ?_
    try go_wp2
    refine bodyPost_ret (results_cell_row rfl _ _ gb216 78 #[.bool a0_0, .slice A0_1 l0_1.length c0_1, .slice Ao30 t230.length co30] (0, 0) _ rfl (by (with_reducible repeat (first | refine blk_drewN ?_ _ | refine blk_drew ?_ | refine blk_alloc ?_ _)); refine blk_put (cs := #[.bool a0_0, .slice A0_1 l0_1.length c0_1, .slice none 0 0]) ?_ 2 _ rfl; (with_reducible repeat (first | refine blk_drewN ?_ _ | refine blk_drew ?_ | refine blk_alloc ?_ _)); refine blk_put (cs := #[.bool a0_0, .slice none 0 0, .slice none 0 0]) ?_ 1 _ rfl; (with_reducible repeat (first | refine blk_drewN ?_ _ | refine blk_drew ?_ | refine blk_alloc ?_ _)); refine blk_put (cs := #[.bool false, .slice none 0 0, .slice none 0 0]) ?_ 0 _ rfl; (with_reducible repeat (first | refine blk_drewN ?_ _ | refine blk_drew ?_ | refine blk_alloc ?_ _)); exact BK216.out) Tryd.underlying78 rfl (by kernel_rfl)) rfl ?_
    exact ⟨_, _, by first | rfl | (simp [errW_none, errW_some] <;> rfl) | (simp [*, errW_none, errW_some] <;> rfl), by (with_reducible repeat (first | apply Kd.V_alloc | apply Kd.V_drewN | apply Kd.V_drew)); exact Kd.V_mono (Kd.V_far (p := ⟨gb216, 2, none⟩) (Kd.V_far (p := ⟨gb216, 1, none⟩) (Kd.V_far (p := ⟨gb216, 0, none⟩) (Kd.V_mono HO0_1.out (fun k_ hk => (⟨hk, hk.1.2⟩ : _ ∧ k_ ≠ gb216))) (fun _ hk => hk.2) (.bool a0_0)) (fun _ hk => hk.2) (.slice A0_1 l0_1.length c0_1)) (fun _ hk => hk.2) (.slice Ao30 t230.length co30)) (fun _ hk => ⟨hk.1.1.1.1, hk.1.2⟩), by (with_reducible repeat (first | apply Kd.R_alloc | apply Kd.R_drewN | apply Kd.R_drew)); exact Kd.R_mono (Kd.R_far (p := ⟨gb216, 2, none⟩) (Kd.R_far (p := ⟨gb216, 1, none⟩) (Kd.R_far (p := ⟨gb216, 0, none⟩) (Kd.R_types HO232.out BK216.out (by decide)) (fun _ hk => hk.2) (.bool a0_0)) (fun _ hk => hk.2) (.slice A0_1 l0_1.length c0_1)) (fun _ hk => hk.2) (.slice Ao30 t230.length co30)) (fun _ hk => hk.1.1), by repeat (first | (with_reducible first | exact HB.out | apply below_alloc | apply pw_below_drewN | apply below_drew1 | refine below_set ?_ GE215.out | refine below_set ?_ GE216.out) | exact HB.out)⟩


end Go.Proofs.YtghabdpbacgicaaDoor.S
