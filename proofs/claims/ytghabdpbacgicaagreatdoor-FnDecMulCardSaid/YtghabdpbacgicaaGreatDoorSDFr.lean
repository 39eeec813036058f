/- CONTRACTS of spec_Dec_Frac: each as the plain function beside it. (Began as print.sh's text for this seat; the turns are those of wip/tools/split.py.) -/
import Derived.Test.YtghabdpbacgicaaGreatDoorSMul
import Derived.Test.YtghabdpbacgicaaGreatDoorSWOf
import Derived.Test.YtghabdpbacgicaaGreatDoorSPow
namespace Go.Proofs.YtghabdpbacgicaaGreatDoor.S
open Go.RowKit Go.Proofs.YtghabdpbacgicaaGreatDoorW.PrintWords Go.Proofs.YtghabdpbacgicaaGreatDoorW.PrintLast Go.Proofs.YtghabdpbacgicaaGreatDoorW.PrintMore
attribute [local go_sem] max2_int min2_int max_two min_two max_three min_three max_four min_four   -- for this text's walks alone
set_option linter.unusedVariables false
set_option linter.unusedSimpArgs false

/-! ### spec_Dec_Frac: function 17 -/
def spec_Dec_Frac.f (k : Nat) (a0_0 : Bool) (l0_1 : List Int) (a0_2 : Int) : Option (Bool × List Int × List Int) := if a0_2 ≥ 0 then ((spec_Pow10.f k a0_2).bind fun t174 => ((spec_NatMul.f k l0_1 t174).bind fun t177 => ((spec_wholeOf.f a0_0 t177).bind fun bt180 => ((spec_one.f).bind fun t184 => (some (bt180.1, bt180.2, t184)))))) else ((spec_Pow10.f k (wrap64 (-a0_2))).bind fun t187 => (some (a0_0, l0_1, t187)))
theorem spec_Dec_Frac.mono : ∀ a0 a1 a2 k, LeO (spec_Dec_Frac.f k a0 a1 a2) (spec_Dec_Frac.f (k + 1) a0 a1 a2) := by
  intro a0 a1 a2 k
  unfold spec_Dec_Frac.f
  repeat' first
      | (with_reducible exact spec_NatMul.mono _ _ _)
      | (with_reducible exact spec_Pow10.mono _ _)
      | (with_reducible exact LeO.refl _)
      | (with_reducible exact LeO.none _)
      | (with_reducible refine LeO.ite ?_ ?_)
      | (with_reducible refine LeO.bind ?_ (fun _ => ?_))
      | exact spec_NatMul.mono _ _ _
      | exact spec_Pow10.mono _ _
      | exact LeO.none _
      | refine LeO.ite ?_ ?_
      | refine LeO.bind ?_ (fun _ => ?_)
def spec_Dec_Frac.T2 : Bool × List (List Nat × List Nat) := (true, [([], []), ([0], [0]), ([1], [1]), ([], []), ([3], [3]), ([4], [4]), ([], []), ([6], [6]), ([7], [7]), ([5, 8, 8], [5, 8]), ([2, 9, 9], [2, 9]), ([10], []), ([10, 11], [10, 11]), ([12, 11, 0, 1, 2, 3, 4, 5, 6, 7, 8, 9, 10, 11, 12], [12])])
def spec_Dec_Frac.B2 : List Nat := [0, 1, 3, 0, 8, 24, 0, 64, 192, 504, 1023, 2047, 4095, 8191]
theorem spec_Dec_Frac.tab2 : rtab .any (opsOf Tryz.f17 2) = spec_Dec_Frac.T2 := by kernel_rfl
theorem spec_Dec_Frac.bits2 : waitsOk spec_Dec_Frac.T2.2 spec_Dec_Frac.B2 = true := by kernel_rfl
def spec_Dec_Frac.T3 : Bool × List (List Nat × List Nat) := (true, [([], []), ([0], [0]), ([], []), ([2], [2]), ([3], [3]), ([4], [4]), ([1, 5], [1, 5]), ([6, 5, 0, 1, 2, 3, 4, 5, 6], [6])])
def spec_Dec_Frac.B3 : List Nat := [0, 1, 0, 4, 12, 28, 63, 127]
theorem spec_Dec_Frac.tab3 : rtab .any (opsOf Tryz.f17 3) = spec_Dec_Frac.T3 := by kernel_rfl
theorem spec_Dec_Frac.bits3 : waitsOk spec_Dec_Frac.T3.2 spec_Dec_Frac.B3 = true := by kernel_rfl
set_option maxHeartbeats 8000000 in
set_option maxRecDepth 100000 in
theorem spec_Dec_Frac.calls (k : Nat) (a0_0 : Bool) (P0_1_ : Nat → Prop) (A0_1 : Option Addr) (c0_1 : Nat) (l0_1 : List Int) (a0_2 : Int) (r1 : Bool) (r2 : List Int) (r3 : List Int) (w : World) (hs0_1 : Kd.V (Kd.int .u32) 76 w w.heap.size (fun k_ => P0_1_ k_) (.slice A0_1 l0_1.length c0_1) l0_1) (h : spec_Dec_Frac.f k a0_0 l0_1 a0_2 = some (r1, r2, r3)) :
    Calls Tryz.prog 17 #[.agg #[.bool a0_0, .slice A0_1 l0_1.length c0_1, .int .i64 a0_2]] w fun e w' => ∃ v1_ v2_ : Value, e = .returned (.agg #[.bool r1, v1_, v2_]) ∧ Kd.V (Kd.int .u32) 76 w' w.heap.size (fun k_ => (P0_1_ k_ ∨ w.heap.size ≤ k_) ∧ some k_ ≠ (v2_ : Value).ownBlock) v1_ r2 ∧ Kd.R (Kd.int .u32) 76 w' w.heap.size (fun k_ => (w.heap.size ≤ k_)) v2_ r3 ∧ Below w.heap.size w w' := by
  have hu48 := Tryz.underlying48
  have hu30 := Tryz.underlying30
  have hu28 := Tryz.underlying28
  have HO0_1 := Aside0.mk (show Kd.V (Kd.int .u32) 76 w w.heap.size (fun k_ => (P0_1_ k_ ∨ w.heap.size ≤ k_)) (.slice A0_1 l0_1.length c0_1) l0_1 from Kd.V_mono hs0_1 (fun k_ hk => .inl hk))
  have HB := Aside0.mk (Below.refl w.heap.size w)
  have H : (if a0_2 ≥ 0 then ((spec_Pow10.f k a0_2).bind fun t174 => ((spec_NatMul.f k l0_1 t174).bind fun t177 => ((spec_wholeOf.f a0_0 t177).bind fun bt180 => ((spec_one.f).bind fun t184 => (some (bt180.1, bt180.2, t184)))))) else ((spec_Pow10.f k (wrap64 (-a0_2))).bind fun t187 => (some (a0_0, l0_1, t187)))) = some (r1, r2, r3) := h
  clear h
  by_cases c2 : a0_2 ≥ 0
  · rw [if_pos c2] at H
    have c2b0 : decide (0 ≤ a0_2) = true := decide_eq_true c2
    clear c2
    replace H := Option.bind_eq_some_iff.mp H
    obtain ⟨t174, A30, H⟩ := H
    replace H : ((spec_NatMul.f k l0_1 t174).bind fun t177 => ((spec_wholeOf.f a0_0 t177).bind fun bt180 => ((spec_one.f).bind fun t184 => (some (bt180.1, bt180.2, t184))))) = some (r1, r2, r3) := H
    have A3 := Aside0.mk A30
    clear A30
    replace H := Option.bind_eq_some_iff.mp H
    obtain ⟨t177, A40, H⟩ := H
    replace H : ((spec_wholeOf.f a0_0 t177).bind fun bt180 => ((spec_one.f).bind fun t184 => (some (bt180.1, bt180.2, t184)))) = some (r1, r2, r3) := H
    have A4 := Aside0.mk A40
    clear A40
    replace H := Option.bind_eq_some_iff.mp H
    obtain ⟨⟨t180, t181⟩, A50, H⟩ := H
    replace H : ((spec_one.f).bind fun t184 => (some (t180, t181, t184))) = some (r1, r2, r3) := H
    have A5 := Aside0.mk A50
    clear A50
    replace H := Option.bind_eq_some_iff.mp H
    obtain ⟨t184, A60, H⟩ := H
    replace H : (some (t180, t181, t184)) = some (r1, r2, r3) := H
    have A6 := Aside0.mk A60
    clear A60
    simp only [Option.some.injEq, Prod.mk.injEq] at H
    obtain ⟨rfl, rfl, rfl⟩ := H
    go_enter Tryz.func17, Tryz.ntmps17
    try go_wp2_with (first | ((with_reducible refine gate_dst (N := 1) rfl ?_); refine box_event ?hg (N := 1) ?hd (cs := #[.bool a0_0, .slice A0_1 l0_1.length c0_1, .int .i64 a0_2]) (t := 48) ?hr ?_; (case hd => rfl); (case hg => rfl); (case hr => first | (go_simp; done) | (go_simp; rfl)); intro gb172 hg w7 hbox hb; have n0_ := Aside0.mk (Kd.V_below (Kd.V_elderB (by (with_reducible repeat (first | apply Kd.V_alloc | apply Kd.V_drewN | apply Kd.V_drew)); exact HO0_1.out) gb172 (Nat.le_of_eq hg.symm)) hb); have n1_ := Aside0.mk (below_step (by repeat (first | (with_reducible first | exact HB.out | apply below_alloc | apply pw_below_drewN | apply below_drew1) | exact HB.out)) hb); have n2_ := Aside0.mk (hbox); have n3_ := Aside0.mk ((by rw [hg]; exact (below_size (by repeat (first | (with_reducible first | exact HB.out | apply below_alloc | apply pw_below_drewN | apply below_drew1) | exact HB.out))) : w.heap.size ≤ gb172)); have n4_ := Aside0.mk ((by rw [hg]; exact (below_size (by repeat (first | (with_reducible first | exact HB.out | apply below_alloc | apply pw_below_drewN | apply below_drew1) | exact HB.out))) : w.heap.size ≤ gb172)); clear HO0_1; clear HB; have HO0_1 := n0_; have HB := n1_; have BK172 := n2_; have GW172 := n3_; have GE172 := n4_; clear n0_ n1_ n2_ n3_ n4_; clear hb hbox hg) | ((with_reducible refine gate_dst (N := 2) rfl ?_); refine box_event ?hg (N := 2) ?hd (cs := #[.bool false, .slice none 0 0, .slice none 0 0]) (t := 30) ?hr ?_; (case hd => rfl); (case hg => rfl); (case hr => first | (go_simp; done) | (go_simp; rfl)); intro gb173 hg w8 hbox hb; have n0_ := Aside0.mk (Kd.V_below (Kd.V_elderB (by (with_reducible repeat (first | apply Kd.V_alloc | apply Kd.V_drewN | apply Kd.V_drew)); exact HO0_1.out) gb173 (Nat.le_of_eq hg.symm)) hb); have n1_ := Aside0.mk (blk_below (g := gb172) (o := .cells #[.bool a0_0, .slice A0_1 l0_1.length c0_1, .int .i64 a0_2] 48 (0, 0)) (by (with_reducible repeat (first | refine blk_drewN ?_ _ | refine blk_drew ?_ | refine blk_alloc ?_ _)); exact BK172.out) hb); have n2_ := Aside0.mk (below_step (by repeat (first | (with_reducible first | exact HB.out | apply below_alloc | apply pw_below_drewN | apply below_drew1 | refine below_set ?_ GE172.out) | exact HB.out)) hb); have n3_ := Aside0.mk (hbox); have n4_ := Aside0.mk ((by rw [hg]; exact (below_size (by repeat (first | (with_reducible first | exact HB.out | apply below_alloc | apply pw_below_drewN | apply below_drew1 | refine below_set ?_ GE172.out) | exact HB.out))) : w.heap.size ≤ gb173)); have n5_ := Aside0.mk ((by rw [hg]; exact (below_size (by repeat (first | (with_reducible first | exact HB.out | apply below_alloc | apply pw_below_drewN | apply below_drew1 | refine below_set ?_ GE172.out) | exact HB.out))) : w.heap.size ≤ gb173)); have n6_ := Aside0.mk ((by rw [hg]; exact Nat.ne_of_lt (blk_lt (g := gb172) (o := .cells #[.bool a0_0, .slice A0_1 l0_1.length c0_1, .int .i64 a0_2] 48 (0, 0)) (by (with_reducible repeat (first | refine blk_drewN ?_ _ | refine blk_drew ?_ | refine blk_alloc ?_ _)); exact BK172.out)) : gb172 ≠ gb173)); have n7_ := Aside0.mk ((by rw [hg]; exact Nat.ne_of_gt (blk_lt (g := gb172) (o := .cells #[.bool a0_0, .slice A0_1 l0_1.length c0_1, .int .i64 a0_2] 48 (0, 0)) (by (with_reducible repeat (first | refine blk_drewN ?_ _ | refine blk_drew ?_ | refine blk_alloc ?_ _)); exact BK172.out)) : gb173 ≠ gb172)); clear HO0_1; clear BK172; clear HB; have HO0_1 := n0_; have BK172 := n1_; have HB := n2_; have BK173 := n3_; have GW173 := n4_; have GE173 := n5_; have NB172_173 := n6_; have NB173_172 := n7_; clear n0_ n1_ n2_ n3_ n4_ n5_ n6_ n7_; clear hb hbox hg; have hnb9 := NB172_173.out; have hnc9 := NB173_172.out; have hcz10_0 : w8.cell? ⟨gb172, 0, none⟩ = some (.bool a0_0) := (blk_cell BK172.out 0).trans rfl; have hcz10_1 : w8.cell? ⟨gb172, 1, none⟩ = some (.slice A0_1 l0_1.length c0_1) := (blk_cell BK172.out 1).trans rfl; have hcz10_2 : w8.cell? ⟨gb172, 2, none⟩ = some (.int .i64 a0_2) := (blk_cell BK172.out 2).trans rfl; have hfz10_0 := blk_frozen BK172.out 0; have hfz10_1 := blk_frozen BK172.out 1; have hfz10_2 := blk_frozen BK172.out 2))
    have n0_ := Aside0.mk (Kd.V_drew HO0_1.out)
    have n1_ := Aside0.mk (blk_drew BK172.out)
    have n2_ := Aside0.mk (blk_drew BK173.out)
    have n3_ := Aside0.mk (below_drew1 HB.out)
    clear HO0_1
    clear BK172
    clear BK173
    clear HB
    have HO0_1 := n0_
    have BK172 := n1_
    have BK173 := n2_
    have HB := n3_
    clear n0_ n1_ n2_ n3_
    refine start_ (n := 14) (S := fun w' => w'.cell? ⟨gb172, 0, none⟩ = some (.bool a0_0) ∧ w'.cell? ⟨gb172, 1, none⟩ = some (.slice A0_1 l0_1.length c0_1) ∧ w'.cell? ⟨gb172, 2, none⟩ = some (.int .i64 a0_2)) (ds := []) #[false, false, false, false, false, false, false, false, false, false, false, false, false, false] (by kernel_rfl) rfl rfl ⟨(blk_cell BK172.out 0).trans rfl, (blk_cell BK172.out 1).trans rfl, (blk_cell BK172.out 2).trans rfl⟩ (fun hHeld => ?_); refine with_tabW spec_Dec_Frac.tab2 spec_Dec_Frac.bits2 (fun HT_ HW_ => ?_)
    generalize w8.drew = w11 at HO0_1 BK172 BK173 HB hHeld ⊢
    refine pure_ (i := 0) (N := some 6) (v := ?_) (a' := ?_) #[true, false, false, false, false, false, false, false, false, false, false, false, false, false] rfl rfl (any_of HT_.out (by kernel_rfl)) (fun _ _ _ h => h) (Or.inl ⟨by rfl, ?_⟩) ?_ ?_
    rotate_left
    · intro w'
      go_simp
      with_reducible rfl
    rotate_left
    · simp only [Act.put, List.setIfInBounds_toArray, List.set_cons_zero, List.set_cons_succ, i64_w, i32_w]
      rfl
    refine pure_ (i := 1) (N := some 7) (v := ?_) (a' := ?_) #[true, true, false, false, false, false, false, false, false, false, false, false, false, false] rfl rfl (any_of HT_.out (by kernel_rfl)) (fun _ _ _ h => h) (Or.inl ⟨by rfl, ?_⟩) ?_ ?_
    rotate_left
    · intro w'
      go_simp
      with_reducible rfl
    rotate_left
    · simp only [Act.put, List.setIfInBounds_toArray, List.set_cons_zero, List.set_cons_succ, i64_w, i32_w]
      rfl
    refine pure_ (i := 3) (N := some 9) (v := ?_) (a' := ?_) #[true, true, false, true, false, false, false, false, false, false, false, false, false, false] rfl rfl (any_of HT_.out (by kernel_rfl)) (fun _ _ _ h => h) (Or.inl ⟨by rfl, ?_⟩) ?_ ?_
    rotate_left
    · intro w'
      go_simp
      with_reducible rfl
    rotate_left
    · simp only [Act.put, List.setIfInBounds_toArray, List.set_cons_zero, List.set_cons_succ, i64_w, i32_w]
      rfl
    refine pure_ (i := 4) (N := some 10) (v := ?_) (a' := ?_) #[true, true, false, true, true, false, false, false, false, false, false, false, false, false] rfl rfl (any_of HT_.out (by kernel_rfl)) (fun _ _ _ h => h) (Or.inl ⟨by rfl, ?_⟩) ?_ ?_
    rotate_left
    · intro w'
      go_simp
      with_reducible rfl
    rotate_left
    · simp only [Act.put, List.setIfInBounds_toArray, List.set_cons_zero, List.set_cons_succ, i64_w, i32_w]
      rfl
    refine pure_ (i := 6) (N := some 12) (v := ?_) (a' := ?_) #[true, true, false, true, true, false, true, false, false, false, false, false, false, false] rfl rfl (any_of HT_.out (by kernel_rfl)) (fun _ _ _ h => h) (Or.inl ⟨by rfl, ?_⟩) ?_ ?_
    rotate_left
    · intro w'
      go_simp
      with_reducible rfl
    rotate_left
    · simp only [Act.put, List.setIfInBounds_toArray, List.set_cons_zero, List.set_cons_succ, i64_w, i32_w]
      rfl
    refine take_ (i := 2) (N := some 8) (v := ?_) (a' := ?_) #[true, true, true, true, true, false, true, false, false, false, false, false, false, false] rfl rfl (take_ofW HT_.out HW_.out (by kernel_rfl)) (fun _ _ _ h => h) (Or.inl ⟨by rfl, ?_⟩) hHeld ?_ ?_
    rotate_left
    · rintro w' ⟨s0, s1, s2⟩
      go_simp
      with_reducible rfl
    rotate_left
    · simp only [Act.put, List.setIfInBounds_toArray, List.set_cons_zero, List.set_cons_succ, i64_w, i32_w]
      rfl
    refine take_ (i := 5) (N := some 11) (v := ?_) (a' := ?_) #[true, true, true, true, true, true, true, false, false, false, false, false, false, false] rfl rfl (take_ofW HT_.out HW_.out (by kernel_rfl)) (fun _ _ _ h => h) (Or.inl ⟨by rfl, ?_⟩) hHeld ?_ ?_
    rotate_left
    · rintro w' ⟨s0, s1, s2⟩
      go_simp
      with_reducible rfl
    rotate_left
    · simp only [Act.put, List.setIfInBounds_toArray, List.set_cons_zero, List.set_cons_succ, i64_w, i32_w]
      rfl
    refine take_ (i := 7) (N := some 13) (v := ?_) (a' := ?_) #[true, true, true, true, true, true, true, true, false, false, false, false, false, false] rfl rfl (take_ofW HT_.out HW_.out (by kernel_rfl)) (fun _ _ _ h => h) (Or.inl ⟨by rfl, ?_⟩) hHeld ?_ ?_
    rotate_left
    · rintro w' ⟨s0, s1, s2⟩
      go_simp
      with_reducible rfl
    rotate_left
    · simp only [Act.put, List.setIfInBounds_toArray, List.set_cons_zero, List.set_cons_succ, i64_w, i32_w]
      rfl
    refine one_ (i := 8) (N := some 14) #[true, true, true, true, true, true, true, true, true, false, false, false, false, false] rfl rfl (one_of HT_.out (by kernel_rfl)) (by decide) (fun K hK => ?_)
    refine goes_ Tryz.func33 (by kernel_rfl) rfl #[.int .i64 a0_2] (by rfl) rfl rfl (by (try simp only [List.map_toArray, List.map_cons, List.map_nil]); first | done | rfl | (simp only [List.length_drop, List.length_take]; rfl)) ?_
    with_reducible refine (spec_Pow10.calls k a0_2 t174 _ A3.out).mono ?_
    rintro e w12 ⟨v175, rfl, ho0, hb⟩
    refine ⟨_, rfl, ?_⟩
    have n0_ := Aside0.mk (Kd.V_elder' (by (with_reducible repeat (first | apply Kd.V_alloc | apply Kd.V_drewN | apply Kd.V_drew)); exact HO0_1.out) (Kd.R_base ho0) hb)
    have n1_ := Aside0.mk (Kd.R_lower (Kd.R_newM (M := fun k_ => (w.heap.size ≤ k_)) ho0 (below_size (by repeat (first | (with_reducible first | exact HB.out | apply below_alloc | apply pw_below_drewN | apply below_drew1 | refine below_set ?_ GE172.out | refine below_set ?_ GE173.out) | exact HB.out))) (fun k_ h_ => h_)) (below_size (by repeat (first | (with_reducible first | exact HB.out | apply below_alloc | apply pw_below_drewN | apply below_drew1 | refine below_set ?_ GE172.out | refine below_set ?_ GE173.out) | exact HB.out))))
    have n2_ := Aside0.mk (blk_below (g := gb172) (o := .cells #[.bool a0_0, .slice A0_1 l0_1.length c0_1, .int .i64 a0_2] 48 (0, 0)) (by (with_reducible repeat (first | refine blk_drewN ?_ _ | refine blk_drew ?_ | refine blk_alloc ?_ _)); exact BK172.out) hb)
    have n3_ := Aside0.mk (blk_below (g := gb173) (o := .cells #[.bool false, .slice none 0 0, .slice none 0 0] 30 (0, 0)) (by (with_reducible repeat (first | refine blk_drewN ?_ _ | refine blk_drew ?_ | refine blk_alloc ?_ _)); exact BK173.out) hb)
    have n4_ := Aside0.mk (below_step (by repeat (first | (with_reducible first | exact HB.out | apply below_alloc | apply pw_below_drewN | apply below_drew1 | refine below_set ?_ GE172.out | refine below_set ?_ GE173.out) | exact HB.out)) hb)
    clear HO0_1
    clear BK172
    clear BK173
    clear HB
    have HO0_1 := n0_
    have HO176 := n1_
    have BK172 := n2_
    have BK173 := n3_
    have HB := n4_
    clear n0_ n1_ n2_ n3_ n4_
    (try clear hb)
    (try clear hb2)
    (try clear hk)
    (try clear hi)
    (try clear ho0)
    obtain ⟨Ao13, co13, eo13⟩ := Kd.R_slice HO176.out
    (first | subst eo13 | (injection eo13 with f1_ f2_ f3_; have f4_ := f1_.symm; have f5_ := f3_.symm; clear f1_ f2_ f3_; subst f4_; subst f5_))
    refine hK.out _ _ ⟨(blk_cell BK172.out 0).trans rfl, (blk_cell BK172.out 1).trans rfl, (blk_cell BK172.out 2).trans rfl⟩ (fun hHeld => ?_)
    clear hK K
    refine norm_ (a' := ?_) ?_ ?_
    rotate_left
    · show Act.put _ (some 14) _ = _
      simp only [Act.put, List.setIfInBounds_toArray, List.set_cons_zero, List.set_cons_succ, i64_w, i32_w]
      rfl
    refine one_ (i := 9) (N := some 15) #[true, true, true, true, true, true, true, true, true, true, false, false, false, false] rfl rfl (one_of HT_.out (by kernel_rfl)) (by decide) (fun K hK => ?_)
    refine goes_ Tryz.func20 (by kernel_rfl) rfl #[.slice A0_1 l0_1.length c0_1, .slice Ao13 t174.length co13] (by rfl) rfl rfl (by (try simp only [List.map_toArray, List.map_cons, List.map_nil]); first | done | rfl | (simp only [List.length_drop, List.length_take]; rfl)) ?_
    with_reducible refine (spec_NatMul.calls k _ _ l0_1 _ _ t174 t177 _ ?side1 ?side2 ?side3 ?side4 A4.out).mono ?_
    (case side1 => repeat (first | exact (Kd.V_reads' HO0_1.out).2.2 | (with_reducible refine Kd.C_alloc ?_ _) | (with_reducible refine Kd.C_drewN ?_ _) | (with_reducible refine Kd.C_drew ?_)))
    (case side2 => exact (Kd.V_reads' HO0_1.out).2.1)
    (case side3 => repeat (first | exact (Kd.R_reads' HO176.out).2.2 | (with_reducible refine Kd.C_alloc ?_ _) | (with_reducible refine Kd.C_drewN ?_ _) | (with_reducible refine Kd.C_drew ?_)))
    (case side4 => exact (Kd.R_reads' HO176.out).2.1)
    rintro e w14 ⟨v178, rfl, ho0, hb⟩
    refine ⟨_, rfl, ?_⟩
    have n0_ := Aside0.mk (Kd.V_below (by (with_reducible repeat (first | apply Kd.V_alloc | apply Kd.V_drewN | apply Kd.V_drew)); exact HO0_1.out) hb)
    have n1_ := Aside0.mk (Kd.R_below (by (with_reducible repeat (first | apply Kd.R_alloc | apply Kd.R_drewN | apply Kd.R_drew)); exact HO176.out) hb)
    have n2_ := Aside0.mk (Kd.V_lower (Kd.V_mono (ok' := fun k_ => (P0_1_ k_ ∨ w.heap.size ≤ k_) ∧ some k_ ≠ (.slice Ao13 t174.length co13 : Value).ownBlock ∧ k_ ≠ gb172 ∧ k_ ≠ gb173) ho0 (fun k_ hk_ => ⟨(.inr (Nat.le_trans (below_size (by repeat (first | (with_reducible first | exact HB.out | apply below_alloc | apply pw_below_drewN | apply below_drew1 | refine below_set ?_ GE172.out | refine below_set ?_ GE173.out) | exact HB.out))) hk_)), (Kd.fresh' (Kd.R_lt (by (with_reducible repeat (first | apply Kd.R_alloc | apply Kd.R_drewN | apply Kd.R_drew)); exact HO176.out)) k_ hk_), (Kd.freshB (g := gb172) (o := .cells #[.bool a0_0, .slice A0_1 l0_1.length c0_1, .int .i64 a0_2] 48 (0, 0)) (by (with_reducible repeat (first | refine blk_drewN ?_ _ | refine blk_drew ?_ | refine blk_alloc ?_ _)); exact BK172.out) k_ hk_), (Kd.freshB (g := gb173) (o := .cells #[.bool false, .slice none 0 0, .slice none 0 0] 30 (0, 0)) (by (with_reducible repeat (first | refine blk_drewN ?_ _ | refine blk_drew ?_ | refine blk_alloc ?_ _)); exact BK173.out) k_ hk_)⟩)) (below_size (by repeat (first | (with_reducible first | exact HB.out | apply below_alloc | apply pw_below_drewN | apply below_drew1 | refine below_set ?_ GE172.out | refine below_set ?_ GE173.out) | exact HB.out))))
    have n3_ := Aside0.mk (blk_below (g := gb172) (o := .cells #[.bool a0_0, .slice A0_1 l0_1.length c0_1, .int .i64 a0_2] 48 (0, 0)) (by (with_reducible repeat (first | refine blk_drewN ?_ _ | refine blk_drew ?_ | refine blk_alloc ?_ _)); exact BK172.out) hb)
    have n4_ := Aside0.mk (blk_below (g := gb173) (o := .cells #[.bool false, .slice none 0 0, .slice none 0 0] 30 (0, 0)) (by (with_reducible repeat (first | refine blk_drewN ?_ _ | refine blk_drew ?_ | refine blk_alloc ?_ _)); exact BK173.out) hb)
    have n5_ := Aside0.mk (below_step (by repeat (first | (with_reducible first | exact HB.out | apply below_alloc | apply pw_below_drewN | apply below_drew1 | refine below_set ?_ GE172.out | refine below_set ?_ GE173.out) | exact HB.out)) hb)
    clear HO0_1
    clear HO176
    clear BK172
    clear BK173
    clear HB
    have HO0_1 := n0_
    have HO176 := n1_
    have HO179 := n2_
    have BK172 := n3_
    have BK173 := n4_
    have HB := n5_
    clear n0_ n1_ n2_ n3_ n4_ n5_
    (try clear hb)
    (try clear hb2)
    (try clear hk)
    (try clear hi)
    (try clear ho0)
    obtain ⟨Ao15, co15, eo15⟩ := Kd.V_slice HO179.out
    (first | subst eo15 | (injection eo15 with f1_ f2_ f3_; have f4_ := f1_.symm; have f5_ := f3_.symm; clear f1_ f2_ f3_; subst f4_; subst f5_))
    refine hK.out _ _ ⟨(blk_cell BK172.out 0).trans rfl, (blk_cell BK172.out 1).trans rfl, (blk_cell BK172.out 2).trans rfl⟩ (fun hHeld => ?_)
    clear hK K
    refine norm_ (a' := ?_) ?_ ?_
    rotate_left
    · show Act.put _ (some 15) _ = _
      simp only [Act.put, List.setIfInBounds_toArray, List.set_cons_zero, List.set_cons_succ, i64_w, i32_w]
      rfl
    refine one_ (i := 10) (N := some 16) #[true, true, true, true, true, true, true, true, true, true, true, false, false, false] rfl rfl (one_of HT_.out (by kernel_rfl)) (by decide) (fun K hK => ?_)
    refine goes_ Tryz.func32 (by kernel_rfl) rfl #[.bool a0_0, .slice Ao15 t177.length co15] (by rfl) rfl rfl (by (try simp only [List.map_toArray, List.map_cons, List.map_nil]); first | done | rfl | (simp only [List.length_drop, List.length_take]; rfl)) ?_
    with_reducible refine (spec_wholeOf.calls a0_0 (fun k_ => ((P0_1_ k_ ∨ w.heap.size ≤ k_) ∧ (some k_ ≠ (.slice Ao13 t174.length co13 : Value).ownBlock ∧ (k_ ≠ gb172 ∧ k_ ≠ gb173)))) _ _ t177 t180 t181 _ ?side1 A5.out).mono ?_
    (case side1 => exact HO179.out)
    rintro e w16 ⟨v182, rfl, ho0, hb⟩
    refine ⟨_, rfl, ?_⟩
    have n0_ := Aside0.mk (Kd.V_below (by (with_reducible repeat (first | apply Kd.V_alloc | apply Kd.V_drewN | apply Kd.V_drew)); exact HO0_1.out) hb)
    have n1_ := Aside0.mk (Kd.R_below (by (with_reducible repeat (first | apply Kd.R_alloc | apply Kd.R_drewN | apply Kd.R_drew)); exact HO176.out) hb)
    have n2_ := Aside0.mk (Kd.V_below (by (with_reducible repeat (first | apply Kd.V_alloc | apply Kd.V_drewN | apply Kd.V_drew)); exact HO179.out) hb)
    have n3_ := Aside0.mk (Kd.V_lower (Kd.V_mono (ok' := fun k_ => (P0_1_ k_ ∨ w.heap.size ≤ k_) ∧ some k_ ≠ (.slice Ao13 t174.length co13 : Value).ownBlock ∧ k_ ≠ gb172 ∧ k_ ≠ gb173) ho0 (fun k_ hk_ => ⟨Or.elim hk_ (fun hs_ => hs_.1) (fun hn_ => (.inr (Nat.le_trans (below_size (by repeat (first | (with_reducible first | exact HB.out | apply below_alloc | apply pw_below_drewN | apply below_drew1 | refine below_set ?_ GE172.out | refine below_set ?_ GE173.out) | exact HB.out))) hn_))), Or.elim hk_ (fun hs_ => hs_.2.1) (fun hn_ => (Kd.fresh' (Kd.R_lt (by (with_reducible repeat (first | apply Kd.R_alloc | apply Kd.R_drewN | apply Kd.R_drew)); exact HO176.out)) k_ hn_)), Or.elim hk_ (fun hs_ => hs_.2.2.1) (fun hn_ => (Kd.freshB (g := gb172) (o := .cells #[.bool a0_0, .slice A0_1 l0_1.length c0_1, .int .i64 a0_2] 48 (0, 0)) (by (with_reducible repeat (first | refine blk_drewN ?_ _ | refine blk_drew ?_ | refine blk_alloc ?_ _)); exact BK172.out) k_ hn_)), Or.elim hk_ (fun hs_ => hs_.2.2.2) (fun hn_ => (Kd.freshB (g := gb173) (o := .cells #[.bool false, .slice none 0 0, .slice none 0 0] 30 (0, 0)) (by (with_reducible repeat (first | refine blk_drewN ?_ _ | refine blk_drew ?_ | refine blk_alloc ?_ _)); exact BK173.out) k_ hn_))⟩)) (below_size (by repeat (first | (with_reducible first | exact HB.out | apply below_alloc | apply pw_below_drewN | apply below_drew1 | refine below_set ?_ GE172.out | refine below_set ?_ GE173.out) | exact HB.out))))
    have n4_ := Aside0.mk (blk_below (g := gb172) (o := .cells #[.bool a0_0, .slice A0_1 l0_1.length c0_1, .int .i64 a0_2] 48 (0, 0)) (by (with_reducible repeat (first | refine blk_drewN ?_ _ | refine blk_drew ?_ | refine blk_alloc ?_ _)); exact BK172.out) hb)
    have n5_ := Aside0.mk (blk_below (g := gb173) (o := .cells #[.bool false, .slice none 0 0, .slice none 0 0] 30 (0, 0)) (by (with_reducible repeat (first | refine blk_drewN ?_ _ | refine blk_drew ?_ | refine blk_alloc ?_ _)); exact BK173.out) hb)
    have n6_ := Aside0.mk (below_step (by repeat (first | (with_reducible first | exact HB.out | apply below_alloc | apply pw_below_drewN | apply below_drew1 | refine below_set ?_ GE172.out | refine below_set ?_ GE173.out) | exact HB.out)) hb)
    clear HO0_1
    clear HO176
    clear HO179
    clear BK172
    clear BK173
    clear HB
    have HO0_1 := n0_
    have HO176 := n1_
    have HO179 := n2_
    have HO183 := n3_
    have BK172 := n4_
    have BK173 := n5_
    have HB := n6_
    clear n0_ n1_ n2_ n3_ n4_ n5_ n6_
    (try clear hb)
    (try clear hb2)
    (try clear hk)
    (try clear hi)
    (try clear ho0)
    refine hK.out _ _ ⟨(blk_cell BK172.out 0).trans rfl, (blk_cell BK172.out 1).trans rfl, (blk_cell BK172.out 2).trans rfl⟩ (fun hHeld => ?_)
    clear hK K
    refine norm_ (a' := ?_) ?_ ?_
    rotate_left
    · show Act.put _ (some 16) _ = _
      simp only [Act.put, List.setIfInBounds_toArray, List.set_cons_zero, List.set_cons_succ, i64_w, i32_w]
      rfl
    refine one_ (i := 11) (N := some 17) #[true, true, true, true, true, true, true, true, true, true, true, true, false, false] rfl rfl (one_of HT_.out (by kernel_rfl)) (by decide) (fun K hK => ?_)
    refine goes_ Tryz.func34 (by kernel_rfl) rfl #[] (by rfl) rfl rfl (by (try simp only [List.map_toArray, List.map_cons, List.map_nil]); first | done | rfl | (simp only [List.length_drop, List.length_take]; rfl)) ?_
    with_reducible refine (spec_one.calls  t184 _ A6.out).mono ?_
    rintro e w17 ⟨v185, rfl, ho0, hb⟩
    refine ⟨_, rfl, ?_⟩
    have n0_ := Aside0.mk (Kd.V_elder' (by (with_reducible repeat (first | apply Kd.V_alloc | apply Kd.V_drewN | apply Kd.V_drew)); exact HO0_1.out) (Kd.R_base ho0) hb)
    have n1_ := Aside0.mk (Kd.R_elder' (by (with_reducible repeat (first | apply Kd.R_alloc | apply Kd.R_drewN | apply Kd.R_drew)); exact HO176.out) (Kd.R_base ho0) hb)
    have n2_ := Aside0.mk (Kd.V_elder' (by (with_reducible repeat (first | apply Kd.V_alloc | apply Kd.V_drewN | apply Kd.V_drew)); exact HO179.out) (Kd.R_base ho0) hb)
    have n3_ := Aside0.mk (Kd.V_elder' (by (with_reducible repeat (first | apply Kd.V_alloc | apply Kd.V_drewN | apply Kd.V_drew)); exact HO183.out) (Kd.R_base ho0) hb)
    have n4_ := Aside0.mk (Kd.R_lower (Kd.R_new' (Kd.R_newM (M := fun k_ => (w.heap.size ≤ k_)) ho0 (below_size (by repeat (first | (with_reducible first | exact HB.out | apply below_alloc | apply pw_below_drewN | apply below_drew1 | refine below_set ?_ GE172.out | refine below_set ?_ GE173.out) | exact HB.out))) (fun k_ h_ => h_)) (Kd.R_lt (by (with_reducible repeat (first | apply Kd.R_alloc | apply Kd.R_drewN | apply Kd.R_drew)); exact HO176.out))) (below_size (by repeat (first | (with_reducible first | exact HB.out | apply below_alloc | apply pw_below_drewN | apply below_drew1 | refine below_set ?_ GE172.out | refine below_set ?_ GE173.out) | exact HB.out))))
    have n5_ := Aside0.mk (blk_below (g := gb172) (o := .cells #[.bool a0_0, .slice A0_1 l0_1.length c0_1, .int .i64 a0_2] 48 (0, 0)) (by (with_reducible repeat (first | refine blk_drewN ?_ _ | refine blk_drew ?_ | refine blk_alloc ?_ _)); exact BK172.out) hb)
    have n6_ := Aside0.mk (blk_below (g := gb173) (o := .cells #[.bool false, .slice none 0 0, .slice none 0 0] 30 (0, 0)) (by (with_reducible repeat (first | refine blk_drewN ?_ _ | refine blk_drew ?_ | refine blk_alloc ?_ _)); exact BK173.out) hb)
    have n7_ := Aside0.mk (below_step (by repeat (first | (with_reducible first | exact HB.out | apply below_alloc | apply pw_below_drewN | apply below_drew1 | refine below_set ?_ GE172.out | refine below_set ?_ GE173.out) | exact HB.out)) hb)
    clear HO0_1
    clear HO176
    clear HO179
    clear HO183
    clear BK172
    clear BK173
    clear HB
    have HO0_1 := n0_
    have HO176 := n1_
    have HO179 := n2_
    have HO183 := n3_
    have HO186 := n4_
    have BK172 := n5_
    have BK173 := n6_
    have HB := n7_
    clear n0_ n1_ n2_ n3_ n4_ n5_ n6_ n7_
    (try clear hb)
    (try clear hb2)
    (try clear hk)
    (try clear hi)
    (try clear ho0)
    obtain ⟨Ao18, co18, eo18⟩ := Kd.R_slice HO186.out
    (first | subst eo18 | (injection eo18 with f1_ f2_ f3_; have f4_ := f1_.symm; have f5_ := f3_.symm; clear f1_ f2_ f3_; subst f4_; subst f5_))
    obtain ⟨Ao19, co19, eo19⟩ := Kd.V_slice HO183.out
    (first | subst eo19 | (injection eo19 with f1_ f2_ f3_; have f4_ := f1_.symm; have f5_ := f3_.symm; clear f1_ f2_ f3_; subst f4_; subst f5_))
    refine hK.out _ _ ⟨(blk_cell BK172.out 0).trans rfl, (blk_cell BK172.out 1).trans rfl, (blk_cell BK172.out 2).trans rfl⟩ (fun hHeld => ?_)
    clear hK K
    refine norm_ (a' := ?_) ?_ ?_
    rotate_left
    · show Act.put _ (some 17) _ = _
      simp only [Act.put, List.setIfInBounds_toArray, List.set_cons_zero, List.set_cons_succ, i64_w, i32_w]
      rfl
    refine pure_ (i := 12) (N := some 18) (v := ?_) (a' := ?_) #[true, true, true, true, true, true, true, true, true, true, true, true, true, false] rfl rfl (any_of HT_.out (by kernel_rfl)) (fun _ _ _ h => h) (Or.inl ⟨by rfl, ?_⟩) ?_ ?_
    rotate_left
    · intro w'
      go_simp
      with_reducible rfl
    rotate_left
    · simp only [Act.put, List.setIfInBounds_toArray, List.set_cons_zero, List.set_cons_succ, i64_w, i32_w]
      rfl
    refine one_ (i := 13) (N := none) #[true, true, true, true, true, true, true, true, true, true, true, true, true, true] rfl rfl (one_of HT_.out (by kernel_rfl)) (by decide) (fun K hK => ?_)
    have hs20 : w17.cell? ⟨gb173, 0, none⟩ = some (.bool false) := (blk_cell BK173.out 0).trans rfl
    have hfs20 := blk_frozen BK173.out 0
    have hns20_0 := NB172_173.out
    have hms20_0 := NB173_172.out
    have hs21 : w17.cell? ⟨gb173, 1, none⟩ = some (.slice none 0 0) := (blk_cell BK173.out 1).trans rfl
    have hfs21 := blk_frozen BK173.out 1
    have hns21_0 := NB172_173.out
    have hms21_0 := NB173_172.out
    have hs22 : w17.cell? ⟨gb173, 2, none⟩ = some (.slice none 0 0) := (blk_cell BK173.out 2).trans rfl
    have hfs22 := blk_frozen BK173.out 2
    have hns22_0 := NB172_173.out
    have hms22_0 := NB173_172.out
    refine skip_ (w1 := ?_) (by rfl) rfl ?_ ?_
    rotate_left
    · go_simp
      rfl
    refine hK.out _ _ ⟨((cell_far (p := ⟨gb173, _, none⟩) NB172_173.out _).trans (((cell_far (p := ⟨gb173, _, none⟩) NB172_173.out _).trans (((cell_far (p := ⟨gb173, _, none⟩) NB172_173.out _).trans (hHeld.1)))))), ((cell_far (p := ⟨gb173, _, none⟩) NB172_173.out _).trans (((cell_far (p := ⟨gb173, _, none⟩) NB172_173.out _).trans (((cell_far (p := ⟨gb173, _, none⟩) NB172_173.out _).trans (hHeld.2.1)))))), ((cell_far (p := ⟨gb173, _, none⟩) NB172_173.out _).trans (((cell_far (p := ⟨gb173, _, none⟩) NB172_173.out _).trans (((cell_far (p := ⟨gb173, _, none⟩) NB172_173.out _).trans (hHeld.2.2))))))⟩ (fun hHeld => ?_)
    clear hK K
    refine done_ (done_of HT_.out (by kernel_rfl)) ?_
    try go_wp2
    refine bodyPost_ret (results_cell_row rfl _ _ gb173 30 #[.bool t180, .slice Ao19 t181.length co19, .slice Ao18 t184.length co18] (0, 0) _ rfl (by (with_reducible repeat (first | refine blk_drewN ?_ _ | refine blk_drew ?_ | refine blk_alloc ?_ _)); refine blk_put (cs := #[.bool t180, .slice Ao19 t181.length co19, .slice none 0 0]) ?_ 2 _ rfl; (with_reducible repeat (first | refine blk_drewN ?_ _ | refine blk_drew ?_ | refine blk_alloc ?_ _)); refine blk_put (cs := #[.bool t180, .slice none 0 0, .slice none 0 0]) ?_ 1 _ rfl; (with_reducible repeat (first | refine blk_drewN ?_ _ | refine blk_drew ?_ | refine blk_alloc ?_ _)); refine blk_put (cs := #[.bool false, .slice none 0 0, .slice none 0 0]) ?_ 0 _ rfl; (with_reducible repeat (first | refine blk_drewN ?_ _ | refine blk_drew ?_ | refine blk_alloc ?_ _)); exact BK173.out) Tryz.underlying30 rfl (by kernel_rfl)) rfl ?_
    exact ⟨_, _, by first | rfl | (simp [errW_none, errW_some] <;> rfl) | (simp [*, errW_none, errW_some] <;> rfl), by (with_reducible repeat (first | apply Kd.V_alloc | apply Kd.V_drewN | apply Kd.V_drew)); exact Kd.V_mono (Kd.V_far (p := ⟨gb173, 2, none⟩) (Kd.V_far (p := ⟨gb173, 1, none⟩) (Kd.V_far (p := ⟨gb173, 0, none⟩) (Kd.V_mono HO183.out (fun k_ hk => (⟨hk, hk.1.2.2.2⟩ : _ ∧ k_ ≠ gb173))) (fun _ hk => hk.2) (.bool t180)) (fun _ hk => hk.2) (.slice Ao19 t181.length co19)) (fun _ hk => hk.2) (.slice Ao18 t184.length co18)) (fun _ hk => ⟨hk.1.1.1, hk.1.2⟩), by (with_reducible repeat (first | apply Kd.R_alloc | apply Kd.R_drewN | apply Kd.R_drew)); exact Kd.R_mono (Kd.R_far (p := ⟨gb173, 2, none⟩) (Kd.R_far (p := ⟨gb173, 1, none⟩) (Kd.R_far (p := ⟨gb173, 0, none⟩) (Kd.R_types HO186.out BK173.out (by decide)) (fun _ hk => hk.2) (.bool t180)) (fun _ hk => hk.2) (.slice Ao19 t181.length co19)) (fun _ hk => hk.2) (.slice Ao18 t184.length co18)) (fun _ hk => hk.1.1.1), by repeat (first | (with_reducible first | exact HB.out | apply below_alloc | apply pw_below_drewN | apply below_drew1 | refine below_set ?_ GE172.out | refine below_set ?_ GE173.out) | exact HB.out)⟩
  · rw [if_neg c2] at H
    have c2b0 : decide (0 ≤ a0_2) = false := decide_eq_false c2
    clear c2
    replace H := Option.bind_eq_some_iff.mp H
    obtain ⟨t187, A230, H⟩ := H
    replace H : (some (a0_0, l0_1, t187)) = some (r1, r2, r3) := H
    have A23 := Aside0.mk A230
    clear A230
    simp only [Option.some.injEq, Prod.mk.injEq] at H
    obtain ⟨rfl, rfl, rfl⟩ := H
    go_enter Tryz.func17, Tryz.ntmps17
    try go_wp2_with (first | ((with_reducible refine gate_dst (N := 1) rfl ?_); refine box_event ?hg (N := 1) ?hd (cs := #[.bool a0_0, .slice A0_1 l0_1.length c0_1, .int .i64 a0_2]) (t := 48) ?hr ?_; (case hd => rfl); (case hg => rfl); (case hr => first | (go_simp; done) | (go_simp; rfl)); intro gb172 hg w24 hbox hb; have n0_ := Aside0.mk (Kd.V_below (Kd.V_elderB (by (with_reducible repeat (first | apply Kd.V_alloc | apply Kd.V_drewN | apply Kd.V_drew)); exact HO0_1.out) gb172 (Nat.le_of_eq hg.symm)) hb); have n1_ := Aside0.mk (below_step (by repeat (first | (with_reducible first | exact HB.out | apply below_alloc | apply pw_below_drewN | apply below_drew1) | exact HB.out)) hb); have n2_ := Aside0.mk (hbox); have n3_ := Aside0.mk ((by rw [hg]; exact (below_size (by repeat (first | (with_reducible first | exact HB.out | apply below_alloc | apply pw_below_drewN | apply below_drew1) | exact HB.out))) : w.heap.size ≤ gb172)); have n4_ := Aside0.mk ((by rw [hg]; exact (below_size (by repeat (first | (with_reducible first | exact HB.out | apply below_alloc | apply pw_below_drewN | apply below_drew1) | exact HB.out))) : w.heap.size ≤ gb172)); clear HO0_1; clear HB; have HO0_1 := n0_; have HB := n1_; have BK172 := n2_; have GW172 := n3_; have GE172 := n4_; clear n0_ n1_ n2_ n3_ n4_; clear hb hbox hg) | ((with_reducible refine gate_dst (N := 2) rfl ?_); refine box_event ?hg (N := 2) ?hd (cs := #[.bool false, .slice none 0 0, .slice none 0 0]) (t := 30) ?hr ?_; (case hd => rfl); (case hg => rfl); (case hr => first | (go_simp; done) | (go_simp; rfl)); intro gb173 hg w25 hbox hb; have n0_ := Aside0.mk (Kd.V_below (Kd.V_elderB (by (with_reducible repeat (first | apply Kd.V_alloc | apply Kd.V_drewN | apply Kd.V_drew)); exact HO0_1.out) gb173 (Nat.le_of_eq hg.symm)) hb); have n1_ := Aside0.mk (blk_below (g := gb172) (o := .cells #[.bool a0_0, .slice A0_1 l0_1.length c0_1, .int .i64 a0_2] 48 (0, 0)) (by (with_reducible repeat (first | refine blk_drewN ?_ _ | refine blk_drew ?_ | refine blk_alloc ?_ _)); exact BK172.out) hb); have n2_ := Aside0.mk (below_step (by repeat (first | (with_reducible first | exact HB.out | apply below_alloc | apply pw_below_drewN | apply below_drew1 | refine below_set ?_ GE172.out) | exact HB.out)) hb); have n3_ := Aside0.mk (hbox); have n4_ := Aside0.mk ((by rw [hg]; exact (below_size (by repeat (first | (with_reducible first | exact HB.out | apply below_alloc | apply pw_below_drewN | apply below_drew1 | refine below_set ?_ GE172.out) | exact HB.out))) : w.heap.size ≤ gb173)); have n5_ := Aside0.mk ((by rw [hg]; exact (below_size (by repeat (first | (with_reducible first | exact HB.out | apply below_alloc | apply pw_below_drewN | apply below_drew1 | refine below_set ?_ GE172.out) | exact HB.out))) : w.heap.size ≤ gb173)); have n6_ := Aside0.mk ((by rw [hg]; exact Nat.ne_of_lt (blk_lt (g := gb172) (o := .cells #[.bool a0_0, .slice A0_1 l0_1.length c0_1, .int .i64 a0_2] 48 (0, 0)) (by (with_reducible repeat (first | refine blk_drewN ?_ _ | refine blk_drew ?_ | refine blk_alloc ?_ _)); exact BK172.out)) : gb172 ≠ gb173)); have n7_ := Aside0.mk ((by rw [hg]; exact Nat.ne_of_gt (blk_lt (g := gb172) (o := .cells #[.bool a0_0, .slice A0_1 l0_1.length c0_1, .int .i64 a0_2] 48 (0, 0)) (by (with_reducible repeat (first | refine blk_drewN ?_ _ | refine blk_drew ?_ | refine blk_alloc ?_ _)); exact BK172.out)) : gb173 ≠ gb172)); clear HO0_1; clear BK172; clear HB; have HO0_1 := n0_; have BK172 := n1_; have HB := n2_; have BK173 := n3_; have GW173 := n4_; have GE173 := n5_; have NB172_173 := n6_; have NB173_172 := n7_; clear n0_ n1_ n2_ n3_ n4_ n5_ n6_ n7_; clear hb hbox hg; have hnb26 := NB172_173.out; have hnc26 := NB173_172.out; have hcz27_0 : w25.cell? ⟨gb172, 0, none⟩ = some (.bool a0_0) := (blk_cell BK172.out 0).trans rfl; have hcz27_1 : w25.cell? ⟨gb172, 1, none⟩ = some (.slice A0_1 l0_1.length c0_1) := (blk_cell BK172.out 1).trans rfl; have hcz27_2 : w25.cell? ⟨gb172, 2, none⟩ = some (.int .i64 a0_2) := (blk_cell BK172.out 2).trans rfl; have hfz27_0 := blk_frozen BK172.out 0; have hfz27_1 := blk_frozen BK172.out 1; have hfz27_2 := blk_frozen BK172.out 2))
    have n0_ := Aside0.mk (Kd.V_drew HO0_1.out)
    have n1_ := Aside0.mk (blk_drew BK172.out)
    have n2_ := Aside0.mk (blk_drew BK173.out)
    have n3_ := Aside0.mk (below_drew1 HB.out)
    clear HO0_1
    clear BK172
    clear BK173
    clear HB
    have HO0_1 := n0_
    have BK172 := n1_
    have BK173 := n2_
    have HB := n3_
    clear n0_ n1_ n2_ n3_
    refine start_ (n := 8) (S := fun w' => w'.cell? ⟨gb172, 0, none⟩ = some (.bool a0_0) ∧ w'.cell? ⟨gb172, 1, none⟩ = some (.slice A0_1 l0_1.length c0_1) ∧ w'.cell? ⟨gb172, 2, none⟩ = some (.int .i64 a0_2)) (ds := []) #[false, false, false, false, false, false, false, false] (by kernel_rfl) rfl rfl ⟨(blk_cell BK172.out 0).trans rfl, (blk_cell BK172.out 1).trans rfl, (blk_cell BK172.out 2).trans rfl⟩ (fun hHeld => ?_); refine with_tabW spec_Dec_Frac.tab3 spec_Dec_Frac.bits3 (fun HT_ HW_ => ?_)
    generalize w25.drew = w28 at HO0_1 BK172 BK173 HB hHeld ⊢
    refine pure_ (i := 0) (N := some 19) (v := ?_) (a' := ?_) #[true, false, false, false, false, false, false, false] rfl rfl (any_of HT_.out (by kernel_rfl)) (fun _ _ _ h => h) (Or.inl ⟨by rfl, ?_⟩) ?_ ?_
    rotate_left
    · intro w'
      go_simp
      with_reducible rfl
    rotate_left
    · simp only [Act.put, List.setIfInBounds_toArray, List.set_cons_zero, List.set_cons_succ, i64_w, i32_w]
      rfl
    refine pure_ (i := 2) (N := some 21) (v := ?_) (a' := ?_) #[true, false, true, false, false, false, false, false] rfl rfl (any_of HT_.out (by kernel_rfl)) (fun _ _ _ h => h) (Or.inl ⟨by rfl, ?_⟩) ?_ ?_
    rotate_left
    · intro w'
      go_simp
      with_reducible rfl
    rotate_left
    · simp only [Act.put, List.setIfInBounds_toArray, List.set_cons_zero, List.set_cons_succ, i64_w, i32_w]
      rfl
    refine take_ (i := 1) (N := some 20) (v := ?_) (a' := ?_) #[true, true, true, false, false, false, false, false] rfl rfl (take_ofW HT_.out HW_.out (by kernel_rfl)) (fun _ _ _ h => h) (Or.inl ⟨by rfl, ?_⟩) hHeld ?_ ?_
    rotate_left
    · rintro w' ⟨s0, s1, s2⟩
      go_simp
      with_reducible rfl
    rotate_left
    · simp only [Act.put, List.setIfInBounds_toArray, List.set_cons_zero, List.set_cons_succ, i64_w, i32_w]
      rfl
    refine take_ (i := 3) (N := some 22) (v := ?_) (a' := ?_) #[true, true, true, true, false, false, false, false] rfl rfl (take_ofW HT_.out HW_.out (by kernel_rfl)) (fun _ _ _ h => h) (Or.inl ⟨by rfl, ?_⟩) hHeld ?_ ?_
    rotate_left
    · rintro w' ⟨s0, s1, s2⟩
      go_simp
      with_reducible rfl
    rotate_left
    · simp only [Act.put, List.setIfInBounds_toArray, List.set_cons_zero, List.set_cons_succ, i64_w, i32_w]
      rfl
    refine pure_ (i := 4) (N := some 23) (v := ?_) (a' := ?_) #[true, true, true, true, true, false, false, false] rfl rfl (any_of HT_.out (by kernel_rfl)) (fun _ _ _ h => h) (Or.inl ⟨by rfl, ?_⟩) ?_ ?_
    rotate_left
    · intro w'
      go_simp
      with_reducible rfl
    rotate_left
    · simp only [Act.put, List.setIfInBounds_toArray, List.set_cons_zero, List.set_cons_succ, i64_w, i32_w]
      rfl
    refine one_ (i := 5) (N := some 24) #[true, true, true, true, true, true, false, false] rfl rfl (one_of HT_.out (by kernel_rfl)) (by decide) (fun K hK => ?_)
    refine goes_ Tryz.func33 (by kernel_rfl) rfl #[.int .i64 (wrap64 (-a0_2))] (by rfl) rfl rfl (by (try simp only [List.map_toArray, List.map_cons, List.map_nil]); first | done | rfl | (simp only [List.length_drop, List.length_take]; rfl)) ?_
    with_reducible refine (spec_Pow10.calls k (wrap64 (-a0_2)) t187 _ A23.out).mono ?_
    rintro e w29 ⟨v188, rfl, ho0, hb⟩
    refine ⟨_, rfl, ?_⟩
    have n0_ := Aside0.mk (Kd.V_elder' (by (with_reducible repeat (first | apply Kd.V_alloc | apply Kd.V_drewN | apply Kd.V_drew)); exact HO0_1.out) (Kd.R_base ho0) hb)
    have n1_ := Aside0.mk (Kd.R_lower (Kd.R_newM (M := fun k_ => (w.heap.size ≤ k_)) ho0 (below_size (by repeat (first | (with_reducible first | exact HB.out | apply below_alloc | apply pw_below_drewN | apply below_drew1 | refine below_set ?_ GE172.out | refine below_set ?_ GE173.out) | exact HB.out))) (fun k_ h_ => h_)) (below_size (by repeat (first | (with_reducible first | exact HB.out | apply below_alloc | apply pw_below_drewN | apply below_drew1 | refine below_set ?_ GE172.out | refine below_set ?_ GE173.out) | exact HB.out))))
    have n2_ := Aside0.mk (blk_below (g := gb172) (o := .cells #[.bool a0_0, .slice A0_1 l0_1.length c0_1, .int .i64 a0_2] 48 (0, 0)) (by (with_reducible repeat (first | refine blk_drewN ?_ _ | refine blk_drew ?_ | refine blk_alloc ?_ _)); exact BK172.out) hb)
    have n3_ := Aside0.mk (blk_below (g := gb173) (o := .cells #[.bool false, .slice none 0 0, .slice none 0 0] 30 (0, 0)) (by (with_reducible repeat (first | refine blk_drewN ?_ _ | refine blk_drew ?_ | refine blk_alloc ?_ _)); exact BK173.out) hb)
    have n4_ := Aside0.mk (below_step (by repeat (first | (with_reducible first | exact HB.out | apply below_alloc | apply pw_below_drewN | apply below_drew1 | refine below_set ?_ GE172.out | refine below_set ?_ GE173.out) | exact HB.out)) hb)
    clear HO0_1
    clear BK172
    clear BK173
    clear HB
    have HO0_1 := n0_
    have HO189 := n1_
    have BK172 := n2_
    have BK173 := n3_
    have HB := n4_
    clear n0_ n1_ n2_ n3_ n4_
    (try clear hb)
    (try clear hb2)
    (try clear hk)
    (try clear hi)
    (try clear ho0)
    obtain ⟨Ao30, co30, eo30⟩ := Kd.R_slice HO189.out
    (first | subst eo30 | (injection eo30 with f1_ f2_ f3_; have f4_ := f1_.symm; have f5_ := f3_.symm; clear f1_ f2_ f3_; subst f4_; subst f5_))
    refine hK.out _ _ ⟨(blk_cell BK172.out 0).trans rfl, (blk_cell BK172.out 1).trans rfl, (blk_cell BK172.out 2).trans rfl⟩ (fun hHeld => ?_)
    clear hK K
    refine norm_ (a' := ?_) ?_ ?_
    rotate_left
    · show Act.put _ (some 24) _ = _
      simp only [Act.put, List.setIfInBounds_toArray, List.set_cons_zero, List.set_cons_succ, i64_w, i32_w]
      rfl
    refine pure_ (i := 6) (N := some 25) (v := ?_) (a' := ?_) #[true, true, true, true, true, true, true, false] rfl rfl (any_of HT_.out (by kernel_rfl)) (fun _ _ _ h => h) (Or.inl ⟨by rfl, ?_⟩) ?_ ?_
    rotate_left
    · intro w'
      go_simp
      with_reducible rfl
    rotate_left
    · simp only [Act.put, List.setIfInBounds_toArray, List.set_cons_zero, List.set_cons_succ, i64_w, i32_w]
      rfl
    refine one_ (i := 7) (N := none) #[true, true, true, true, true, true, true, true] rfl rfl (one_of HT_.out (by kernel_rfl)) (by decide) (fun K hK => ?_)
    have hs31 : w29.cell? ⟨gb173, 0, none⟩ = some (.bool false) := (blk_cell BK173.out 0).trans rfl
    have hfs31 := blk_frozen BK173.out 0
    have hns31_0 := NB172_173.out
    have hms31_0 := NB173_172.out
    have hs32 : w29.cell? ⟨gb173, 1, none⟩ = some (.slice none 0 0) := (blk_cell BK173.out 1).trans rfl
    have hfs32 := blk_frozen BK173.out 1
    have hns32_0 := NB172_173.out
    have hms32_0 := NB173_172.out
    have hs33 : w29.cell? ⟨gb173, 2, none⟩ = some (.slice none 0 0) := (blk_cell BK173.out 2).trans rfl
    have hfs33 := blk_frozen BK173.out 2
    have hns33_0 := NB172_173.out
    have hms33_0 := NB173_172.out
    refine skip_ (w1 := ?_) (by rfl) rfl ?_ ?_
    rotate_left
    · go_simp
      rfl
    refine hK.out _ _ ⟨((cell_far (p := ⟨gb173, _, none⟩) NB172_173.out _).trans (((cell_far (p := ⟨gb173, _, none⟩) NB172_173.out _).trans (((cell_far (p := ⟨gb173, _, none⟩) NB172_173.out _).trans (hHeld.1)))))), ((cell_far (p := ⟨gb173, _, none⟩) NB172_173.out _).trans (((cell_far (p := ⟨gb173, _, none⟩) NB172_173.out _).trans (((cell_far (p := ⟨gb173, _, none⟩) NB172_173.out _).trans (hHeld.2.1)))))), ((cell_far (p := ⟨gb173, _, none⟩) NB172_173.out _).trans (((cell_far (p := ⟨gb173, _, none⟩) NB172_173.out _).trans (((cell_far (p := ⟨gb173, _, none⟩) NB172_173.out _).trans (hHeld.2.2))))))⟩ (fun hHeld => ?_)
    clear hK K
    refine done_ (done_of HT_.out (by kernel_rfl)) ?_
    try go_wp2
    refine bodyPost_ret (results_cell_row rfl _ _ gb173 30 #[.bool a0_0, .slice A0_1 l0_1.length c0_1, .slice Ao30 t187.length co30] (0, 0) _ rfl (by (with_reducible repeat (first | refine blk_drewN ?_ _ | refine blk_drew ?_ | refine blk_alloc ?_ _)); refine blk_put (cs := #[.bool a0_0, .slice A0_1 l0_1.length c0_1, .slice none 0 0]) ?_ 2 _ rfl; (with_reducible repeat (first | refine blk_drewN ?_ _ | refine blk_drew ?_ | refine blk_alloc ?_ _)); refine blk_put (cs := #[.bool a0_0, .slice none 0 0, .slice none 0 0]) ?_ 1 _ rfl; (with_reducible repeat (first | refine blk_drewN ?_ _ | refine blk_drew ?_ | refine blk_alloc ?_ _)); refine blk_put (cs := #[.bool false, .slice none 0 0, .slice none 0 0]) ?_ 0 _ rfl; (with_reducible repeat (first | refine blk_drewN ?_ _ | refine blk_drew ?_ | refine blk_alloc ?_ _)); exact BK173.out) Tryz.underlying30 rfl (by kernel_rfl)) rfl ?_
    exact ⟨_, _, by first | rfl | (simp [errW_none, errW_some] <;> rfl) | (simp [*, errW_none, errW_some] <;> rfl), by (with_reducible repeat (first | apply Kd.V_alloc | apply Kd.V_drewN | apply Kd.V_drew)); exact Kd.V_mono (Kd.V_far (p := ⟨gb173, 2, none⟩) (Kd.V_far (p := ⟨gb173, 1, none⟩) (Kd.V_far (p := ⟨gb173, 0, none⟩) (Kd.V_mono HO0_1.out (fun k_ hk => (⟨hk, hk.1.2⟩ : _ ∧ k_ ≠ gb173))) (fun _ hk => hk.2) (.bool a0_0)) (fun _ hk => hk.2) (.slice A0_1 l0_1.length c0_1)) (fun _ hk => hk.2) (.slice Ao30 t187.length co30)) (fun _ hk => ⟨hk.1.1.1.1, hk.1.2⟩), by (with_reducible repeat (first | apply Kd.R_alloc | apply Kd.R_drewN | apply Kd.R_drew)); exact Kd.R_mono (Kd.R_far (p := ⟨gb173, 2, none⟩) (Kd.R_far (p := ⟨gb173, 1, none⟩) (Kd.R_far (p := ⟨gb173, 0, none⟩) (Kd.R_types HO189.out BK173.out (by decide)) (fun _ hk => hk.2) (.bool a0_0)) (fun _ hk => hk.2) (.slice A0_1 l0_1.length c0_1)) (fun _ hk => hk.2) (.slice Ao30 t187.length co30)) (fun _ hk => hk.1.1), by repeat (first | (with_reducible first | exact HB.out | apply below_alloc | apply pw_below_drewN | apply below_drew1 | refine below_set ?_ GE172.out | refine below_set ?_ GE173.out) | exact HB.out)⟩


end Go.Proofs.YtghabdpbacgicaaGreatDoor.S
