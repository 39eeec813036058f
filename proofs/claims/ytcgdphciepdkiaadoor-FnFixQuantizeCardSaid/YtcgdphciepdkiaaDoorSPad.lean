/- CONTRACTS of spec_Padded: each as the plain function beside it. (Began as print.sh's text for this seat; the turns are those of wip/tools/split.py.) -/
import Derived.Test.YtcgdphciepdkiaaDoorSFrom
import Derived.Test.YtcgdphciepdkiaaDoorSStr
import Derived.Test.YtcgdphciepdkiaaDoorSMul
import Derived.Test.YtcgdphciepdkiaaDoorSWOf
namespace Go.Proofs.YtcgdphciepdkiaaDoor.S
open Go.RowKit Go.Proofs.YtcgdphciepdkiaaDoorW.PrintWords Go.Proofs.YtcgdphciepdkiaaDoorW.PrintLast Go.Proofs.YtcgdphciepdkiaaDoorW.PrintMore
attribute [local go_sem] max2_int min2_int max_two min_two max_three min_three max_four min_four   -- for this text's walks alone
set_option linter.unusedVariables false
set_option linter.unusedSimpArgs false

/-! ### spec_Padded: function 52 -/
def spec_Padded.l0 : Nat → Int → Bool → List Int → Int → Option (Bool × List Int × Int)
  | 0, _, _, _, _ => none
  | k + 1, x1, x421000, x421001, x421002 => if (wrap64 (-x421002)) < (mn x1 19) then ((spec_NatFrom.f k 10).bind fun t422 => ((spec_NatMul.f k x421001 t422).bind fun t425 => ((spec_wholeOf.f x421000 t425).bind fun bt428 => ((spec_Nat_Digits.f k bt428.2).bind fun t433 => (if t433 > 19 then (some (x421000, x421001, x421002)) else (spec_Padded.l0 k x1 bt428.1 bt428.2 (wrap64 (x421002 - 1)))))))) else (some (x421000, x421001, x421002))
def spec_Padded.f (k : Nat) (a0_0 : Bool) (l0_1 : List Int) (a0_2 : Int) (a1 : Int) : Option (Bool × List Int × Int) := spec_Padded.l0 k a1 a0_0 l0_1 a0_2
theorem spec_Padded.mono_l : ∀ k, (∀ y0 y1 y2 y3, LeO (spec_Padded.l0 k y0 y1 y2 y3) (spec_Padded.l0 (k + 1) y0 y1 y2 y3))
  | 0 => fun _ _ _ _ r h => by simp [spec_Padded.l0] at h
  | k + 1 => by
    have ih0 := spec_Padded.mono_l k
    · intro y0 y1 y2 y3
      unfold spec_Padded.l0
      repeat' first
      | (with_reducible exact ih0 _ _ _ _)
      | (with_reducible exact spec_NatFrom.mono _ _)
      | (with_reducible exact spec_NatMul.mono _ _ _)
      | (with_reducible exact spec_Nat_Digits.mono _ _)
      | (with_reducible exact LeO.refl _)
      | (with_reducible exact LeO.none _)
      | (with_reducible refine LeO.ite ?_ ?_)
      | (with_reducible refine LeO.bind ?_ (fun _ => ?_))
      | exact ih0 _ _ _ _
      | exact spec_NatFrom.mono _ _
      | exact spec_NatMul.mono _ _ _
      | exact spec_Nat_Digits.mono _ _
      | exact LeO.none _
      | refine LeO.ite ?_ ?_
      | refine LeO.bind ?_ (fun _ => ?_)
theorem spec_Padded.mono : ∀ a0 a1 a2 a3 k, LeO (spec_Padded.f k a0 a1 a2 a3) (spec_Padded.f (k + 1) a0 a1 a2 a3) := by
  intro a0 a1 a2 a3 k
  have ih0 := spec_Padded.mono_l k
  unfold spec_Padded.f
  repeat' first
      | (with_reducible exact ih0 _ _ _ _)
      | (with_reducible exact spec_NatFrom.mono _ _)
      | (with_reducible exact spec_NatMul.mono _ _ _)
      | (with_reducible exact spec_Nat_Digits.mono _ _)
      | (with_reducible exact LeO.refl _)
      | (with_reducible exact LeO.none _)
      | (with_reducible refine LeO.ite ?_ ?_)
      | (with_reducible refine LeO.bind ?_ (fun _ => ?_))
      | exact ih0 _ _ _ _
      | exact spec_NatFrom.mono _ _
      | exact spec_NatMul.mono _ _ _
      | exact spec_Nat_Digits.mono _ _
      | exact LeO.none _
      | refine LeO.ite ?_ ?_
      | refine LeO.bind ?_ (fun _ => ?_)
def spec_Padded.T2 : Bool × List (List Nat × List Nat) := (true, [([], []), ([0], [0]), ([1], [1]), ([], []), ([3], [3]), ([4], [4]), ([], []), ([5, 6, 6], [5, 6]), ([2, 7, 7], [2, 7]), ([], []), ([9], [9]), ([10], [10]), ([8, 11], [8, 11]), ([], []), ([13, 12, 8, 0, 1, 2, 3, 4, 5, 6, 7, 8, 9, 10, 11, 12, 13], [12, 13])])
def spec_Padded.B2 : List Nat := [0, 1, 3, 0, 8, 24, 0, 120, 255, 0, 512, 1536, 4095, 0, 16383]
theorem spec_Padded.tab2 : rtab .any (opsOf Tryd.f52 2) = spec_Padded.T2 := by kernel_rfl
theorem spec_Padded.bits2 : waitsOk spec_Padded.T2.2 spec_Padded.B2 = true := by kernel_rfl
set_option maxHeartbeats 8000000 in
set_option maxRecDepth 100000 in
theorem spec_Padded.calls (k : Nat) (a0_0 : Bool) (P0_1_ : Nat → Prop) (A0_1 : Option Addr) (c0_1 : Nat) (l0_1 : List Int) (a0_2 : Int) (a1 : Int) (r1 : Bool) (r2 : List Int) (r3 : Int) (w : World) (hs0_1 : Kd.V (Kd.int .u32) 59 w w.heap.size (fun k_ => P0_1_ k_) (.slice A0_1 l0_1.length c0_1) l0_1) (h : spec_Padded.f k a0_0 l0_1 a0_2 a1 = some (r1, r2, r3)) :
    Calls Tryd.prog 52 #[.agg #[.bool a0_0, .slice A0_1 l0_1.length c0_1, .int .i64 a0_2], .int .i64 a1] w fun e w' => ∃ v1_ : Value, e = .returned (.agg #[.bool r1, v1_, .int .i64 r3]) ∧ Kd.V (Kd.int .u32) 59 w' w.heap.size (fun k_ => (P0_1_ k_ ∨ w.heap.size ≤ k_)) v1_ r2 ∧ Below w.heap.size w w' := by
  have hu40 := Tryd.underlying40
  have HO0_1 := Aside0.mk (show Kd.V (Kd.int .u32) 59 w w.heap.size (fun k_ => (P0_1_ k_ ∨ w.heap.size ≤ k_)) (.slice A0_1 l0_1.length c0_1) l0_1 from Kd.V_mono hs0_1 (fun k_ hk => .inl hk))
  have HB := Aside0.mk (Below.refl w.heap.size w)
  have H : (spec_Padded.l0 k a1 a0_0 l0_1 a0_2) = some (r1, r2, r3) := h
  clear h
  have H' := Aside0.mk H
  clear H
  go_enter Tryd.func52, Tryd.ntmps52
  go_wp2_with (first | ((with_reducible refine gate_dst (N := 2) rfl ?_); refine box_event ?hg (N := 2) ?hd (cs := #[.bool a0_0, .slice A0_1 l0_1.length c0_1, .int .i64 a0_2]) (t := 40) ?hr ?_; (case hd => rfl); (case hg => rfl); (case hr => first | (go_simp; done) | (go_simp; rfl)); intro gb420 hg w3 hbox hb; have n0_ := Aside0.mk (Kd.V_below (Kd.V_elderB (by (with_reducible repeat (first | apply Kd.V_alloc | apply Kd.V_drewN | apply Kd.V_drew)); exact HO0_1.out) gb420 (Nat.le_of_eq hg.symm)) hb); have n1_ := Aside0.mk (below_step (by repeat (first | (with_reducible first | exact HB.out | apply below_alloc | apply pw_below_drewN | apply below_drew1) | exact HB.out)) hb); have n2_ := Aside0.mk (hbox); have n3_ := Aside0.mk ((by rw [hg]; exact (below_size (by repeat (first | (with_reducible first | exact HB.out | apply below_alloc | apply pw_below_drewN | apply below_drew1) | exact HB.out))) : w.heap.size ≤ gb420)); have n4_ := Aside0.mk ((by rw [hg]; exact (below_size (by repeat (first | (with_reducible first | exact HB.out | apply below_alloc | apply pw_below_drewN | apply below_drew1) | exact HB.out))) : w.heap.size ≤ gb420)); clear HO0_1; clear HB; have HO0_1 := n0_; have HB := n1_; have BK420 := n2_; have GW420 := n3_; have GE420 := n4_; clear n0_ n1_ n2_ n3_ n4_; clear hb hbox hg) | ((with_reducible refine gate_dst (N := 4) rfl ?_); refine box_event ?hg (N := 4) ?hd (cs := #[.bool false, .slice none 0 0, .int .i64 0]) (t := 40) ?hr ?_; (case hd => rfl); (case hg => rfl); (case hr => first | (go_simp; done) | (go_simp; rfl)); intro gb421 hg w4 hbox hb; have n0_ := Aside0.mk (Kd.V_below (Kd.V_elderB (by (with_reducible repeat (first | apply Kd.V_alloc | apply Kd.V_drewN | apply Kd.V_drew)); exact HO0_1.out) gb421 (Nat.le_of_eq hg.symm)) hb); have n1_ := Aside0.mk (blk_below (g := gb420) (o := .cells #[.bool a0_0, .slice A0_1 l0_1.length c0_1, .int .i64 a0_2] 40 (0, 0)) (by (with_reducible repeat (first | refine blk_drewN ?_ _ | refine blk_drew ?_ | refine blk_alloc ?_ _)); exact BK420.out) hb); have n2_ := Aside0.mk (below_step (by repeat (first | (with_reducible first | exact HB.out | apply below_alloc | apply pw_below_drewN | apply below_drew1 | refine below_set ?_ GE420.out) | exact HB.out)) hb); have n3_ := Aside0.mk (hbox); have n4_ := Aside0.mk ((by rw [hg]; exact (below_size (by repeat (first | (with_reducible first | exact HB.out | apply below_alloc | apply pw_below_drewN | apply below_drew1 | refine below_set ?_ GE420.out) | exact HB.out))) : w.heap.size ≤ gb421)); have n5_ := Aside0.mk ((by rw [hg]; exact (below_size (by repeat (first | (with_reducible first | exact HB.out | apply below_alloc | apply pw_below_drewN | apply below_drew1 | refine below_set ?_ GE420.out) | exact HB.out))) : w.heap.size ≤ gb421)); have n6_ := Aside0.mk ((by rw [hg]; exact Nat.ne_of_lt (blk_lt (g := gb420) (o := .cells #[.bool a0_0, .slice A0_1 l0_1.length c0_1, .int .i64 a0_2] 40 (0, 0)) (by (with_reducible repeat (first | refine blk_drewN ?_ _ | refine blk_drew ?_ | refine blk_alloc ?_ _)); exact BK420.out)) : gb420 ≠ gb421)); have n7_ := Aside0.mk ((by rw [hg]; exact Nat.ne_of_gt (blk_lt (g := gb420) (o := .cells #[.bool a0_0, .slice A0_1 l0_1.length c0_1, .int .i64 a0_2] 40 (0, 0)) (by (with_reducible repeat (first | refine blk_drewN ?_ _ | refine blk_drew ?_ | refine blk_alloc ?_ _)); exact BK420.out)) : gb421 ≠ gb420)); clear HO0_1; clear BK420; clear HB; have HO0_1 := n0_; have BK420 := n1_; have HB := n2_; have BK421 := n3_; have GW421 := n4_; have GE421 := n5_; have NB420_421 := n6_; have NB421_420 := n7_; clear n0_ n1_ n2_ n3_ n4_ n5_ n6_ n7_; clear hb hbox hg))
  simp only [Act.put, List.setIfInBounds_toArray, List.set_cons_succ, List.set_cons_zero]
  go_loopg [] k (fun kq w' => ∃ (x421000_1 : Bool) (x421001_1 : List Int) (x421002_1 : Int) (u421001 : Value), Aside0 (spec_Padded.l0 kq a1 x421000_1 x421001_1 x421002_1 = some (r1, r2, r3)) ∧ Aside0 (kq ≤ k) ∧ Aside0 (Kd.V (Kd.int .u32) 59 w' w.heap.size (fun k_ => (P0_1_ k_ ∨ w.heap.size ≤ k_) ∧ k_ ≠ gb420 ∧ k_ ≠ gb421) u421001 x421001_1) ∧ Aside0 (w'.heap[gb420]? = some (.cells #[.bool x421000_1, u421001, .int .i64 x421002_1] 40 (0, 0))) ∧ Aside0 (w'.heap[gb421]? = some (.cells #[.bool false, (.slice none 0 0), .int .i64 0] 40 (0, 0))) ∧ Aside0 (Below w.heap.size w w'))
  case atStart => exact ⟨(a0_0), (l0_1), (a0_2), (.slice A0_1 l0_1.length c0_1), H', ⟨Nat.le_refl _⟩, ⟨by (with_reducible repeat (first | apply Kd.V_alloc | apply Kd.V_drewN | apply Kd.V_drew)); exact Kd.V_mono HO0_1.out (fun _ hk => ⟨hk.1.1, ⟨hk.1.2, hk.2⟩⟩)⟩, ⟨by (with_reducible repeat (first | refine blk_drewN ?_ _ | refine blk_drew ?_ | refine blk_alloc ?_ _)); exact BK420.out⟩, ⟨by (with_reducible repeat (first | refine blk_drewN ?_ _ | refine blk_drew ?_ | refine blk_alloc ?_ _)); exact BK421.out⟩, ⟨by repeat (first | (with_reducible first | exact HB.out | apply below_alloc | apply pw_below_drewN | apply below_drew1 | refine below_set ?_ GE420.out | refine below_set ?_ GE421.out) | exact HB.out)⟩⟩
  case round =>
    clear H'
    try clear p2
    obtain ⟨x421000_1, x421001_1, x421002_1, u421001, HA, HK1, HO_421001, BK420, BK421, HB⟩ := hrel
    cases gk with
    | zero => exact absurd HA.out (by simp [spec_Padded.l0])
    | succ k1 =>
      have H := HA.out
      clear HA
      simp only [spec_Padded.l0] at H
      obtain ⟨ji5, hji5⟩ : ∃ j_ : Int, (mn a1 19) = j_ := ⟨_, rfl⟩
      replace H : (if (wrap64 (-x421002_1)) < (ji5) then ((spec_NatFrom.f k1 10).bind fun t422 => ((spec_NatMul.f k1 x421001_1 t422).bind fun t425 => ((spec_wholeOf.f x421000_1 t425).bind fun bt428 => ((spec_Nat_Digits.f k1 bt428.2).bind fun t433 => (if t433 > 19 then (some (x421000_1, x421001_1, x421002_1)) else (spec_Padded.l0 k1 a1 bt428.1 bt428.2 (wrap64 (x421002_1 - 1)))))))) else (some (x421000_1, x421001_1, x421002_1))) = some (r1, r2, r3) := by first | (rw [hji5] at H; exact H) | (simp only [hji5] at H ⊢; exact H)
      have hji5_ : (if 19 < a1 then 19 else a1) = ji5 := hji5
      by_cases c6 : (wrap64 (-x421002_1)) < (ji5)
      · rw [if_pos c6] at H
        have c6b0 : decide ((wrap64 (-x421002_1)) < (ji5)) = true := decide_eq_true c6
        clear c6
        replace H := Option.bind_eq_some_iff.mp H
        obtain ⟨t422, A70, H⟩ := H
        replace H : ((spec_NatMul.f k1 x421001_1 t422).bind fun t425 => ((spec_wholeOf.f x421000_1 t425).bind fun bt428 => ((spec_Nat_Digits.f k1 bt428.2).bind fun t433 => (if t433 > 19 then (some (x421000_1, x421001_1, x421002_1)) else (spec_Padded.l0 k1 a1 bt428.1 bt428.2 (wrap64 (x421002_1 - 1))))))) = some (r1, r2, r3) := H
        have A7 := Aside0.mk A70
        clear A70
        replace H := Option.bind_eq_some_iff.mp H
        obtain ⟨t425, A80, H⟩ := H
        replace H : ((spec_wholeOf.f x421000_1 t425).bind fun bt428 => ((spec_Nat_Digits.f k1 bt428.2).bind fun t433 => (if t433 > 19 then (some (x421000_1, x421001_1, x421002_1)) else (spec_Padded.l0 k1 a1 bt428.1 bt428.2 (wrap64 (x421002_1 - 1)))))) = some (r1, r2, r3) := H
        have A8 := Aside0.mk A80
        clear A80
        replace H := Option.bind_eq_some_iff.mp H
        obtain ⟨⟨t428, t429⟩, A90, H⟩ := H
        replace H : ((spec_Nat_Digits.f k1 t429).bind fun t433 => (if t433 > 19 then (some (x421000_1, x421001_1, x421002_1)) else (spec_Padded.l0 k1 a1 t428 t429 (wrap64 (x421002_1 - 1))))) = some (r1, r2, r3) := H
        have A9 := Aside0.mk A90
        clear A90
        replace H := Option.bind_eq_some_iff.mp H
        obtain ⟨t433, A100, H⟩ := H
        replace H : (if t433 > 19 then (some (x421000_1, x421001_1, x421002_1)) else (spec_Padded.l0 k1 a1 t428 t429 (wrap64 (x421002_1 - 1)))) = some (r1, r2, r3) := H
        have A10 := Aside0.mk A100
        clear A100
        have HH_ := Aside0.mk H
        clear H
        have hnb12 := NB420_421.out
        have hnc12 := NB421_420.out
        have hcz13_0 : wr.cell? ⟨gb420, 0, none⟩ = some (.bool x421000_1) := (blk_cell BK420.out 0).trans rfl
        have hcz13_1 : wr.cell? ⟨gb420, 1, none⟩ = some (u421001) := (blk_cell BK420.out 1).trans rfl
        have hcz13_2 : wr.cell? ⟨gb420, 2, none⟩ = some (.int .i64 x421002_1) := (blk_cell BK420.out 2).trans rfl
        have hfz13_0 := blk_frozen BK420.out 0
        have hfz13_1 := blk_frozen BK420.out 1
        have hfz13_2 := blk_frozen BK420.out 2
        obtain ⟨Ao14, co14, eo14⟩ := Kd.V_slice HO_421001.out
        subst eo14
        try go_wp2
        have n0_ := Aside0.mk (Kd.V_drew HO_421001.out)
        have n1_ := Aside0.mk (blk_drew BK420.out)
        have n2_ := Aside0.mk (blk_drew BK421.out)
        have n3_ := Aside0.mk (below_drew1 HB.out)
        clear HO_421001
        clear BK420
        clear BK421
        clear HB
        have HO_421001 := n0_
        have BK420 := n1_
        have BK421 := n2_
        have HB := n3_
        clear n0_ n1_ n2_ n3_
        refine start_ (n := 15) (S := fun w' => w'.cell? ⟨gb420, 0, none⟩ = some (.bool x421000_1) ∧ w'.cell? ⟨gb420, 1, none⟩ = some (.slice Ao14 x421001_1.length co14) ∧ w'.cell? ⟨gb420, 2, none⟩ = some (.int .i64 x421002_1)) (ds := []) #[false, false, false, false, false, false, false, false, false, false, false, false, false, false, false] (by kernel_rfl) rfl rfl ⟨(blk_cell BK420.out 0).trans rfl, (blk_cell BK420.out 1).trans rfl, (blk_cell BK420.out 2).trans rfl⟩ (fun hHeld => ?_); refine with_tabW spec_Padded.tab2 spec_Padded.bits2 (fun HT_ HW_ => ?_)
        generalize wr.drew = w15 at HO_421001 BK420 BK421 HB hHeld ⊢
        refine pure_ (i := 0) (N := some 12) (v := ?_) (a' := ?_) #[true, false, false, false, false, false, false, false, false, false, false, false, false, false, false] rfl rfl (any_of HT_.out (by kernel_rfl)) (fun _ _ _ h => h) (Or.inl ⟨by rfl, ?_⟩) ?_ ?_
        rotate_left
        · intro w'
          go_simp
          with_reducible rfl
        rotate_left
        · simp only [Act.put, List.setIfInBounds_toArray, List.set_cons_zero, List.set_cons_succ, i64_w, i32_w]
          rfl
        refine pure_ (i := 1) (N := some 13) (v := ?_) (a' := ?_) #[true, true, false, false, false, false, false, false, false, false, false, false, false, false, false] rfl rfl (any_of HT_.out (by kernel_rfl)) (fun _ _ _ h => h) (Or.inl ⟨by rfl, ?_⟩) ?_ ?_
        rotate_left
        · intro w'
          go_simp
          with_reducible rfl
        rotate_left
        · simp only [Act.put, List.setIfInBounds_toArray, List.set_cons_zero, List.set_cons_succ, i64_w, i32_w]
          rfl
        refine pure_ (i := 3) (N := some 15) (v := ?_) (a' := ?_) #[true, true, false, true, false, false, false, false, false, false, false, false, false, false, false] rfl rfl (any_of HT_.out (by kernel_rfl)) (fun _ _ _ h => h) (Or.inl ⟨by rfl, ?_⟩) ?_ ?_
        rotate_left
        · intro w'
          go_simp
          with_reducible rfl
        rotate_left
        · simp only [Act.put, List.setIfInBounds_toArray, List.set_cons_zero, List.set_cons_succ, i64_w, i32_w]
          rfl
        refine pure_ (i := 4) (N := some 16) (v := ?_) (a' := ?_) #[true, true, false, true, true, false, false, false, false, false, false, false, false, false, false] rfl rfl (any_of HT_.out (by kernel_rfl)) (fun _ _ _ h => h) (Or.inl ⟨by rfl, ?_⟩) ?_ ?_
        rotate_left
        · intro w'
          go_simp
          with_reducible rfl
        rotate_left
        · simp only [Act.put, List.setIfInBounds_toArray, List.set_cons_zero, List.set_cons_succ, i64_w, i32_w]
          rfl
        refine pure_ (i := 9) (N := some 21) (v := ?_) (a' := ?_) #[true, true, false, true, true, false, false, false, false, true, false, false, false, false, false] rfl rfl (any_of HT_.out (by kernel_rfl)) (fun _ _ _ h => h) (Or.inl ⟨by rfl, ?_⟩) ?_ ?_
        rotate_left
        · intro w'
          go_simp
          with_reducible rfl
        rotate_left
        · simp only [Act.put, List.setIfInBounds_toArray, List.set_cons_zero, List.set_cons_succ, i64_w, i32_w]
          rfl
        refine take_ (i := 2) (N := some 14) (v := ?_) (a' := ?_) #[true, true, true, true, true, false, false, false, false, true, false, false, false, false, false] rfl rfl (take_ofW HT_.out HW_.out (by kernel_rfl)) (fun _ _ _ h => h) (Or.inl ⟨by rfl, ?_⟩) hHeld ?_ ?_
        rotate_left
        · rintro w' ⟨s0, s1, s2⟩
          go_simp
          with_reducible rfl
        rotate_left
        · simp only [Act.put, List.setIfInBounds_toArray, List.set_cons_zero, List.set_cons_succ, i64_w, i32_w]
          rfl
        refine take_ (i := 5) (N := some 17) (v := ?_) (a' := ?_) #[true, true, true, true, true, true, false, false, false, true, false, false, false, false, false] rfl rfl (take_ofW HT_.out HW_.out (by kernel_rfl)) (fun _ _ _ h => h) (Or.inl ⟨by rfl, ?_⟩) hHeld ?_ ?_
        rotate_left
        · rintro w' ⟨s0, s1, s2⟩
          go_simp
          with_reducible rfl
        rotate_left
        · simp only [Act.put, List.setIfInBounds_toArray, List.set_cons_zero, List.set_cons_succ, i64_w, i32_w]
          rfl
        refine take_ (i := 10) (N := some 22) (v := ?_) (a' := ?_) #[true, true, true, true, true, true, false, false, false, true, true, false, false, false, false] rfl rfl (take_ofW HT_.out HW_.out (by kernel_rfl)) (fun _ _ _ h => h) (Or.inl ⟨by rfl, ?_⟩) hHeld ?_ ?_
        rotate_left
        · rintro w' ⟨s0, s1, s2⟩
          go_simp
          with_reducible rfl
        rotate_left
        · simp only [Act.put, List.setIfInBounds_toArray, List.set_cons_zero, List.set_cons_succ, i64_w, i32_w]
          rfl
        refine pure_ (i := 11) (N := some 23) (v := ?_) (a' := ?_) #[true, true, true, true, true, true, false, false, false, true, true, true, false, false, false] rfl rfl (any_of HT_.out (by kernel_rfl)) (fun _ _ _ h => h) (Or.inl ⟨by rfl, ?_⟩) ?_ ?_
        rotate_left
        · intro w'
          go_simp
          with_reducible rfl
        rotate_left
        · simp only [Act.put, List.setIfInBounds_toArray, List.set_cons_zero, List.set_cons_succ, i64_w, i32_w]
          rfl
        refine join_ (σ := Value × Value × Value × Nat) 1 #[true, true, true, true, true, true, true, true, true, true, true, true, true, true, false] (fun s_ => [(18, s_.1), (19, s_.2.1), (20, .agg #[.bool t428, s_.2.2.1]), (5, .pointer (some ⟨s_.2.2.2, 0, none⟩)), (24, .agg #[.bool t428, s_.2.2.1, .int .i64 (wrap64 (x421002_1 - 1))])]) (fun s_ w' => (w'.cell? ⟨gb420, 0, none⟩ = some (.bool x421000_1) ∧ w'.cell? ⟨gb420, 1, none⟩ = some (.slice Ao14 x421001_1.length co14) ∧ w'.cell? ⟨gb420, 2, none⟩ = some (.int .i64 x421002_1)) ∧ (Kd.R (Kd.int .u32) 59 w' w.heap.size (fun k_ => (w.heap.size ≤ k_)) s_.1 t422) ∧ (Kd.V (Kd.int .u32) 59 w' w.heap.size (fun k_ => (P0_1_ k_ ∨ w.heap.size ≤ k_) ∧ some k_ ≠ (s_.1 : Value).ownBlock ∧ k_ ≠ gb420 ∧ k_ ≠ gb421 ∧ k_ ≠ s_.2.2.2) s_.2.1 t425) ∧ (Kd.V (Kd.int .u32) 59 w' w.heap.size (fun k_ => (P0_1_ k_ ∨ w.heap.size ≤ k_) ∧ some k_ ≠ (s_.1 : Value).ownBlock ∧ k_ ≠ gb420 ∧ k_ ≠ gb421 ∧ k_ ≠ s_.2.2.2) s_.2.2.1 t429) ∧ (Kd.V (Kd.int .u32) 59 w' w.heap.size (fun k_ => (P0_1_ k_ ∨ w.heap.size ≤ k_) ∧ some k_ ≠ (s_.1 : Value).ownBlock ∧ k_ ≠ gb420 ∧ k_ ≠ gb421 ∧ k_ ≠ s_.2.2.2) (.slice Ao14 x421001_1.length co14) x421001_1) ∧ (w'.heap[gb420]? = some (.cells #[.bool x421000_1, .slice Ao14 x421001_1.length co14, .int .i64 x421002_1] 40 (0, 0))) ∧ (w'.heap[gb421]? = some (.cells #[.bool false, .slice none 0 0, .int .i64 0] 40 (0, 0))) ∧ (w'.heap[s_.2.2.2]? = some (.cells #[.bool false, .slice none 0 0, .int .i64 0] 40 (0, 0))) ∧ (w.heap.size ≤ s_.2.2.2) ∧ (w.heap.size ≤ s_.2.2.2) ∧ (gb420 ≠ s_.2.2.2) ∧ (s_.2.2.2 ≠ gb420) ∧ (gb421 ≠ s_.2.2.2) ∧ (s_.2.2.2 ≠ gb421) ∧ (Below w.heap.size w w')) ?_ ?_
        rotate_left
        · intro hCont
          refine two_ (i := 6) (j := 13) (Ni := some 18) (Nj := some 5) #[true, true, true, true, true, true, true, false, false, true, true, true, false, false, false] #[true, true, true, true, true, true, false, false, false, true, true, true, false, true, false] rfl rfl rfl rfl (two_of HT_.out (by kernel_rfl)) (by decide) (by decide) (fun K hK => ?_) (fun K hK => ?_)
          · skip
            refine goes_ Tryd.func13 (by kernel_rfl) rfl #[.int .u64 10] (by rfl) rfl rfl (by (try simp only [List.map_toArray, List.map_cons, List.map_nil]); first | done | rfl | (simp only [List.length_drop, List.length_take]; rfl)) ?_
            with_reducible refine (spec_NatFrom.calls k1 10 t422 _ A7.out).mono ?_
            rintro e w16 ⟨v423, rfl, ho0, hb⟩
            refine ⟨_, rfl, ?_⟩
            have n0_ := Aside0.mk (Kd.V_elder' (by (with_reducible repeat (first | apply Kd.V_alloc | apply Kd.V_drewN | apply Kd.V_drew)); exact HO_421001.out) (Kd.R_base ho0) hb)
            have n1_ := Aside0.mk (Kd.R_lower (Kd.R_newM (M := fun k_ => (w.heap.size ≤ k_)) ho0 (below_size (by repeat (first | (with_reducible first | exact HB.out | apply below_alloc | apply pw_below_drewN | apply below_drew1 | refine below_set ?_ GE420.out | refine below_set ?_ GE421.out) | exact HB.out))) (fun k_ h_ => h_)) (below_size (by repeat (first | (with_reducible first | exact HB.out | apply below_alloc | apply pw_below_drewN | apply below_drew1 | refine below_set ?_ GE420.out | refine below_set ?_ GE421.out) | exact HB.out))))
            have n2_ := Aside0.mk (blk_below (g := gb420) (o := .cells #[.bool x421000_1, .slice Ao14 x421001_1.length co14, .int .i64 x421002_1] 40 (0, 0)) (by (with_reducible repeat (first | refine blk_drewN ?_ _ | refine blk_drew ?_ | refine blk_alloc ?_ _)); exact BK420.out) hb)
            have n3_ := Aside0.mk (blk_below (g := gb421) (o := .cells #[.bool false, .slice none 0 0, .int .i64 0] 40 (0, 0)) (by (with_reducible repeat (first | refine blk_drewN ?_ _ | refine blk_drew ?_ | refine blk_alloc ?_ _)); exact BK421.out) hb)
            have n4_ := Aside0.mk (below_step (by repeat (first | (with_reducible first | exact HB.out | apply below_alloc | apply pw_below_drewN | apply below_drew1 | refine below_set ?_ GE420.out | refine below_set ?_ GE421.out) | exact HB.out)) hb)
            clear HO_421001
            clear BK420
            clear BK421
            clear HB
            have HO_421001 := n0_
            have HO424 := n1_
            have BK420 := n2_
            have BK421 := n3_
            have HB := n4_
            clear n0_ n1_ n2_ n3_ n4_
            (try clear hb)
            (try clear hb2)
            (try clear hk)
            (try clear hi)
            (try clear ho0)
            obtain ⟨Ao17, co17, eo17⟩ := Kd.R_slice HO424.out
            (first | subst eo17 | (injection eo17 with f1_ f2_ f3_; have f4_ := f1_.symm; have f5_ := f3_.symm; clear f1_ f2_ f3_; subst f4_; subst f5_))
            refine hK.out _ _ ⟨(blk_cell BK420.out 0).trans rfl, (blk_cell BK420.out 1).trans rfl, (blk_cell BK420.out 2).trans rfl⟩ (fun hHeld => ?_)
            clear hK K
            refine norm_ (a' := ?_) ?_ ?_
            rotate_left
            · show Act.put _ (some 18) _ = _
              simp only [Act.put, List.setIfInBounds_toArray, List.set_cons_zero, List.set_cons_succ, i64_w, i32_w]
              rfl
            refine two_ (i := 7) (j := 13) (Ni := some 19) (Nj := some 5) #[true, true, true, true, true, true, true, true, false, true, true, true, false, false, false] #[true, true, true, true, true, true, true, false, false, true, true, true, false, true, false] rfl rfl rfl rfl (two_of HT_.out (by kernel_rfl)) (by decide) (by decide) (fun K hK => ?_) (fun K hK => ?_)
            · skip
              refine goes_ Tryd.func12 (by kernel_rfl) rfl #[.slice Ao14 x421001_1.length co14, .slice Ao17 t422.length co17] (by rfl) rfl rfl (by (try simp only [List.map_toArray, List.map_cons, List.map_nil]); first | done | rfl | (simp only [List.length_drop, List.length_take]; rfl)) ?_
              with_reducible refine (spec_NatMul.calls k1 _ _ x421001_1 _ _ t422 t425 _ ?side1 ?side2 ?side3 ?side4 A8.out).mono ?_
              (case side1 => repeat (first | exact (Kd.V_reads' HO_421001.out).2.2 | (with_reducible refine Kd.C_alloc ?_ _) | (with_reducible refine Kd.C_drewN ?_ _) | (with_reducible refine Kd.C_drew ?_)))
              (case side2 => exact (Kd.V_reads' HO_421001.out).2.1)
              (case side3 => repeat (first | exact (Kd.R_reads' HO424.out).2.2 | (with_reducible refine Kd.C_alloc ?_ _) | (with_reducible refine Kd.C_drewN ?_ _) | (with_reducible refine Kd.C_drew ?_)))
              (case side4 => exact (Kd.R_reads' HO424.out).2.1)
              rintro e w18 ⟨v426, rfl, ho0, hb⟩
              refine ⟨_, rfl, ?_⟩
              have n0_ := Aside0.mk (Kd.V_below (by (with_reducible repeat (first | apply Kd.V_alloc | apply Kd.V_drewN | apply Kd.V_drew)); exact HO_421001.out) hb)
              have n1_ := Aside0.mk (Kd.R_below (by (with_reducible repeat (first | apply Kd.R_alloc | apply Kd.R_drewN | apply Kd.R_drew)); exact HO424.out) hb)
              have n2_ := Aside0.mk (Kd.V_lower (Kd.V_mono (ok' := fun k_ => (P0_1_ k_ ∨ w.heap.size ≤ k_) ∧ some k_ ≠ (.slice Ao17 t422.length co17 : Value).ownBlock ∧ k_ ≠ gb420 ∧ k_ ≠ gb421) ho0 (fun k_ hk_ => ⟨(.inr (Nat.le_trans (below_size (by repeat (first | (with_reducible first | exact HB.out | apply below_alloc | apply pw_below_drewN | apply below_drew1 | refine below_set ?_ GE420.out | refine below_set ?_ GE421.out) | exact HB.out))) hk_)), (Kd.fresh' (Kd.R_lt (by (with_reducible repeat (first | apply Kd.R_alloc | apply Kd.R_drewN | apply Kd.R_drew)); exact HO424.out)) k_ hk_), (Kd.freshB (g := gb420) (o := .cells #[.bool x421000_1, .slice Ao14 x421001_1.length co14, .int .i64 x421002_1] 40 (0, 0)) (by (with_reducible repeat (first | refine blk_drewN ?_ _ | refine blk_drew ?_ | refine blk_alloc ?_ _)); exact BK420.out) k_ hk_), (Kd.freshB (g := gb421) (o := .cells #[.bool false, .slice none 0 0, .int .i64 0] 40 (0, 0)) (by (with_reducible repeat (first | refine blk_drewN ?_ _ | refine blk_drew ?_ | refine blk_alloc ?_ _)); exact BK421.out) k_ hk_)⟩)) (below_size (by repeat (first | (with_reducible first | exact HB.out | apply below_alloc | apply pw_below_drewN | apply below_drew1 | refine below_set ?_ GE420.out | refine below_set ?_ GE421.out) | exact HB.out))))
              have n3_ := Aside0.mk (blk_below (g := gb420) (o := .cells #[.bool x421000_1, .slice Ao14 x421001_1.length co14, .int .i64 x421002_1] 40 (0, 0)) (by (with_reducible repeat (first | refine blk_drewN ?_ _ | refine blk_drew ?_ | refine blk_alloc ?_ _)); exact BK420.out) hb)
              have n4_ := Aside0.mk (blk_below (g := gb421) (o := .cells #[.bool false, .slice none 0 0, .int .i64 0] 40 (0, 0)) (by (with_reducible repeat (first | refine blk_drewN ?_ _ | refine blk_drew ?_ | refine blk_alloc ?_ _)); exact BK421.out) hb)
              have n5_ := Aside0.mk (below_step (by repeat (first | (with_reducible first | exact HB.out | apply below_alloc | apply pw_below_drewN | apply below_drew1 | refine below_set ?_ GE420.out | refine below_set ?_ GE421.out) | exact HB.out)) hb)
              clear HO_421001
              clear HO424
              clear BK420
              clear BK421
              clear HB
              have HO_421001 := n0_
              have HO424 := n1_
              have HO427 := n2_
              have BK420 := n3_
              have BK421 := n4_
              have HB := n5_
              clear n0_ n1_ n2_ n3_ n4_ n5_
              (try clear hb)
              (try clear hb2)
              (try clear hk)
              (try clear hi)
              (try clear ho0)
              obtain ⟨Ao19, co19, eo19⟩ := Kd.V_slice HO427.out
              (first | subst eo19 | (injection eo19 with f1_ f2_ f3_; have f4_ := f1_.symm; have f5_ := f3_.symm; clear f1_ f2_ f3_; subst f4_; subst f5_))
              refine hK.out _ _ ⟨(blk_cell BK420.out 0).trans rfl, (blk_cell BK420.out 1).trans rfl, (blk_cell BK420.out 2).trans rfl⟩ (fun hHeld => ?_)
              clear hK K
              refine norm_ (a' := ?_) ?_ ?_
              rotate_left
              · show Act.put _ (some 19) _ = _
                simp only [Act.put, List.setIfInBounds_toArray, List.set_cons_zero, List.set_cons_succ, i64_w, i32_w]
                rfl
              refine two_ (i := 8) (j := 13) (Ni := some 20) (Nj := some 5) #[true, true, true, true, true, true, true, true, true, true, true, true, false, false, false] #[true, true, true, true, true, true, true, true, false, true, true, true, false, true, false] rfl rfl rfl rfl (two_of HT_.out (by kernel_rfl)) (by decide) (by decide) (fun K hK => ?_) (fun K hK => ?_)
              · skip
                refine goes_ Tryd.func34 (by kernel_rfl) rfl #[.bool x421000_1, .slice Ao19 t425.length co19] (by rfl) rfl rfl (by (try simp only [List.map_toArray, List.map_cons, List.map_nil]); first | done | rfl | (simp only [List.length_drop, List.length_take]; rfl)) ?_
                with_reducible refine (spec_wholeOf.calls x421000_1 (fun k_ => ((P0_1_ k_ ∨ w.heap.size ≤ k_) ∧ (some k_ ≠ (.slice Ao17 t422.length co17 : Value).ownBlock ∧ (k_ ≠ gb420 ∧ k_ ≠ gb421)))) _ _ t425 t428 t429 _ ?side1 A9.out).mono ?_
                (case side1 => exact HO427.out)
                rintro e w20 ⟨v430, rfl, ho0, hb⟩
                refine ⟨_, rfl, ?_⟩
                have n0_ := Aside0.mk (Kd.V_below (by (with_reducible repeat (first | apply Kd.V_alloc | apply Kd.V_drewN | apply Kd.V_drew)); exact HO_421001.out) hb)
                have n1_ := Aside0.mk (Kd.R_below (by (with_reducible repeat (first | apply Kd.R_alloc | apply Kd.R_drewN | apply Kd.R_drew)); exact HO424.out) hb)
                have n2_ := Aside0.mk (Kd.V_below (by (with_reducible repeat (first | apply Kd.V_alloc | apply Kd.V_drewN | apply Kd.V_drew)); exact HO427.out) hb)
                have n3_ := Aside0.mk (Kd.V_lower (Kd.V_mono (ok' := fun k_ => (P0_1_ k_ ∨ w.heap.size ≤ k_) ∧ some k_ ≠ (.slice Ao17 t422.length co17 : Value).ownBlock ∧ k_ ≠ gb420 ∧ k_ ≠ gb421) ho0 (fun k_ hk_ => ⟨Or.elim hk_ (fun hs_ => hs_.1) (fun hn_ => (.inr (Nat.le_trans (below_size (by repeat (first | (with_reducible first | exact HB.out | apply below_alloc | apply pw_below_drewN | apply below_drew1 | refine below_set ?_ GE420.out | refine below_set ?_ GE421.out) | exact HB.out))) hn_))), Or.elim hk_ (fun hs_ => hs_.2.1) (fun hn_ => (Kd.fresh' (Kd.R_lt (by (with_reducible repeat (first | apply Kd.R_alloc | apply Kd.R_drewN | apply Kd.R_drew)); exact HO424.out)) k_ hn_)), Or.elim hk_ (fun hs_ => hs_.2.2.1) (fun hn_ => (Kd.freshB (g := gb420) (o := .cells #[.bool x421000_1, .slice Ao14 x421001_1.length co14, .int .i64 x421002_1] 40 (0, 0)) (by (with_reducible repeat (first | refine blk_drewN ?_ _ | refine blk_drew ?_ | refine blk_alloc ?_ _)); exact BK420.out) k_ hn_)), Or.elim hk_ (fun hs_ => hs_.2.2.2) (fun hn_ => (Kd.freshB (g := gb421) (o := .cells #[.bool false, .slice none 0 0, .int .i64 0] 40 (0, 0)) (by (with_reducible repeat (first | refine blk_drewN ?_ _ | refine blk_drew ?_ | refine blk_alloc ?_ _)); exact BK421.out) k_ hn_))⟩)) (below_size (by repeat (first | (with_reducible first | exact HB.out | apply below_alloc | apply pw_below_drewN | apply below_drew1 | refine below_set ?_ GE420.out | refine below_set ?_ GE421.out) | exact HB.out))))
                have n4_ := Aside0.mk (blk_below (g := gb420) (o := .cells #[.bool x421000_1, .slice Ao14 x421001_1.length co14, .int .i64 x421002_1] 40 (0, 0)) (by (with_reducible repeat (first | refine blk_drewN ?_ _ | refine blk_drew ?_ | refine blk_alloc ?_ _)); exact BK420.out) hb)
                have n5_ := Aside0.mk (blk_below (g := gb421) (o := .cells #[.bool false, .slice none 0 0, .int .i64 0] 40 (0, 0)) (by (with_reducible repeat (first | refine blk_drewN ?_ _ | refine blk_drew ?_ | refine blk_alloc ?_ _)); exact BK421.out) hb)
                have n6_ := Aside0.mk (below_step (by repeat (first | (with_reducible first | exact HB.out | apply below_alloc | apply pw_below_drewN | apply below_drew1 | refine below_set ?_ GE420.out | refine below_set ?_ GE421.out) | exact HB.out)) hb)
                clear HO_421001
                clear HO424
                clear HO427
                clear BK420
                clear BK421
                clear HB
                have HO_421001 := n0_
                have HO424 := n1_
                have HO427 := n2_
                have HO431 := n3_
                have BK420 := n4_
                have BK421 := n5_
                have HB := n6_
                clear n0_ n1_ n2_ n3_ n4_ n5_ n6_
                (try clear hb)
                (try clear hb2)
                (try clear hk)
                (try clear hi)
                (try clear ho0)
                obtain ⟨Ao21, co21, eo21⟩ := Kd.V_slice HO431.out
                (first | subst eo21 | (injection eo21 with f1_ f2_ f3_; have f4_ := f1_.symm; have f5_ := f3_.symm; clear f1_ f2_ f3_; subst f4_; subst f5_))
                refine hK.out _ _ ⟨(blk_cell BK420.out 0).trans rfl, (blk_cell BK420.out 1).trans rfl, (blk_cell BK420.out 2).trans rfl⟩ (fun hHeld => ?_)
                clear hK K
                refine norm_ (a' := ?_) ?_ ?_
                rotate_left
                · show Act.put _ (some 20) _ = _
                  simp only [Act.put, List.setIfInBounds_toArray, List.set_cons_zero, List.set_cons_succ, i64_w, i32_w]
                  rfl
                refine pure_ (i := 12) (N := some 24) (v := ?_) (a' := ?_) #[true, true, true, true, true, true, true, true, true, true, true, true, true, false, false] rfl rfl (any_of HT_.out (by kernel_rfl)) (fun _ _ _ h => h) (Or.inl ⟨by rfl, ?_⟩) ?_ ?_
                rotate_left
                · intro w'
                  go_simp
                  with_reducible rfl
                rotate_left
                · simp only [Act.put, List.setIfInBounds_toArray, List.set_cons_zero, List.set_cons_succ, i64_w, i32_w]
                  rfl
                refine one_ (i := 13) (N := some 5) #[true, true, true, true, true, true, true, true, true, true, true, true, true, true, false] rfl rfl (one_of HT_.out (by kernel_rfl)) (by decide) (fun K hK => ?_)
                refine box_step ?hg (N := 5) ?hd (cs := #[.bool false, .slice none 0 0, .int .i64 0]) (t := 40) ?hr ?_; (case hd => rfl); (case hg => rfl); (case hr => first | (go_simp; done) | (go_simp; rfl))
                intro gb432 hg w22 hbox hb
                have n0_ := Aside0.mk (Kd.V_below (Kd.V_elderB (by (with_reducible repeat (first | apply Kd.V_alloc | apply Kd.V_drewN | apply Kd.V_drew)); exact HO_421001.out) gb432 (Nat.le_of_eq hg.symm)) hb)
                have n1_ := Aside0.mk (Kd.R_below (by (with_reducible repeat (first | apply Kd.R_alloc | apply Kd.R_drewN | apply Kd.R_drew)); exact HO424.out) hb)
                have n2_ := Aside0.mk (Kd.V_below (Kd.V_elderB (by (with_reducible repeat (first | apply Kd.V_alloc | apply Kd.V_drewN | apply Kd.V_drew)); exact HO427.out) gb432 (Nat.le_of_eq hg.symm)) hb)
                have n3_ := Aside0.mk (Kd.V_below (Kd.V_elderB (by (with_reducible repeat (first | apply Kd.V_alloc | apply Kd.V_drewN | apply Kd.V_drew)); exact HO431.out) gb432 (Nat.le_of_eq hg.symm)) hb)
                have n4_ := Aside0.mk (blk_below (g := gb420) (o := .cells #[.bool x421000_1, .slice Ao14 x421001_1.length co14, .int .i64 x421002_1] 40 (0, 0)) (by (with_reducible repeat (first | refine blk_drewN ?_ _ | refine blk_drew ?_ | refine blk_alloc ?_ _)); exact BK420.out) hb)
                have n5_ := Aside0.mk (blk_below (g := gb421) (o := .cells #[.bool false, .slice none 0 0, .int .i64 0] 40 (0, 0)) (by (with_reducible repeat (first | refine blk_drewN ?_ _ | refine blk_drew ?_ | refine blk_alloc ?_ _)); exact BK421.out) hb)
                have n6_ := Aside0.mk (below_step (by repeat (first | (with_reducible first | exact HB.out | apply below_alloc | apply pw_below_drewN | apply below_drew1 | refine below_set ?_ GE420.out | refine below_set ?_ GE421.out) | exact HB.out)) hb)
                have n7_ := Aside0.mk (hbox)
                have n8_ := Aside0.mk ((by rw [hg]; exact (below_size (by repeat (first | (with_reducible first | exact HB.out | apply below_alloc | apply pw_below_drewN | apply below_drew1 | refine below_set ?_ GE420.out | refine below_set ?_ GE421.out) | exact HB.out))) : w.heap.size ≤ gb432))
                have n9_ := Aside0.mk ((by rw [hg]; exact (below_size (by repeat (first | (with_reducible first | exact HB.out | apply below_alloc | apply pw_below_drewN | apply below_drew1 | refine below_set ?_ GE420.out | refine below_set ?_ GE421.out) | exact HB.out))) : w.heap.size ≤ gb432))
                have n10_ := Aside0.mk ((by rw [hg]; exact Nat.ne_of_lt (blk_lt (g := gb420) (o := .cells #[.bool x421000_1, .slice Ao14 x421001_1.length co14, .int .i64 x421002_1] 40 (0, 0)) (by (with_reducible repeat (first | refine blk_drewN ?_ _ | refine blk_drew ?_ | refine blk_alloc ?_ _)); exact BK420.out)) : gb420 ≠ gb432))
                have n11_ := Aside0.mk ((by rw [hg]; exact Nat.ne_of_gt (blk_lt (g := gb420) (o := .cells #[.bool x421000_1, .slice Ao14 x421001_1.length co14, .int .i64 x421002_1] 40 (0, 0)) (by (with_reducible repeat (first | refine blk_drewN ?_ _ | refine blk_drew ?_ | refine blk_alloc ?_ _)); exact BK420.out)) : gb432 ≠ gb420))
                have n12_ := Aside0.mk ((by rw [hg]; exact Nat.ne_of_lt (blk_lt (g := gb421) (o := .cells #[.bool false, .slice none 0 0, .int .i64 0] 40 (0, 0)) (by (with_reducible repeat (first | refine blk_drewN ?_ _ | refine blk_drew ?_ | refine blk_alloc ?_ _)); exact BK421.out)) : gb421 ≠ gb432))
                have n13_ := Aside0.mk ((by rw [hg]; exact Nat.ne_of_gt (blk_lt (g := gb421) (o := .cells #[.bool false, .slice none 0 0, .int .i64 0] 40 (0, 0)) (by (with_reducible repeat (first | refine blk_drewN ?_ _ | refine blk_drew ?_ | refine blk_alloc ?_ _)); exact BK421.out)) : gb432 ≠ gb421))
                clear HO_421001
                clear HO424
                clear HO427
                clear HO431
                clear BK420
                clear BK421
                clear HB
                have HO_421001 := n0_
                have HO424 := n1_
                have HO427 := n2_
                have HO431 := n3_
                have BK420 := n4_
                have BK421 := n5_
                have HB := n6_
                have BK432 := n7_
                have GW432 := n8_
                have GE432 := n9_
                have NB420_432 := n10_
                have NB432_420 := n11_
                have NB421_432 := n12_
                have NB432_421 := n13_
                clear n0_ n1_ n2_ n3_ n4_ n5_ n6_ n7_ n8_ n9_ n10_ n11_ n12_ n13_
                clear hb hbox hg
                refine hK.out _ _ ⟨(blk_cell BK420.out 0).trans rfl, (blk_cell BK420.out 1).trans rfl, (blk_cell BK420.out 2).trans rfl⟩ (fun hHeld => ?_)
                clear hK K
                refine norm_ (a' := ?_) ?_ ?_
                rotate_left
                · show Act.put _ (some 5) _ = _
                  simp only [Act.put, List.setIfInBounds_toArray, List.set_cons_zero, List.set_cons_succ, i64_w, i32_w]
                  rfl
                exact norm_ (by simp only [putAll, Act.put, List.setIfInBounds_toArray, List.set_cons_zero, List.set_cons_succ]) (hCont (.slice Ao17 t422.length co17, .slice Ao19 t425.length co19, .slice Ao21 t429.length co21, gb432) _ ⟨hHeld, (by (with_reducible repeat (first | apply Kd.R_alloc | apply Kd.R_drewN | apply Kd.R_drew)); exact Kd.R_mono HO424.out (fun _ hk => hk.1)), (by (with_reducible repeat (first | apply Kd.V_alloc | apply Kd.V_drewN | apply Kd.V_drew)); exact Kd.V_mono HO427.out (fun _ hk => ⟨hk.1.1, ⟨hk.1.2.1, ⟨hk.1.2.2.1, ⟨hk.1.2.2.2, hk.2⟩⟩⟩⟩)), (by (with_reducible repeat (first | apply Kd.V_alloc | apply Kd.V_drewN | apply Kd.V_drew)); exact Kd.V_mono HO431.out (fun _ hk => ⟨hk.1.1, ⟨hk.1.2.1, ⟨hk.1.2.2.1, ⟨hk.1.2.2.2, hk.2⟩⟩⟩⟩)), (by (with_reducible repeat (first | apply Kd.V_alloc | apply Kd.V_drewN | apply Kd.V_drew)); exact Kd.V_mono HO_421001.out (fun _ hk => ⟨hk.1.1.1, ⟨hk.1.2, ⟨hk.1.1.2.1, ⟨hk.1.1.2.2, hk.2⟩⟩⟩⟩)), (by (with_reducible repeat (first | refine blk_drewN ?_ _ | refine blk_drew ?_ | refine blk_alloc ?_ _)); exact BK420.out), (by (with_reducible repeat (first | refine blk_drewN ?_ _ | refine blk_drew ?_ | refine blk_alloc ?_ _)); exact BK421.out), (by (with_reducible repeat (first | refine blk_drewN ?_ _ | refine blk_drew ?_ | refine blk_alloc ?_ _)); exact BK432.out), GW432.out, GE432.out, NB420_432.out, NB432_420.out, NB421_432.out, NB432_421.out, (by repeat (first | (with_reducible first | exact HB.out | apply below_alloc | apply pw_below_drewN | apply below_drew1 | refine below_set ?_ GE420.out | refine below_set ?_ GE421.out | refine below_set ?_ GE432.out) | exact HB.out))⟩)
              · skip
                refine box_step ?hg (N := 5) ?hd (cs := #[.bool false, .slice none 0 0, .int .i64 0]) (t := 40) ?hr ?_; (case hd => rfl); (case hg => rfl); (case hr => first | (go_simp; done) | (go_simp; rfl))
                intro gb432 hg w19 hbox hb
                have n0_ := Aside0.mk (Kd.V_below (Kd.V_elderB (by (with_reducible repeat (first | apply Kd.V_alloc | apply Kd.V_drewN | apply Kd.V_drew)); exact HO_421001.out) gb432 (Nat.le_of_eq hg.symm)) hb)
                have n1_ := Aside0.mk (Kd.R_below (by (with_reducible repeat (first | apply Kd.R_alloc | apply Kd.R_drewN | apply Kd.R_drew)); exact HO424.out) hb)
                have n2_ := Aside0.mk (Kd.V_below (Kd.V_elderB (by (with_reducible repeat (first | apply Kd.V_alloc | apply Kd.V_drewN | apply Kd.V_drew)); exact HO427.out) gb432 (Nat.le_of_eq hg.symm)) hb)
                have n3_ := Aside0.mk (blk_below (g := gb420) (o := .cells #[.bool x421000_1, .slice Ao14 x421001_1.length co14, .int .i64 x421002_1] 40 (0, 0)) (by (with_reducible repeat (first | refine blk_drewN ?_ _ | refine blk_drew ?_ | refine blk_alloc ?_ _)); exact BK420.out) hb)
                have n4_ := Aside0.mk (blk_below (g := gb421) (o := .cells #[.bool false, .slice none 0 0, .int .i64 0] 40 (0, 0)) (by (with_reducible repeat (first | refine blk_drewN ?_ _ | refine blk_drew ?_ | refine blk_alloc ?_ _)); exact BK421.out) hb)
                have n5_ := Aside0.mk (below_step (by repeat (first | (with_reducible first | exact HB.out | apply below_alloc | apply pw_below_drewN | apply below_drew1 | refine below_set ?_ GE420.out | refine below_set ?_ GE421.out) | exact HB.out)) hb)
                have n6_ := Aside0.mk (hbox)
                have n7_ := Aside0.mk ((by rw [hg]; exact (below_size (by repeat (first | (with_reducible first | exact HB.out | apply below_alloc | apply pw_below_drewN | apply below_drew1 | refine below_set ?_ GE420.out | refine below_set ?_ GE421.out) | exact HB.out))) : w.heap.size ≤ gb432))
                have n8_ := Aside0.mk ((by rw [hg]; exact (below_size (by repeat (first | (with_reducible first | exact HB.out | apply below_alloc | apply pw_below_drewN | apply below_drew1 | refine below_set ?_ GE420.out | refine below_set ?_ GE421.out) | exact HB.out))) : w.heap.size ≤ gb432))
                have n9_ := Aside0.mk ((by rw [hg]; exact Nat.ne_of_lt (blk_lt (g := gb420) (o := .cells #[.bool x421000_1, .slice Ao14 x421001_1.length co14, .int .i64 x421002_1] 40 (0, 0)) (by (with_reducible repeat (first | refine blk_drewN ?_ _ | refine blk_drew ?_ | refine blk_alloc ?_ _)); exact BK420.out)) : gb420 ≠ gb432))
                have n10_ := Aside0.mk ((by rw [hg]; exact Nat.ne_of_gt (blk_lt (g := gb420) (o := .cells #[.bool x421000_1, .slice Ao14 x421001_1.length co14, .int .i64 x421002_1] 40 (0, 0)) (by (with_reducible repeat (first | refine blk_drewN ?_ _ | refine blk_drew ?_ | refine blk_alloc ?_ _)); exact BK420.out)) : gb432 ≠ gb420))
                have n11_ := Aside0.mk ((by rw [hg]; exact Nat.ne_of_lt (blk_lt (g := gb421) (o := .cells #[.bool false, .slice none 0 0, .int .i64 0] 40 (0, 0)) (by (with_reducible repeat (first | refine blk_drewN ?_ _ | refine blk_drew ?_ | refine blk_alloc ?_ _)); exact BK421.out)) : gb421 ≠ gb432))
                have n12_ := Aside0.mk ((by rw [hg]; exact Nat.ne_of_gt (blk_lt (g := gb421) (o := .cells #[.bool false, .slice none 0 0, .int .i64 0] 40 (0, 0)) (by (with_reducible repeat (first | refine blk_drewN ?_ _ | refine blk_drew ?_ | refine blk_alloc ?_ _)); exact BK421.out)) : gb432 ≠ gb421))
                clear HO_421001
                clear HO424
                clear HO427
                clear BK420
                clear BK421
                clear HB
                have HO_421001 := n0_
                have HO424 := n1_
                have HO427 := n2_
                have BK420 := n3_
                have BK421 := n4_
                have HB := n5_
                have BK432 := n6_
                have GW432 := n7_
                have GE432 := n8_
                have NB420_432 := n9_
                have NB432_420 := n10_
                have NB421_432 := n11_
                have NB432_421 := n12_
                clear n0_ n1_ n2_ n3_ n4_ n5_ n6_ n7_ n8_ n9_ n10_ n11_ n12_
                clear hb hbox hg
                obtain ⟨Ao20, co20, eo20⟩ := Kd.V_slice HO427.out
                (first | subst eo20 | (injection eo20 with f1_ f2_ f3_; have f4_ := f1_.symm; have f5_ := f3_.symm; clear f1_ f2_ f3_; subst f4_; subst f5_))
                refine hK.out _ _ ⟨(blk_cell BK420.out 0).trans rfl, (blk_cell BK420.out 1).trans rfl, (blk_cell BK420.out 2).trans rfl⟩ (fun hHeld => ?_)
                clear hK K
                refine norm_ (a' := ?_) ?_ ?_
                rotate_left
                · show Act.put _ (some 5) _ = _
                  simp only [Act.put, List.setIfInBounds_toArray, List.set_cons_zero, List.set_cons_succ, i64_w, i32_w]
                  rfl
                refine one_ (i := 8) (N := some 20) #[true, true, true, true, true, true, true, true, true, true, true, true, false, true, false] rfl rfl (one_of HT_.out (by kernel_rfl)) (by decide) (fun K hK => ?_)
                refine goes_ Tryd.func34 (by kernel_rfl) rfl #[.bool x421000_1, .slice Ao20 t425.length co20] (by rfl) rfl rfl (by (try simp only [List.map_toArray, List.map_cons, List.map_nil]); first | done | rfl | (simp only [List.length_drop, List.length_take]; rfl)) ?_
                with_reducible refine (spec_wholeOf.calls x421000_1 (fun k_ => (((P0_1_ k_ ∨ w.heap.size ≤ k_) ∧ (some k_ ≠ (.slice Ao17 t422.length co17 : Value).ownBlock ∧ (k_ ≠ gb420 ∧ k_ ≠ gb421))) ∧ k_ ≠ gb432)) _ _ t425 t428 t429 _ ?side1 A9.out).mono ?_
                (case side1 => exact HO427.out)
                rintro e w21 ⟨v430, rfl, ho0, hb⟩
                refine ⟨_, rfl, ?_⟩
                have n0_ := Aside0.mk (Kd.V_below (by (with_reducible repeat (first | apply Kd.V_alloc | apply Kd.V_drewN | apply Kd.V_drew)); exact HO_421001.out) hb)
                have n1_ := Aside0.mk (Kd.R_below (by (with_reducible repeat (first | apply Kd.R_alloc | apply Kd.R_drewN | apply Kd.R_drew)); exact HO424.out) hb)
                have n2_ := Aside0.mk (Kd.V_below (by (with_reducible repeat (first | apply Kd.V_alloc | apply Kd.V_drewN | apply Kd.V_drew)); exact HO427.out) hb)
                have n3_ := Aside0.mk (Kd.V_lower (Kd.V_mono (ok' := fun k_ => (P0_1_ k_ ∨ w.heap.size ≤ k_) ∧ some k_ ≠ (.slice Ao17 t422.length co17 : Value).ownBlock ∧ k_ ≠ gb420 ∧ k_ ≠ gb421 ∧ k_ ≠ gb432) ho0 (fun k_ hk_ => ⟨Or.elim hk_ (fun hs_ => hs_.1.1) (fun hn_ => (.inr (Nat.le_trans (below_size (by repeat (first | (with_reducible first | exact HB.out | apply below_alloc | apply pw_below_drewN | apply below_drew1 | refine below_set ?_ GE420.out | refine below_set ?_ GE421.out | refine below_set ?_ GE432.out) | exact HB.out))) hn_))), Or.elim hk_ (fun hs_ => hs_.1.2.1) (fun hn_ => (Kd.fresh' (Kd.R_lt (by (with_reducible repeat (first | apply Kd.R_alloc | apply Kd.R_drewN | apply Kd.R_drew)); exact HO424.out)) k_ hn_)), Or.elim hk_ (fun hs_ => hs_.1.2.2.1) (fun hn_ => (Kd.freshB (g := gb420) (o := .cells #[.bool x421000_1, .slice Ao14 x421001_1.length co14, .int .i64 x421002_1] 40 (0, 0)) (by (with_reducible repeat (first | refine blk_drewN ?_ _ | refine blk_drew ?_ | refine blk_alloc ?_ _)); exact BK420.out) k_ hn_)), Or.elim hk_ (fun hs_ => hs_.1.2.2.2) (fun hn_ => (Kd.freshB (g := gb421) (o := .cells #[.bool false, .slice none 0 0, .int .i64 0] 40 (0, 0)) (by (with_reducible repeat (first | refine blk_drewN ?_ _ | refine blk_drew ?_ | refine blk_alloc ?_ _)); exact BK421.out) k_ hn_)), Or.elim hk_ (fun hs_ => hs_.2) (fun hn_ => (Kd.freshB (g := gb432) (o := .cells #[.bool false, .slice none 0 0, .int .i64 0] 40 (0, 0)) (by (with_reducible repeat (first | refine blk_drewN ?_ _ | refine blk_drew ?_ | refine blk_alloc ?_ _)); exact BK432.out) k_ hn_))⟩)) (below_size (by repeat (first | (with_reducible first | exact HB.out | apply below_alloc | apply pw_below_drewN | apply below_drew1 | refine below_set ?_ GE420.out | refine below_set ?_ GE421.out | refine below_set ?_ GE432.out) | exact HB.out))))
                have n4_ := Aside0.mk (blk_below (g := gb420) (o := .cells #[.bool x421000_1, .slice Ao14 x421001_1.length co14, .int .i64 x421002_1] 40 (0, 0)) (by (with_reducible repeat (first | refine blk_drewN ?_ _ | refine blk_drew ?_ | refine blk_alloc ?_ _)); exact BK420.out) hb)
                have n5_ := Aside0.mk (blk_below (g := gb421) (o := .cells #[.bool false, .slice none 0 0, .int .i64 0] 40 (0, 0)) (by (with_reducible repeat (first | refine blk_drewN ?_ _ | refine blk_drew ?_ | refine blk_alloc ?_ _)); exact BK421.out) hb)
                have n6_ := Aside0.mk (blk_below (g := gb432) (o := .cells #[.bool false, .slice none 0 0, .int .i64 0] 40 (0, 0)) (by (with_reducible repeat (first | refine blk_drewN ?_ _ | refine blk_drew ?_ | refine blk_alloc ?_ _)); exact BK432.out) hb)
                have n7_ := Aside0.mk (below_step (by repeat (first | (with_reducible first | exact HB.out | apply below_alloc | apply pw_below_drewN | apply below_drew1 | refine below_set ?_ GE420.out | refine below_set ?_ GE421.out | refine below_set ?_ GE432.out) | exact HB.out)) hb)
                clear HO_421001
                clear HO424
                clear HO427
                clear BK420
                clear BK421
                clear BK432
                clear HB
                have HO_421001 := n0_
                have HO424 := n1_
                have HO427 := n2_
                have HO431 := n3_
                have BK420 := n4_
                have BK421 := n5_
                have BK432 := n6_
                have HB := n7_
                clear n0_ n1_ n2_ n3_ n4_ n5_ n6_ n7_
                (try clear hb)
                (try clear hb2)
                (try clear hk)
                (try clear hi)
                (try clear ho0)
                obtain ⟨Ao22, co22, eo22⟩ := Kd.V_slice HO431.out
                (first | subst eo22 | (injection eo22 with f1_ f2_ f3_; have f4_ := f1_.symm; have f5_ := f3_.symm; clear f1_ f2_ f3_; subst f4_; subst f5_))
                refine hK.out _ _ ⟨(blk_cell BK420.out 0).trans rfl, (blk_cell BK420.out 1).trans rfl, (blk_cell BK420.out 2).trans rfl⟩ (fun hHeld => ?_)
                clear hK K
                refine norm_ (a' := ?_) ?_ ?_
                rotate_left
                · show Act.put _ (some 20) _ = _
                  simp only [Act.put, List.setIfInBounds_toArray, List.set_cons_zero, List.set_cons_succ, i64_w, i32_w]
                  rfl
                refine pure_ (i := 12) (N := some 24) (v := ?_) (a' := ?_) #[true, true, true, true, true, true, true, true, true, true, true, true, true, true, false] rfl rfl (any_of HT_.out (by kernel_rfl)) (fun _ _ _ h => h) (Or.inl ⟨by rfl, ?_⟩) ?_ ?_
                rotate_left
                · intro w'
                  go_simp
                  with_reducible rfl
                rotate_left
                · simp only [Act.put, List.setIfInBounds_toArray, List.set_cons_zero, List.set_cons_succ, i64_w, i32_w]
                  rfl
                exact norm_ (by simp only [putAll, Act.put, List.setIfInBounds_toArray, List.set_cons_zero, List.set_cons_succ]) (hCont (.slice Ao17 t422.length co17, .slice Ao20 t425.length co20, .slice Ao22 t429.length co22, gb432) _ ⟨hHeld, (by (with_reducible repeat (first | apply Kd.R_alloc | apply Kd.R_drewN | apply Kd.R_drew)); exact Kd.R_mono HO424.out (fun _ hk => hk.1)), (by (with_reducible repeat (first | apply Kd.V_alloc | apply Kd.V_drewN | apply Kd.V_drew)); exact Kd.V_mono HO427.out (fun _ hk => ⟨hk.1.1, ⟨hk.1.2.1, ⟨hk.1.2.2.1, ⟨hk.1.2.2.2, hk.2⟩⟩⟩⟩)), (by (with_reducible repeat (first | apply Kd.V_alloc | apply Kd.V_drewN | apply Kd.V_drew)); exact HO431.out), (by (with_reducible repeat (first | apply Kd.V_alloc | apply Kd.V_drewN | apply Kd.V_drew)); exact Kd.V_mono HO_421001.out (fun _ hk => ⟨hk.1.1.1, ⟨hk.1.2, ⟨hk.1.1.2.1, ⟨hk.1.1.2.2, hk.2⟩⟩⟩⟩)), (by (with_reducible repeat (first | refine blk_drewN ?_ _ | refine blk_drew ?_ | refine blk_alloc ?_ _)); exact BK420.out), (by (with_reducible repeat (first | refine blk_drewN ?_ _ | refine blk_drew ?_ | refine blk_alloc ?_ _)); exact BK421.out), (by (with_reducible repeat (first | refine blk_drewN ?_ _ | refine blk_drew ?_ | refine blk_alloc ?_ _)); exact BK432.out), GW432.out, GE432.out, NB420_432.out, NB432_420.out, NB421_432.out, NB432_421.out, (by repeat (first | (with_reducible first | exact HB.out | apply below_alloc | apply pw_below_drewN | apply below_drew1 | refine below_set ?_ GE420.out | refine below_set ?_ GE421.out | refine below_set ?_ GE432.out) | exact HB.out))⟩)
            · skip
              refine box_step ?hg (N := 5) ?hd (cs := #[.bool false, .slice none 0 0, .int .i64 0]) (t := 40) ?hr ?_; (case hd => rfl); (case hg => rfl); (case hr => first | (go_simp; done) | (go_simp; rfl))
              intro gb432 hg w17 hbox hb
              have n0_ := Aside0.mk (Kd.V_below (Kd.V_elderB (by (with_reducible repeat (first | apply Kd.V_alloc | apply Kd.V_drewN | apply Kd.V_drew)); exact HO_421001.out) gb432 (Nat.le_of_eq hg.symm)) hb)
              have n1_ := Aside0.mk (Kd.R_below (by (with_reducible repeat (first | apply Kd.R_alloc | apply Kd.R_drewN | apply Kd.R_drew)); exact HO424.out) hb)
              have n2_ := Aside0.mk (blk_below (g := gb420) (o := .cells #[.bool x421000_1, .slice Ao14 x421001_1.length co14, .int .i64 x421002_1] 40 (0, 0)) (by (with_reducible repeat (first | refine blk_drewN ?_ _ | refine blk_drew ?_ | refine blk_alloc ?_ _)); exact BK420.out) hb)
              have n3_ := Aside0.mk (blk_below (g := gb421) (o := .cells #[.bool false, .slice none 0 0, .int .i64 0] 40 (0, 0)) (by (with_reducible repeat (first | refine blk_drewN ?_ _ | refine blk_drew ?_ | refine blk_alloc ?_ _)); exact BK421.out) hb)
              have n4_ := Aside0.mk (below_step (by repeat (first | (with_reducible first | exact HB.out | apply below_alloc | apply pw_below_drewN | apply below_drew1 | refine below_set ?_ GE420.out | refine below_set ?_ GE421.out) | exact HB.out)) hb)
              have n5_ := Aside0.mk (hbox)
              have n6_ := Aside0.mk ((by rw [hg]; exact (below_size (by repeat (first | (with_reducible first | exact HB.out | apply below_alloc | apply pw_below_drewN | apply below_drew1 | refine below_set ?_ GE420.out | refine below_set ?_ GE421.out) | exact HB.out))) : w.heap.size ≤ gb432))
              have n7_ := Aside0.mk ((by rw [hg]; exact (below_size (by repeat (first | (with_reducible first | exact HB.out | apply below_alloc | apply pw_below_drewN | apply below_drew1 | refine below_set ?_ GE420.out | refine below_set ?_ GE421.out) | exact HB.out))) : w.heap.size ≤ gb432))
              have n8_ := Aside0.mk ((by rw [hg]; exact Nat.ne_of_lt (blk_lt (g := gb420) (o := .cells #[.bool x421000_1, .slice Ao14 x421001_1.length co14, .int .i64 x421002_1] 40 (0, 0)) (by (with_reducible repeat (first | refine blk_drewN ?_ _ | refine blk_drew ?_ | refine blk_alloc ?_ _)); exact BK420.out)) : gb420 ≠ gb432))
              have n9_ := Aside0.mk ((by rw [hg]; exact Nat.ne_of_gt (blk_lt (g := gb420) (o := .cells #[.bool x421000_1, .slice Ao14 x421001_1.length co14, .int .i64 x421002_1] 40 (0, 0)) (by (with_reducible repeat (first | refine blk_drewN ?_ _ | refine blk_drew ?_ | refine blk_alloc ?_ _)); exact BK420.out)) : gb432 ≠ gb420))
              have n10_ := Aside0.mk ((by rw [hg]; exact Nat.ne_of_lt (blk_lt (g := gb421) (o := .cells #[.bool false, .slice none 0 0, .int .i64 0] 40 (0, 0)) (by (with_reducible repeat (first | refine blk_drewN ?_ _ | refine blk_drew ?_ | refine blk_alloc ?_ _)); exact BK421.out)) : gb421 ≠ gb432))
              have n11_ := Aside0.mk ((by rw [hg]; exact Nat.ne_of_gt (blk_lt (g := gb421) (o := .cells #[.bool false, .slice none 0 0, .int .i64 0] 40 (0, 0)) (by (with_reducible repeat (first | refine blk_drewN ?_ _ | refine blk_drew ?_ | refine blk_alloc ?_ _)); exact BK421.out)) : gb432 ≠ gb421))
              clear HO_421001
              clear HO424
              clear BK420
              clear BK421
              clear HB
              have HO_421001 := n0_
              have HO424 := n1_
              have BK420 := n2_
              have BK421 := n3_
              have HB := n4_
              have BK432 := n5_
              have GW432 := n6_
              have GE432 := n7_
              have NB420_432 := n8_
              have NB432_420 := n9_
              have NB421_432 := n10_
              have NB432_421 := n11_
              clear n0_ n1_ n2_ n3_ n4_ n5_ n6_ n7_ n8_ n9_ n10_ n11_
              clear hb hbox hg
              obtain ⟨Ao18, co18, eo18⟩ := Kd.R_slice HO424.out
              (first | subst eo18 | (injection eo18 with f1_ f2_ f3_; have f4_ := f1_.symm; have f5_ := f3_.symm; clear f1_ f2_ f3_; subst f4_; subst f5_))
              refine hK.out _ _ ⟨(blk_cell BK420.out 0).trans rfl, (blk_cell BK420.out 1).trans rfl, (blk_cell BK420.out 2).trans rfl⟩ (fun hHeld => ?_)
              clear hK K
              refine norm_ (a' := ?_) ?_ ?_
              rotate_left
              · show Act.put _ (some 5) _ = _
                simp only [Act.put, List.setIfInBounds_toArray, List.set_cons_zero, List.set_cons_succ, i64_w, i32_w]
                rfl
              refine one_ (i := 7) (N := some 19) #[true, true, true, true, true, true, true, true, false, true, true, true, false, true, false] rfl rfl (one_of HT_.out (by kernel_rfl)) (by decide) (fun K hK => ?_)
              refine goes_ Tryd.func12 (by kernel_rfl) rfl #[.slice Ao14 x421001_1.length co14, .slice Ao18 t422.length co18] (by rfl) rfl rfl (by (try simp only [List.map_toArray, List.map_cons, List.map_nil]); first | done | rfl | (simp only [List.length_drop, List.length_take]; rfl)) ?_
              with_reducible refine (spec_NatMul.calls k1 _ _ x421001_1 _ _ t422 t425 _ ?side1 ?side2 ?side3 ?side4 A8.out).mono ?_
              (case side1 => repeat (first | exact (Kd.V_reads' HO_421001.out).2.2 | (with_reducible refine Kd.C_alloc ?_ _) | (with_reducible refine Kd.C_drewN ?_ _) | (with_reducible refine Kd.C_drew ?_)))
              (case side2 => exact (Kd.V_reads' HO_421001.out).2.1)
              (case side3 => repeat (first | exact (Kd.R_reads' HO424.out).2.2 | (with_reducible refine Kd.C_alloc ?_ _) | (with_reducible refine Kd.C_drewN ?_ _) | (with_reducible refine Kd.C_drew ?_)))
              (case side4 => exact (Kd.R_reads' HO424.out).2.1)
              rintro e w19 ⟨v426, rfl, ho0, hb⟩
              refine ⟨_, rfl, ?_⟩
              have n0_ := Aside0.mk (Kd.V_below (by (with_reducible repeat (first | apply Kd.V_alloc | apply Kd.V_drewN | apply Kd.V_drew)); exact HO_421001.out) hb)
              have n1_ := Aside0.mk (Kd.R_below (by (with_reducible repeat (first | apply Kd.R_alloc | apply Kd.R_drewN | apply Kd.R_drew)); exact HO424.out) hb)
              have n2_ := Aside0.mk (Kd.V_lower (Kd.V_mono (ok' := fun k_ => (P0_1_ k_ ∨ w.heap.size ≤ k_) ∧ some k_ ≠ (.slice Ao18 t422.length co18 : Value).ownBlock ∧ k_ ≠ gb420 ∧ k_ ≠ gb421 ∧ k_ ≠ gb432) ho0 (fun k_ hk_ => ⟨(.inr (Nat.le_trans (below_size (by repeat (first | (with_reducible first | exact HB.out | apply below_alloc | apply pw_below_drewN | apply below_drew1 | refine below_set ?_ GE420.out | refine below_set ?_ GE421.out | refine below_set ?_ GE432.out) | exact HB.out))) hk_)), (Kd.fresh' (Kd.R_lt (by (with_reducible repeat (first | apply Kd.R_alloc | apply Kd.R_drewN | apply Kd.R_drew)); exact HO424.out)) k_ hk_), (Kd.freshB (g := gb420) (o := .cells #[.bool x421000_1, .slice Ao14 x421001_1.length co14, .int .i64 x421002_1] 40 (0, 0)) (by (with_reducible repeat (first | refine blk_drewN ?_ _ | refine blk_drew ?_ | refine blk_alloc ?_ _)); exact BK420.out) k_ hk_), (Kd.freshB (g := gb421) (o := .cells #[.bool false, .slice none 0 0, .int .i64 0] 40 (0, 0)) (by (with_reducible repeat (first | refine blk_drewN ?_ _ | refine blk_drew ?_ | refine blk_alloc ?_ _)); exact BK421.out) k_ hk_), (Kd.freshB (g := gb432) (o := .cells #[.bool false, .slice none 0 0, .int .i64 0] 40 (0, 0)) (by (with_reducible repeat (first | refine blk_drewN ?_ _ | refine blk_drew ?_ | refine blk_alloc ?_ _)); exact BK432.out) k_ hk_)⟩)) (below_size (by repeat (first | (with_reducible first | exact HB.out | apply below_alloc | apply pw_below_drewN | apply below_drew1 | refine below_set ?_ GE420.out | refine below_set ?_ GE421.out | refine below_set ?_ GE432.out) | exact HB.out))))
              have n3_ := Aside0.mk (blk_below (g := gb420) (o := .cells #[.bool x421000_1, .slice Ao14 x421001_1.length co14, .int .i64 x421002_1] 40 (0, 0)) (by (with_reducible repeat (first | refine blk_drewN ?_ _ | refine blk_drew ?_ | refine blk_alloc ?_ _)); exact BK420.out) hb)
              have n4_ := Aside0.mk (blk_below (g := gb421) (o := .cells #[.bool false, .slice none 0 0, .int .i64 0] 40 (0, 0)) (by (with_reducible repeat (first | refine blk_drewN ?_ _ | refine blk_drew ?_ | refine blk_alloc ?_ _)); exact BK421.out) hb)
              have n5_ := Aside0.mk (blk_below (g := gb432) (o := .cells #[.bool false, .slice none 0 0, .int .i64 0] 40 (0, 0)) (by (with_reducible repeat (first | refine blk_drewN ?_ _ | refine blk_drew ?_ | refine blk_alloc ?_ _)); exact BK432.out) hb)
              have n6_ := Aside0.mk (below_step (by repeat (first | (with_reducible first | exact HB.out | apply below_alloc | apply pw_below_drewN | apply below_drew1 | refine below_set ?_ GE420.out | refine below_set ?_ GE421.out | refine below_set ?_ GE432.out) | exact HB.out)) hb)
              clear HO_421001
              clear HO424
              clear BK420
              clear BK421
              clear BK432
              clear HB
              have HO_421001 := n0_
              have HO424 := n1_
              have HO427 := n2_
              have BK420 := n3_
              have BK421 := n4_
              have BK432 := n5_
              have HB := n6_
              clear n0_ n1_ n2_ n3_ n4_ n5_ n6_
              (try clear hb)
              (try clear hb2)
              (try clear hk)
              (try clear hi)
              (try clear ho0)
              obtain ⟨Ao20, co20, eo20⟩ := Kd.V_slice HO427.out
              (first | subst eo20 | (injection eo20 with f1_ f2_ f3_; have f4_ := f1_.symm; have f5_ := f3_.symm; clear f1_ f2_ f3_; subst f4_; subst f5_))
              refine hK.out _ _ ⟨(blk_cell BK420.out 0).trans rfl, (blk_cell BK420.out 1).trans rfl, (blk_cell BK420.out 2).trans rfl⟩ (fun hHeld => ?_)
              clear hK K
              refine norm_ (a' := ?_) ?_ ?_
              rotate_left
              · show Act.put _ (some 19) _ = _
                simp only [Act.put, List.setIfInBounds_toArray, List.set_cons_zero, List.set_cons_succ, i64_w, i32_w]
                rfl
              refine one_ (i := 8) (N := some 20) #[true, true, true, true, true, true, true, true, true, true, true, true, false, true, false] rfl rfl (one_of HT_.out (by kernel_rfl)) (by decide) (fun K hK => ?_)
              refine goes_ Tryd.func34 (by kernel_rfl) rfl #[.bool x421000_1, .slice Ao20 t425.length co20] (by rfl) rfl rfl (by (try simp only [List.map_toArray, List.map_cons, List.map_nil]); first | done | rfl | (simp only [List.length_drop, List.length_take]; rfl)) ?_
              with_reducible refine (spec_wholeOf.calls x421000_1 (fun k_ => ((P0_1_ k_ ∨ w.heap.size ≤ k_) ∧ (some k_ ≠ (.slice Ao18 t422.length co18 : Value).ownBlock ∧ (k_ ≠ gb420 ∧ (k_ ≠ gb421 ∧ k_ ≠ gb432))))) _ _ t425 t428 t429 _ ?side1 A9.out).mono ?_
              (case side1 => exact HO427.out)
              rintro e w21 ⟨v430, rfl, ho0, hb⟩
              refine ⟨_, rfl, ?_⟩
              have n0_ := Aside0.mk (Kd.V_below (by (with_reducible repeat (first | apply Kd.V_alloc | apply Kd.V_drewN | apply Kd.V_drew)); exact HO_421001.out) hb)
              have n1_ := Aside0.mk (Kd.R_below (by (with_reducible repeat (first | apply Kd.R_alloc | apply Kd.R_drewN | apply Kd.R_drew)); exact HO424.out) hb)
              have n2_ := Aside0.mk (Kd.V_below (by (with_reducible repeat (first | apply Kd.V_alloc | apply Kd.V_drewN | apply Kd.V_drew)); exact HO427.out) hb)
              have n3_ := Aside0.mk (Kd.V_lower (Kd.V_mono (ok' := fun k_ => (P0_1_ k_ ∨ w.heap.size ≤ k_) ∧ some k_ ≠ (.slice Ao18 t422.length co18 : Value).ownBlock ∧ k_ ≠ gb420 ∧ k_ ≠ gb421 ∧ k_ ≠ gb432) ho0 (fun k_ hk_ => ⟨Or.elim hk_ (fun hs_ => hs_.1) (fun hn_ => (.inr (Nat.le_trans (below_size (by repeat (first | (with_reducible first | exact HB.out | apply below_alloc | apply pw_below_drewN | apply below_drew1 | refine below_set ?_ GE420.out | refine below_set ?_ GE421.out | refine below_set ?_ GE432.out) | exact HB.out))) hn_))), Or.elim hk_ (fun hs_ => hs_.2.1) (fun hn_ => (Kd.fresh' (Kd.R_lt (by (with_reducible repeat (first | apply Kd.R_alloc | apply Kd.R_drewN | apply Kd.R_drew)); exact HO424.out)) k_ hn_)), Or.elim hk_ (fun hs_ => hs_.2.2.1) (fun hn_ => (Kd.freshB (g := gb420) (o := .cells #[.bool x421000_1, .slice Ao14 x421001_1.length co14, .int .i64 x421002_1] 40 (0, 0)) (by (with_reducible repeat (first | refine blk_drewN ?_ _ | refine blk_drew ?_ | refine blk_alloc ?_ _)); exact BK420.out) k_ hn_)), Or.elim hk_ (fun hs_ => hs_.2.2.2.1) (fun hn_ => (Kd.freshB (g := gb421) (o := .cells #[.bool false, .slice none 0 0, .int .i64 0] 40 (0, 0)) (by (with_reducible repeat (first | refine blk_drewN ?_ _ | refine blk_drew ?_ | refine blk_alloc ?_ _)); exact BK421.out) k_ hn_)), Or.elim hk_ (fun hs_ => hs_.2.2.2.2) (fun hn_ => (Kd.freshB (g := gb432) (o := .cells #[.bool false, .slice none 0 0, .int .i64 0] 40 (0, 0)) (by (with_reducible repeat (first | refine blk_drewN ?_ _ | refine blk_drew ?_ | refine blk_alloc ?_ _)); exact BK432.out) k_ hn_))⟩)) (below_size (by repeat (first | (with_reducible first | exact HB.out | apply below_alloc | apply pw_below_drewN | apply below_drew1 | refine below_set ?_ GE420.out | refine below_set ?_ GE421.out | refine below_set ?_ GE432.out) | exact HB.out))))
              have n4_ := Aside0.mk (blk_below (g := gb420) (o := .cells #[.bool x421000_1, .slice Ao14 x421001_1.length co14, .int .i64 x421002_1] 40 (0, 0)) (by (with_reducible repeat (first | refine blk_drewN ?_ _ | refine blk_drew ?_ | refine blk_alloc ?_ _)); exact BK420.out) hb)
              have n5_ := Aside0.mk (blk_below (g := gb421) (o := .cells #[.bool false, .slice none 0 0, .int .i64 0] 40 (0, 0)) (by (with_reducible repeat (first | refine blk_drewN ?_ _ | refine blk_drew ?_ | refine blk_alloc ?_ _)); exact BK421.out) hb)
              have n6_ := Aside0.mk (blk_below (g := gb432) (o := .cells #[.bool false, .slice none 0 0, .int .i64 0] 40 (0, 0)) (by (with_reducible repeat (first | refine blk_drewN ?_ _ | refine blk_drew ?_ | refine blk_alloc ?_ _)); exact BK432.out) hb)
              have n7_ := Aside0.mk (below_step (by repeat (first | (with_reducible first | exact HB.out | apply below_alloc | apply pw_below_drewN | apply below_drew1 | refine below_set ?_ GE420.out | refine below_set ?_ GE421.out | refine below_set ?_ GE432.out) | exact HB.out)) hb)
              clear HO_421001
              clear HO424
              clear HO427
              clear BK420
              clear BK421
              clear BK432
              clear HB
              have HO_421001 := n0_
              have HO424 := n1_
              have HO427 := n2_
              have HO431 := n3_
              have BK420 := n4_
              have BK421 := n5_
              have BK432 := n6_
              have HB := n7_
              clear n0_ n1_ n2_ n3_ n4_ n5_ n6_ n7_
              (try clear hb)
              (try clear hb2)
              (try clear hk)
              (try clear hi)
              (try clear ho0)
              obtain ⟨Ao22, co22, eo22⟩ := Kd.V_slice HO431.out
              (first | subst eo22 | (injection eo22 with f1_ f2_ f3_; have f4_ := f1_.symm; have f5_ := f3_.symm; clear f1_ f2_ f3_; subst f4_; subst f5_))
              refine hK.out _ _ ⟨(blk_cell BK420.out 0).trans rfl, (blk_cell BK420.out 1).trans rfl, (blk_cell BK420.out 2).trans rfl⟩ (fun hHeld => ?_)
              clear hK K
              refine norm_ (a' := ?_) ?_ ?_
              rotate_left
              · show Act.put _ (some 20) _ = _
                simp only [Act.put, List.setIfInBounds_toArray, List.set_cons_zero, List.set_cons_succ, i64_w, i32_w]
                rfl
              refine pure_ (i := 12) (N := some 24) (v := ?_) (a' := ?_) #[true, true, true, true, true, true, true, true, true, true, true, true, true, true, false] rfl rfl (any_of HT_.out (by kernel_rfl)) (fun _ _ _ h => h) (Or.inl ⟨by rfl, ?_⟩) ?_ ?_
              rotate_left
              · intro w'
                go_simp
                with_reducible rfl
              rotate_left
              · simp only [Act.put, List.setIfInBounds_toArray, List.set_cons_zero, List.set_cons_succ, i64_w, i32_w]
                rfl
              exact norm_ (by simp only [putAll, Act.put, List.setIfInBounds_toArray, List.set_cons_zero, List.set_cons_succ]) (hCont (.slice Ao18 t422.length co18, .slice Ao20 t425.length co20, .slice Ao22 t429.length co22, gb432) _ ⟨hHeld, (by (with_reducible repeat (first | apply Kd.R_alloc | apply Kd.R_drewN | apply Kd.R_drew)); exact Kd.R_mono HO424.out (fun _ hk => hk.1)), (by (with_reducible repeat (first | apply Kd.V_alloc | apply Kd.V_drewN | apply Kd.V_drew)); exact HO427.out), (by (with_reducible repeat (first | apply Kd.V_alloc | apply Kd.V_drewN | apply Kd.V_drew)); exact HO431.out), (by (with_reducible repeat (first | apply Kd.V_alloc | apply Kd.V_drewN | apply Kd.V_drew)); exact Kd.V_mono HO_421001.out (fun _ hk => ⟨hk.1.1.1, ⟨hk.1.2, ⟨hk.1.1.2.1, ⟨hk.1.1.2.2, hk.2⟩⟩⟩⟩)), (by (with_reducible repeat (first | refine blk_drewN ?_ _ | refine blk_drew ?_ | refine blk_alloc ?_ _)); exact BK420.out), (by (with_reducible repeat (first | refine blk_drewN ?_ _ | refine blk_drew ?_ | refine blk_alloc ?_ _)); exact BK421.out), (by (with_reducible repeat (first | refine blk_drewN ?_ _ | refine blk_drew ?_ | refine blk_alloc ?_ _)); exact BK432.out), GW432.out, GE432.out, NB420_432.out, NB432_420.out, NB421_432.out, NB432_421.out, (by repeat (first | (with_reducible first | exact HB.out | apply below_alloc | apply pw_below_drewN | apply below_drew1 | refine below_set ?_ GE420.out | refine below_set ?_ GE421.out | refine below_set ?_ GE432.out) | exact HB.out))⟩)
          · skip
            refine box_step ?hg (N := 5) ?hd (cs := #[.bool false, .slice none 0 0, .int .i64 0]) (t := 40) ?hr ?_; (case hd => rfl); (case hg => rfl); (case hr => first | (go_simp; done) | (go_simp; rfl))
            intro gb432 hg w16 hbox hb
            have n0_ := Aside0.mk (Kd.V_below (Kd.V_elderB (by (with_reducible repeat (first | apply Kd.V_alloc | apply Kd.V_drewN | apply Kd.V_drew)); exact HO_421001.out) gb432 (Nat.le_of_eq hg.symm)) hb)
            have n1_ := Aside0.mk (blk_below (g := gb420) (o := .cells #[.bool x421000_1, .slice Ao14 x421001_1.length co14, .int .i64 x421002_1] 40 (0, 0)) (by (with_reducible repeat (first | refine blk_drewN ?_ _ | refine blk_drew ?_ | refine blk_alloc ?_ _)); exact BK420.out) hb)
            have n2_ := Aside0.mk (blk_below (g := gb421) (o := .cells #[.bool false, .slice none 0 0, .int .i64 0] 40 (0, 0)) (by (with_reducible repeat (first | refine blk_drewN ?_ _ | refine blk_drew ?_ | refine blk_alloc ?_ _)); exact BK421.out) hb)
            have n3_ := Aside0.mk (below_step (by repeat (first | (with_reducible first | exact HB.out | apply below_alloc | apply pw_below_drewN | apply below_drew1 | refine below_set ?_ GE420.out | refine below_set ?_ GE421.out) | exact HB.out)) hb)
            have n4_ := Aside0.mk (hbox)
            have n5_ := Aside0.mk ((by rw [hg]; exact (below_size (by repeat (first | (with_reducible first | exact HB.out | apply below_alloc | apply pw_below_drewN | apply below_drew1 | refine below_set ?_ GE420.out | refine below_set ?_ GE421.out) | exact HB.out))) : w.heap.size ≤ gb432))
            have n6_ := Aside0.mk ((by rw [hg]; exact (below_size (by repeat (first | (with_reducible first | exact HB.out | apply below_alloc | apply pw_below_drewN | apply below_drew1 | refine below_set ?_ GE420.out | refine below_set ?_ GE421.out) | exact HB.out))) : w.heap.size ≤ gb432))
            have n7_ := Aside0.mk ((by rw [hg]; exact Nat.ne_of_lt (blk_lt (g := gb420) (o := .cells #[.bool x421000_1, .slice Ao14 x421001_1.length co14, .int .i64 x421002_1] 40 (0, 0)) (by (with_reducible repeat (first | refine blk_drewN ?_ _ | refine blk_drew ?_ | refine blk_alloc ?_ _)); exact BK420.out)) : gb420 ≠ gb432))
            have n8_ := Aside0.mk ((by rw [hg]; exact Nat.ne_of_gt (blk_lt (g := gb420) (o := .cells #[.bool x421000_1, .slice Ao14 x421001_1.length co14, .int .i64 x421002_1] 40 (0, 0)) (by (with_reducible repeat (first | refine blk_drewN ?_ _ | refine blk_drew ?_ | refine blk_alloc ?_ _)); exact BK420.out)) : gb432 ≠ gb420))
            have n9_ := Aside0.mk ((by rw [hg]; exact Nat.ne_of_lt (blk_lt (g := gb421) (o := .cells #[.bool false, .slice none 0 0, .int .i64 0] 40 (0, 0)) (by (with_reducible repeat (first | refine blk_drewN ?_ _ | refine blk_drew ?_ | refine blk_alloc ?_ _)); exact BK421.out)) : gb421 ≠ gb432))
            have n10_ := Aside0.mk ((by rw [hg]; exact Nat.ne_of_gt (blk_lt (g := gb421) (o := .cells #[.bool false, .slice none 0 0, .int .i64 0] 40 (0, 0)) (by (with_reducible repeat (first | refine blk_drewN ?_ _ | refine blk_drew ?_ | refine blk_alloc ?_ _)); exact BK421.out)) : gb432 ≠ gb421))
            clear HO_421001
            clear BK420
            clear BK421
            clear HB
            have HO_421001 := n0_
            have BK420 := n1_
            have BK421 := n2_
            have HB := n3_
            have BK432 := n4_
            have GW432 := n5_
            have GE432 := n6_
            have NB420_432 := n7_
            have NB432_420 := n8_
            have NB421_432 := n9_
            have NB432_421 := n10_
            clear n0_ n1_ n2_ n3_ n4_ n5_ n6_ n7_ n8_ n9_ n10_
            clear hb hbox hg
            refine hK.out _ _ ⟨(blk_cell BK420.out 0).trans rfl, (blk_cell BK420.out 1).trans rfl, (blk_cell BK420.out 2).trans rfl⟩ (fun hHeld => ?_)
            clear hK K
            refine norm_ (a' := ?_) ?_ ?_
            rotate_left
            · show Act.put _ (some 5) _ = _
              simp only [Act.put, List.setIfInBounds_toArray, List.set_cons_zero, List.set_cons_succ, i64_w, i32_w]
              rfl
            refine one_ (i := 6) (N := some 18) #[true, true, true, true, true, true, true, false, false, true, true, true, false, true, false] rfl rfl (one_of HT_.out (by kernel_rfl)) (by decide) (fun K hK => ?_)
            refine goes_ Tryd.func13 (by kernel_rfl) rfl #[.int .u64 10] (by rfl) rfl rfl (by (try simp only [List.map_toArray, List.map_cons, List.map_nil]); first | done | rfl | (simp only [List.length_drop, List.length_take]; rfl)) ?_
            with_reducible refine (spec_NatFrom.calls k1 10 t422 _ A7.out).mono ?_
            rintro e w17 ⟨v423, rfl, ho0, hb⟩
            refine ⟨_, rfl, ?_⟩
            have n0_ := Aside0.mk (Kd.V_elder' (by (with_reducible repeat (first | apply Kd.V_alloc | apply Kd.V_drewN | apply Kd.V_drew)); exact HO_421001.out) (Kd.R_base ho0) hb)
            have n1_ := Aside0.mk (Kd.R_lower (Kd.R_newM (M := fun k_ => (w.heap.size ≤ k_)) ho0 (below_size (by repeat (first | (with_reducible first | exact HB.out | apply below_alloc | apply pw_below_drewN | apply below_drew1 | refine below_set ?_ GE420.out | refine below_set ?_ GE421.out | refine below_set ?_ GE432.out) | exact HB.out))) (fun k_ h_ => h_)) (below_size (by repeat (first | (with_reducible first | exact HB.out | apply below_alloc | apply pw_below_drewN | apply below_drew1 | refine below_set ?_ GE420.out | refine below_set ?_ GE421.out | refine below_set ?_ GE432.out) | exact HB.out))))
            have n2_ := Aside0.mk (blk_below (g := gb420) (o := .cells #[.bool x421000_1, .slice Ao14 x421001_1.length co14, .int .i64 x421002_1] 40 (0, 0)) (by (with_reducible repeat (first | refine blk_drewN ?_ _ | refine blk_drew ?_ | refine blk_alloc ?_ _)); exact BK420.out) hb)
            have n3_ := Aside0.mk (blk_below (g := gb421) (o := .cells #[.bool false, .slice none 0 0, .int .i64 0] 40 (0, 0)) (by (with_reducible repeat (first | refine blk_drewN ?_ _ | refine blk_drew ?_ | refine blk_alloc ?_ _)); exact BK421.out) hb)
            have n4_ := Aside0.mk (blk_below (g := gb432) (o := .cells #[.bool false, .slice none 0 0, .int .i64 0] 40 (0, 0)) (by (with_reducible repeat (first | refine blk_drewN ?_ _ | refine blk_drew ?_ | refine blk_alloc ?_ _)); exact BK432.out) hb)
            have n5_ := Aside0.mk (below_step (by repeat (first | (with_reducible first | exact HB.out | apply below_alloc | apply pw_below_drewN | apply below_drew1 | refine below_set ?_ GE420.out | refine below_set ?_ GE421.out | refine below_set ?_ GE432.out) | exact HB.out)) hb)
            clear HO_421001
            clear BK420
            clear BK421
            clear BK432
            clear HB
            have HO_421001 := n0_
            have HO424 := n1_
            have BK420 := n2_
            have BK421 := n3_
            have BK432 := n4_
            have HB := n5_
            clear n0_ n1_ n2_ n3_ n4_ n5_
            (try clear hb)
            (try clear hb2)
            (try clear hk)
            (try clear hi)
            (try clear ho0)
            obtain ⟨Ao18, co18, eo18⟩ := Kd.R_slice HO424.out
            (first | subst eo18 | (injection eo18 with f1_ f2_ f3_; have f4_ := f1_.symm; have f5_ := f3_.symm; clear f1_ f2_ f3_; subst f4_; subst f5_))
            refine hK.out _ _ ⟨(blk_cell BK420.out 0).trans rfl, (blk_cell BK420.out 1).trans rfl, (blk_cell BK420.out 2).trans rfl⟩ (fun hHeld => ?_)
            clear hK K
            refine norm_ (a' := ?_) ?_ ?_
            rotate_left
            · show Act.put _ (some 18) _ = _
              simp only [Act.put, List.setIfInBounds_toArray, List.set_cons_zero, List.set_cons_succ, i64_w, i32_w]
              rfl
            refine one_ (i := 7) (N := some 19) #[true, true, true, true, true, true, true, true, false, true, true, true, false, true, false] rfl rfl (one_of HT_.out (by kernel_rfl)) (by decide) (fun K hK => ?_)
            refine goes_ Tryd.func12 (by kernel_rfl) rfl #[.slice Ao14 x421001_1.length co14, .slice Ao18 t422.length co18] (by rfl) rfl rfl (by (try simp only [List.map_toArray, List.map_cons, List.map_nil]); first | done | rfl | (simp only [List.length_drop, List.length_take]; rfl)) ?_
            with_reducible refine (spec_NatMul.calls k1 _ _ x421001_1 _ _ t422 t425 _ ?side1 ?side2 ?side3 ?side4 A8.out).mono ?_
            (case side1 => repeat (first | exact (Kd.V_reads' HO_421001.out).2.2 | (with_reducible refine Kd.C_alloc ?_ _) | (with_reducible refine Kd.C_drewN ?_ _) | (with_reducible refine Kd.C_drew ?_)))
            (case side2 => exact (Kd.V_reads' HO_421001.out).2.1)
            (case side3 => repeat (first | exact (Kd.R_reads' HO424.out).2.2 | (with_reducible refine Kd.C_alloc ?_ _) | (with_reducible refine Kd.C_drewN ?_ _) | (with_reducible refine Kd.C_drew ?_)))
            (case side4 => exact (Kd.R_reads' HO424.out).2.1)
            rintro e w19 ⟨v426, rfl, ho0, hb⟩
            refine ⟨_, rfl, ?_⟩
            have n0_ := Aside0.mk (Kd.V_below (by (with_reducible repeat (first | apply Kd.V_alloc | apply Kd.V_drewN | apply Kd.V_drew)); exact HO_421001.out) hb)
            have n1_ := Aside0.mk (Kd.R_below (by (with_reducible repeat (first | apply Kd.R_alloc | apply Kd.R_drewN | apply Kd.R_drew)); exact HO424.out) hb)
            have n2_ := Aside0.mk (Kd.V_lower (Kd.V_mono (ok' := fun k_ => (P0_1_ k_ ∨ w.heap.size ≤ k_) ∧ some k_ ≠ (.slice Ao18 t422.length co18 : Value).ownBlock ∧ k_ ≠ gb420 ∧ k_ ≠ gb421 ∧ k_ ≠ gb432) ho0 (fun k_ hk_ => ⟨(.inr (Nat.le_trans (below_size (by repeat (first | (with_reducible first | exact HB.out | apply below_alloc | apply pw_below_drewN | apply below_drew1 | refine below_set ?_ GE420.out | refine below_set ?_ GE421.out | refine below_set ?_ GE432.out) | exact HB.out))) hk_)), (Kd.fresh' (Kd.R_lt (by (with_reducible repeat (first | apply Kd.R_alloc | apply Kd.R_drewN | apply Kd.R_drew)); exact HO424.out)) k_ hk_), (Kd.freshB (g := gb420) (o := .cells #[.bool x421000_1, .slice Ao14 x421001_1.length co14, .int .i64 x421002_1] 40 (0, 0)) (by (with_reducible repeat (first | refine blk_drewN ?_ _ | refine blk_drew ?_ | refine blk_alloc ?_ _)); exact BK420.out) k_ hk_), (Kd.freshB (g := gb421) (o := .cells #[.bool false, .slice none 0 0, .int .i64 0] 40 (0, 0)) (by (with_reducible repeat (first | refine blk_drewN ?_ _ | refine blk_drew ?_ | refine blk_alloc ?_ _)); exact BK421.out) k_ hk_), (Kd.freshB (g := gb432) (o := .cells #[.bool false, .slice none 0 0, .int .i64 0] 40 (0, 0)) (by (with_reducible repeat (first | refine blk_drewN ?_ _ | refine blk_drew ?_ | refine blk_alloc ?_ _)); exact BK432.out) k_ hk_)⟩)) (below_size (by repeat (first | (with_reducible first | exact HB.out | apply below_alloc | apply pw_below_drewN | apply below_drew1 | refine below_set ?_ GE420.out | refine below_set ?_ GE421.out | refine below_set ?_ GE432.out) | exact HB.out))))
            have n3_ := Aside0.mk (blk_below (g := gb420) (o := .cells #[.bool x421000_1, .slice Ao14 x421001_1.length co14, .int .i64 x421002_1] 40 (0, 0)) (by (with_reducible repeat (first | refine blk_drewN ?_ _ | refine blk_drew ?_ | refine blk_alloc ?_ _)); exact BK420.out) hb)
            have n4_ := Aside0.mk (blk_below (g := gb421) (o := .cells #[.bool false, .slice none 0 0, .int .i64 0] 40 (0, 0)) (by (with_reducible repeat (first | refine blk_drewN ?_ _ | refine blk_drew ?_ | refine blk_alloc ?_ _)); exact BK421.out) hb)
            have n5_ := Aside0.mk (blk_below (g := gb432) (o := .cells #[.bool false, .slice none 0 0, .int .i64 0] 40 (0, 0)) (by (with_reducible repeat (first | refine blk_drewN ?_ _ | refine blk_drew ?_ | refine blk_alloc ?_ _)); exact BK432.out) hb)
            have n6_ := Aside0.mk (below_step (by repeat (first | (with_reducible first | exact HB.out | apply below_alloc | apply pw_below_drewN | apply below_drew1 | refine below_set ?_ GE420.out | refine below_set ?_ GE421.out | refine below_set ?_ GE432.out) | exact HB.out)) hb)
            clear HO_421001
            clear HO424
            clear BK420
            clear BK421
            clear BK432
            clear HB
            have HO_421001 := n0_
            have HO424 := n1_
            have HO427 := n2_
            have BK420 := n3_
            have BK421 := n4_
            have BK432 := n5_
            have HB := n6_
            clear n0_ n1_ n2_ n3_ n4_ n5_ n6_
            (try clear hb)
            (try clear hb2)
            (try clear hk)
            (try clear hi)
            (try clear ho0)
            obtain ⟨Ao20, co20, eo20⟩ := Kd.V_slice HO427.out
            (first | subst eo20 | (injection eo20 with f1_ f2_ f3_; have f4_ := f1_.symm; have f5_ := f3_.symm; clear f1_ f2_ f3_; subst f4_; subst f5_))
            refine hK.out _ _ ⟨(blk_cell BK420.out 0).trans rfl, (blk_cell BK420.out 1).trans rfl, (blk_cell BK420.out 2).trans rfl⟩ (fun hHeld => ?_)
            clear hK K
            refine norm_ (a' := ?_) ?_ ?_
            rotate_left
            · show Act.put _ (some 19) _ = _
              simp only [Act.put, List.setIfInBounds_toArray, List.set_cons_zero, List.set_cons_succ, i64_w, i32_w]
              rfl
            refine one_ (i := 8) (N := some 20) #[true, true, true, true, true, true, true, true, true, true, true, true, false, true, false] rfl rfl (one_of HT_.out (by kernel_rfl)) (by decide) (fun K hK => ?_)
            refine goes_ Tryd.func34 (by kernel_rfl) rfl #[.bool x421000_1, .slice Ao20 t425.length co20] (by rfl) rfl rfl (by (try simp only [List.map_toArray, List.map_cons, List.map_nil]); first | done | rfl | (simp only [List.length_drop, List.length_take]; rfl)) ?_
            with_reducible refine (spec_wholeOf.calls x421000_1 (fun k_ => ((P0_1_ k_ ∨ w.heap.size ≤ k_) ∧ (some k_ ≠ (.slice Ao18 t422.length co18 : Value).ownBlock ∧ (k_ ≠ gb420 ∧ (k_ ≠ gb421 ∧ k_ ≠ gb432))))) _ _ t425 t428 t429 _ ?side1 A9.out).mono ?_
            (case side1 => exact HO427.out)
            rintro e w21 ⟨v430, rfl, ho0, hb⟩
            refine ⟨_, rfl, ?_⟩
            have n0_ := Aside0.mk (Kd.V_below (by (with_reducible repeat (first | apply Kd.V_alloc | apply Kd.V_drewN | apply Kd.V_drew)); exact HO_421001.out) hb)
            have n1_ := Aside0.mk (Kd.R_below (by (with_reducible repeat (first | apply Kd.R_alloc | apply Kd.R_drewN | apply Kd.R_drew)); exact HO424.out) hb)
            have n2_ := Aside0.mk (Kd.V_below (by (with_reducible repeat (first | apply Kd.V_alloc | apply Kd.V_drewN | apply Kd.V_drew)); exact HO427.out) hb)
            have n3_ := Aside0.mk (Kd.V_lower (Kd.V_mono (ok' := fun k_ => (P0_1_ k_ ∨ w.heap.size ≤ k_) ∧ some k_ ≠ (.slice Ao18 t422.length co18 : Value).ownBlock ∧ k_ ≠ gb420 ∧ k_ ≠ gb421 ∧ k_ ≠ gb432) ho0 (fun k_ hk_ => ⟨Or.elim hk_ (fun hs_ => hs_.1) (fun hn_ => (.inr (Nat.le_trans (below_size (by repeat (first | (with_reducible first | exact HB.out | apply below_alloc | apply pw_below_drewN | apply below_drew1 | refine below_set ?_ GE420.out | refine below_set ?_ GE421.out | refine below_set ?_ GE432.out) | exact HB.out))) hn_))), Or.elim hk_ (fun hs_ => hs_.2.1) (fun hn_ => (Kd.fresh' (Kd.R_lt (by (with_reducible repeat (first | apply Kd.R_alloc | apply Kd.R_drewN | apply Kd.R_drew)); exact HO424.out)) k_ hn_)), Or.elim hk_ (fun hs_ => hs_.2.2.1) (fun hn_ => (Kd.freshB (g := gb420) (o := .cells #[.bool x421000_1, .slice Ao14 x421001_1.length co14, .int .i64 x421002_1] 40 (0, 0)) (by (with_reducible repeat (first | refine blk_drewN ?_ _ | refine blk_drew ?_ | refine blk_alloc ?_ _)); exact BK420.out) k_ hn_)), Or.elim hk_ (fun hs_ => hs_.2.2.2.1) (fun hn_ => (Kd.freshB (g := gb421) (o := .cells #[.bool false, .slice none 0 0, .int .i64 0] 40 (0, 0)) (by (with_reducible repeat (first | refine blk_drewN ?_ _ | refine blk_drew ?_ | refine blk_alloc ?_ _)); exact BK421.out) k_ hn_)), Or.elim hk_ (fun hs_ => hs_.2.2.2.2) (fun hn_ => (Kd.freshB (g := gb432) (o := .cells #[.bool false, .slice none 0 0, .int .i64 0] 40 (0, 0)) (by (with_reducible repeat (first | refine blk_drewN ?_ _ | refine blk_drew ?_ | refine blk_alloc ?_ _)); exact BK432.out) k_ hn_))⟩)) (below_size (by repeat (first | (with_reducible first | exact HB.out | apply below_alloc | apply pw_below_drewN | apply below_drew1 | refine below_set ?_ GE420.out | refine below_set ?_ GE421.out | refine below_set ?_ GE432.out) | exact HB.out))))
            have n4_ := Aside0.mk (blk_below (g := gb420) (o := .cells #[.bool x421000_1, .slice Ao14 x421001_1.length co14, .int .i64 x421002_1] 40 (0, 0)) (by (with_reducible repeat (first | refine blk_drewN ?_ _ | refine blk_drew ?_ | refine blk_alloc ?_ _)); exact BK420.out) hb)
            have n5_ := Aside0.mk (blk_below (g := gb421) (o := .cells #[.bool false, .slice none 0 0, .int .i64 0] 40 (0, 0)) (by (with_reducible repeat (first | refine blk_drewN ?_ _ | refine blk_drew ?_ | refine blk_alloc ?_ _)); exact BK421.out) hb)
            have n6_ := Aside0.mk (blk_below (g := gb432) (o := .cells #[.bool false, .slice none 0 0, .int .i64 0] 40 (0, 0)) (by (with_reducible repeat (first | refine blk_drewN ?_ _ | refine blk_drew ?_ | refine blk_alloc ?_ _)); exact BK432.out) hb)
            have n7_ := Aside0.mk (below_step (by repeat (first | (with_reducible first | exact HB.out | apply below_alloc | apply pw_below_drewN | apply below_drew1 | refine below_set ?_ GE420.out | refine below_set ?_ GE421.out | refine below_set ?_ GE432.out) | exact HB.out)) hb)
            clear HO_421001
            clear HO424
            clear HO427
            clear BK420
            clear BK421
            clear BK432
            clear HB
            have HO_421001 := n0_
            have HO424 := n1_
            have HO427 := n2_
            have HO431 := n3_
            have BK420 := n4_
            have BK421 := n5_
            have BK432 := n6_
            have HB := n7_
            clear n0_ n1_ n2_ n3_ n4_ n5_ n6_ n7_
            (try clear hb)
            (try clear hb2)
            (try clear hk)
            (try clear hi)
            (try clear ho0)
            obtain ⟨Ao22, co22, eo22⟩ := Kd.V_slice HO431.out
            (first | subst eo22 | (injection eo22 with f1_ f2_ f3_; have f4_ := f1_.symm; have f5_ := f3_.symm; clear f1_ f2_ f3_; subst f4_; subst f5_))
            refine hK.out _ _ ⟨(blk_cell BK420.out 0).trans rfl, (blk_cell BK420.out 1).trans rfl, (blk_cell BK420.out 2).trans rfl⟩ (fun hHeld => ?_)
            clear hK K
            refine norm_ (a' := ?_) ?_ ?_
            rotate_left
            · show Act.put _ (some 20) _ = _
              simp only [Act.put, List.setIfInBounds_toArray, List.set_cons_zero, List.set_cons_succ, i64_w, i32_w]
              rfl
            refine pure_ (i := 12) (N := some 24) (v := ?_) (a' := ?_) #[true, true, true, true, true, true, true, true, true, true, true, true, true, true, false] rfl rfl (any_of HT_.out (by kernel_rfl)) (fun _ _ _ h => h) (Or.inl ⟨by rfl, ?_⟩) ?_ ?_
            rotate_left
            · intro w'
              go_simp
              with_reducible rfl
            rotate_left
            · simp only [Act.put, List.setIfInBounds_toArray, List.set_cons_zero, List.set_cons_succ, i64_w, i32_w]
              rfl
            exact norm_ (by simp only [putAll, Act.put, List.setIfInBounds_toArray, List.set_cons_zero, List.set_cons_succ]) (hCont (.slice Ao18 t422.length co18, .slice Ao20 t425.length co20, .slice Ao22 t429.length co22, gb432) _ ⟨hHeld, (by (with_reducible repeat (first | apply Kd.R_alloc | apply Kd.R_drewN | apply Kd.R_drew)); exact Kd.R_mono HO424.out (fun _ hk => hk.1)), (by (with_reducible repeat (first | apply Kd.V_alloc | apply Kd.V_drewN | apply Kd.V_drew)); exact HO427.out), (by (with_reducible repeat (first | apply Kd.V_alloc | apply Kd.V_drewN | apply Kd.V_drew)); exact HO431.out), (by (with_reducible repeat (first | apply Kd.V_alloc | apply Kd.V_drewN | apply Kd.V_drew)); exact Kd.V_mono HO_421001.out (fun _ hk => ⟨hk.1.1.1, ⟨hk.2, ⟨hk.1.1.2.1, ⟨hk.1.1.2.2, hk.1.2⟩⟩⟩⟩)), (by (with_reducible repeat (first | refine blk_drewN ?_ _ | refine blk_drew ?_ | refine blk_alloc ?_ _)); exact BK420.out), (by (with_reducible repeat (first | refine blk_drewN ?_ _ | refine blk_drew ?_ | refine blk_alloc ?_ _)); exact BK421.out), (by (with_reducible repeat (first | refine blk_drewN ?_ _ | refine blk_drew ?_ | refine blk_alloc ?_ _)); exact BK432.out), GW432.out, GE432.out, NB420_432.out, NB432_420.out, NB421_432.out, NB432_421.out, (by repeat (first | (with_reducible first | exact HB.out | apply below_alloc | apply pw_below_drewN | apply below_drew1 | refine below_set ?_ GE420.out | refine below_set ?_ GE421.out | refine below_set ?_ GE432.out) | exact HB.out))⟩)
        rintro ⟨v423, v426, v430, gb432⟩ w23 ⟨hS_, h0_, h1_, h2_, h3_, h4_, h5_, h6_, h7_, h8_, h9_, h10_, h11_, h12_, h13_⟩
        have n0_ : Aside0 (Kd.R (Kd.int .u32) 59 w23 w.heap.size (fun k_ => (w.heap.size ≤ k_)) v423 t422) := ⟨h0_⟩
        have n1_ : Aside0 (Kd.V (Kd.int .u32) 59 w23 w.heap.size (fun k_ => (P0_1_ k_ ∨ w.heap.size ≤ k_) ∧ some k_ ≠ (v423 : Value).ownBlock ∧ k_ ≠ gb420 ∧ k_ ≠ gb421 ∧ k_ ≠ gb432) v426 t425) := ⟨h1_⟩
        have n2_ : Aside0 (Kd.V (Kd.int .u32) 59 w23 w.heap.size (fun k_ => (P0_1_ k_ ∨ w.heap.size ≤ k_) ∧ some k_ ≠ (v423 : Value).ownBlock ∧ k_ ≠ gb420 ∧ k_ ≠ gb421 ∧ k_ ≠ gb432) v430 t429) := ⟨h2_⟩
        have n3_ : Aside0 (Kd.V (Kd.int .u32) 59 w23 w.heap.size (fun k_ => (P0_1_ k_ ∨ w.heap.size ≤ k_) ∧ some k_ ≠ (v423 : Value).ownBlock ∧ k_ ≠ gb420 ∧ k_ ≠ gb421 ∧ k_ ≠ gb432) (.slice Ao14 x421001_1.length co14) x421001_1) := ⟨h3_⟩
        have n4_ : Aside0 (w23.heap[gb420]? = some (.cells #[.bool x421000_1, .slice Ao14 x421001_1.length co14, .int .i64 x421002_1] 40 (0, 0))) := ⟨h4_⟩
        have n5_ : Aside0 (w23.heap[gb421]? = some (.cells #[.bool false, .slice none 0 0, .int .i64 0] 40 (0, 0))) := ⟨h5_⟩
        have n6_ : Aside0 (w23.heap[gb432]? = some (.cells #[.bool false, .slice none 0 0, .int .i64 0] 40 (0, 0))) := ⟨h6_⟩
        have n7_ : Aside0 (w.heap.size ≤ gb432) := ⟨h7_⟩
        have n8_ : Aside0 (w.heap.size ≤ gb432) := ⟨h8_⟩
        have n9_ : Aside0 (gb420 ≠ gb432) := ⟨h9_⟩
        have n10_ : Aside0 (gb432 ≠ gb420) := ⟨h10_⟩
        have n11_ : Aside0 (gb421 ≠ gb432) := ⟨h11_⟩
        have n12_ : Aside0 (gb432 ≠ gb421) := ⟨h12_⟩
        have n13_ : Aside0 (Below w.heap.size w w23) := ⟨h13_⟩
        clear HO_421001
        clear BK420
        clear BK421
        clear HB
        clear h0_ h1_ h2_ h3_ h4_ h5_ h6_ h7_ h8_ h9_ h10_ h11_ h12_ h13_
        have HO424 := n0_
        have HO427 := n1_
        have HO431 := n2_
        have HO_421001 := n3_
        have BK420 := n4_
        have BK421 := n5_
        have BK432 := n6_
        have GW432 := n7_
        have GE432 := n8_
        have NB420_432 := n9_
        have NB432_420 := n10_
        have NB421_432 := n11_
        have NB432_421 := n12_
        have HB := n13_
        clear n0_ n1_ n2_ n3_ n4_ n5_ n6_ n7_ n8_ n9_ n10_ n11_ n12_ n13_
        have hHeld : w23.cell? ⟨gb420, 0, none⟩ = some (.bool x421000_1) ∧ w23.cell? ⟨gb420, 1, none⟩ = some (.slice Ao14 x421001_1.length co14) ∧ w23.cell? ⟨gb420, 2, none⟩ = some (.int .i64 x421002_1) := hS_
        obtain ⟨Ao24, co24, eo24⟩ := Kd.V_slice HO431.out
        (first | subst eo24 | (injection eo24 with f1_ f2_ f3_; have f4_ := f1_.symm; have f5_ := f3_.symm; clear f1_ f2_ f3_; subst f4_; subst f5_))
        refine norm_ (a' := ?_) ?_ ?_
        rotate_left
        · simp only [putAll, Act.put, List.setIfInBounds_toArray, List.set_cons_zero, List.set_cons_succ]
          rfl
        refine one_ (i := 14) (N := none) #[true, true, true, true, true, true, true, true, true, true, true, true, true, true, true] rfl rfl (one_of HT_.out (by kernel_rfl)) (by decide) (fun K hK => ?_)
        have hs25 : w23.cell? ⟨gb432, 0, none⟩ = some (.bool false) := (blk_cell BK432.out 0).trans rfl
        have hfs25 := blk_frozen BK432.out 0
        have hns25_0 := NB420_432.out
        have hns25_1 := NB421_432.out
        have hms25_0 := NB432_420.out
        have hms25_1 := NB432_421.out
        have hs26 : w23.cell? ⟨gb432, 1, none⟩ = some (.slice none 0 0) := (blk_cell BK432.out 1).trans rfl
        have hfs26 := blk_frozen BK432.out 1
        have hns26_0 := NB420_432.out
        have hns26_1 := NB421_432.out
        have hms26_0 := NB432_420.out
        have hms26_1 := NB432_421.out
        have hs27 : w23.cell? ⟨gb432, 2, none⟩ = some (.int .i64 0) := (blk_cell BK432.out 2).trans rfl
        have hfs27 := blk_frozen BK432.out 2
        have hns27_0 := NB420_432.out
        have hns27_1 := NB421_432.out
        have hms27_0 := NB432_420.out
        have hms27_1 := NB432_421.out
        refine skip_ (w1 := ?_) (by rfl) rfl ?_ ?_
        rotate_left
        · go_simp
          rfl
        refine hK.out _ _ ⟨((cell_far (p := ⟨gb432, _, none⟩) NB420_432.out _).trans (((cell_far (p := ⟨gb432, _, none⟩) NB420_432.out _).trans (((cell_far (p := ⟨gb432, _, none⟩) NB420_432.out _).trans (hHeld.1)))))), ((cell_far (p := ⟨gb432, _, none⟩) NB420_432.out _).trans (((cell_far (p := ⟨gb432, _, none⟩) NB420_432.out _).trans (((cell_far (p := ⟨gb432, _, none⟩) NB420_432.out _).trans (hHeld.2.1)))))), ((cell_far (p := ⟨gb432, _, none⟩) NB420_432.out _).trans (((cell_far (p := ⟨gb432, _, none⟩) NB420_432.out _).trans (((cell_far (p := ⟨gb432, _, none⟩) NB420_432.out _).trans (hHeld.2.2))))))⟩ (fun hHeld => ?_)
        clear hK K
        refine done_ (done_of HT_.out (by kernel_rfl)) ?_
        have hnb28 := NB432_420.out
        have hnc28 := NB420_432.out
        have hnb29 := NB432_421.out
        have hnc29 := NB421_432.out
        have hcz30_0 : w23.cell? ⟨gb432, 0, none⟩ = some (.bool false) := (blk_cell BK432.out 0).trans rfl
        have hcz30_1 : w23.cell? ⟨gb432, 1, none⟩ = some (.slice none 0 0) := (blk_cell BK432.out 1).trans rfl
        have hcz30_2 : w23.cell? ⟨gb432, 2, none⟩ = some (.int .i64 0) := (blk_cell BK432.out 2).trans rfl
        have hfz30_0 := blk_frozen BK432.out 0
        have hfz30_1 := blk_frozen BK432.out 1
        have hfz30_2 := blk_frozen BK432.out 2
        have H := HH_.out
        clear HH_
        by_cases c11 : t433 > 19
        · rw [if_pos c11] at H
          have c11b0 : decide (19 < t433) = true := decide_eq_true c11
          clear c11
          simp only [Option.some.injEq, Prod.mk.injEq] at H
          obtain ⟨rfl, rfl, rfl⟩ := H
          try go_wp2_with (first | ((with_reducible refine gate_callee (f := 29) rfl ?_); refine goesL_ (some 28) rfl rfl Tryd.func29 (by kernel_rfl) rfl #[.slice Ao24 t429.length co24] rfl (by (try simp only [List.map_toArray, List.map_cons, List.map_nil]); first | done | rfl | (simp only [List.length_drop, List.length_take]; rfl)) ?_; (with_reducible refine (spec_Nat_Digits.calls k1 _ _ t429 t433 _ ?side1 ?side2 A10.out).mono ?_); (case side1 => refine (Kd.V_reads' (e := 59) (base := w.heap.size) (ok := fun k_ => ((P0_1_ k_ ∨ w.heap.size ≤ k_) ∧ (some k_ ≠ (v423 : Value).ownBlock ∧ (k_ ≠ gb420 ∧ (k_ ≠ gb421 ∧ k_ ≠ gb432))))) (n := t429.length) (c := co24) ?_).2.2; exact (by (with_reducible repeat (first | apply Kd.V_alloc | apply Kd.V_drewN | apply Kd.V_drew)); exact (Kd.V_mono (Kd.V_far (p := ⟨gb432, 2, none⟩) (Kd.V_far (p := ⟨gb432, 1, none⟩) (Kd.V_far (p := ⟨gb432, 0, none⟩) (Kd.V_mono HO431.out (fun k_ hk => (⟨hk, hk.2.2.2.2⟩ : _ ∧ k_ ≠ gb432))) (fun _ hk => hk.2) (.bool t428)) (fun _ hk => hk.2) (.slice Ao24 t429.length co24)) (fun _ hk => hk.2) (.int .i64 (wrap64 (x421002_1 - 1)))) (fun _ h_ => h_.1)))); (case side2 => exact (Kd.V_reads' HO431.out).2.1); rintro e w31 ⟨rfl, hb⟩; refine ⟨_, rfl, ?_⟩; have n0_ := Aside0.mk (Kd.V_below (by (with_reducible repeat (first | apply Kd.V_alloc | apply Kd.V_drewN | apply Kd.V_drew)); exact (Kd.V_mono (Kd.V_far (p := ⟨gb432, 2, none⟩) (Kd.V_far (p := ⟨gb432, 1, none⟩) (Kd.V_far (p := ⟨gb432, 0, none⟩) (Kd.V_mono HO_421001.out (fun k_ hk => (⟨hk, hk.2.2.2.2⟩ : _ ∧ k_ ≠ gb432))) (fun _ hk => hk.2) (.bool t428)) (fun _ hk => hk.2) (.slice Ao24 t429.length co24)) (fun _ hk => hk.2) (.int .i64 (wrap64 (x421002_1 - 1)))) (fun _ h_ => h_.1))) hb); have n1_ := Aside0.mk (Kd.R_below (by (with_reducible repeat (first | apply Kd.R_alloc | apply Kd.R_drewN | apply Kd.R_drew)); exact (Kd.R_mono (Kd.R_far (p := ⟨gb432, 2, none⟩) (Kd.R_far (p := ⟨gb432, 1, none⟩) (Kd.R_far (p := ⟨gb432, 0, none⟩) (Kd.R_types HO424.out BK432.out (by decide)) (fun _ hk => hk.2) (.bool t428)) (fun _ hk => hk.2) (.slice Ao24 t429.length co24)) (fun _ hk => hk.2) (.int .i64 (wrap64 (x421002_1 - 1)))) (fun _ h_ => h_.1))) hb); have n2_ := Aside0.mk (Kd.V_below (by (with_reducible repeat (first | apply Kd.V_alloc | apply Kd.V_drewN | apply Kd.V_drew)); exact (Kd.V_mono (Kd.V_far (p := ⟨gb432, 2, none⟩) (Kd.V_far (p := ⟨gb432, 1, none⟩) (Kd.V_far (p := ⟨gb432, 0, none⟩) (Kd.V_mono HO427.out (fun k_ hk => (⟨hk, hk.2.2.2.2⟩ : _ ∧ k_ ≠ gb432))) (fun _ hk => hk.2) (.bool t428)) (fun _ hk => hk.2) (.slice Ao24 t429.length co24)) (fun _ hk => hk.2) (.int .i64 (wrap64 (x421002_1 - 1)))) (fun _ h_ => h_.1))) hb); have n3_ := Aside0.mk (Kd.V_below (by (with_reducible repeat (first | apply Kd.V_alloc | apply Kd.V_drewN | apply Kd.V_drew)); exact (Kd.V_mono (Kd.V_far (p := ⟨gb432, 2, none⟩) (Kd.V_far (p := ⟨gb432, 1, none⟩) (Kd.V_far (p := ⟨gb432, 0, none⟩) (Kd.V_mono HO431.out (fun k_ hk => (⟨hk, hk.2.2.2.2⟩ : _ ∧ k_ ≠ gb432))) (fun _ hk => hk.2) (.bool t428)) (fun _ hk => hk.2) (.slice Ao24 t429.length co24)) (fun _ hk => hk.2) (.int .i64 (wrap64 (x421002_1 - 1)))) (fun _ h_ => h_.1))) hb); have n4_ := Aside0.mk (blk_below (g := gb420) (o := .cells #[.bool x421000_1, .slice Ao14 x421001_1.length co14, .int .i64 x421002_1] 40 (0, 0)) (by (with_reducible repeat (first | refine blk_drewN ?_ _ | refine blk_drew ?_ | refine blk_alloc ?_ _)); refine blk_far ?_ NB420_432.out _; (with_reducible repeat (first | refine blk_drewN ?_ _ | refine blk_drew ?_ | refine blk_alloc ?_ _)); refine blk_far ?_ NB420_432.out _; (with_reducible repeat (first | refine blk_drewN ?_ _ | refine blk_drew ?_ | refine blk_alloc ?_ _)); refine blk_far ?_ NB420_432.out _; (with_reducible repeat (first | refine blk_drewN ?_ _ | refine blk_drew ?_ | refine blk_alloc ?_ _)); exact BK420.out) hb); have n5_ := Aside0.mk (blk_below (g := gb421) (o := .cells #[.bool false, .slice none 0 0, .int .i64 0] 40 (0, 0)) (by (with_reducible repeat (first | refine blk_drewN ?_ _ | refine blk_drew ?_ | refine blk_alloc ?_ _)); refine blk_far ?_ NB421_432.out _; (with_reducible repeat (first | refine blk_drewN ?_ _ | refine blk_drew ?_ | refine blk_alloc ?_ _)); refine blk_far ?_ NB421_432.out _; (with_reducible repeat (first | refine blk_drewN ?_ _ | refine blk_drew ?_ | refine blk_alloc ?_ _)); refine blk_far ?_ NB421_432.out _; (with_reducible repeat (first | refine blk_drewN ?_ _ | refine blk_drew ?_ | refine blk_alloc ?_ _)); exact BK421.out) hb); have n6_ := Aside0.mk (blk_below (g := gb432) (o := .cells #[.bool t428, .slice Ao24 t429.length co24, .int .i64 (wrap64 (x421002_1 - 1))] 40 (0, 0)) (by (with_reducible repeat (first | refine blk_drewN ?_ _ | refine blk_drew ?_ | refine blk_alloc ?_ _)); refine blk_put (cs := #[.bool t428, .slice Ao24 t429.length co24, .int .i64 0]) ?_ 2 _ rfl; (with_reducible repeat (first | refine blk_drewN ?_ _ | refine blk_drew ?_ | refine blk_alloc ?_ _)); refine blk_put (cs := #[.bool t428, .slice none 0 0, .int .i64 0]) ?_ 1 _ rfl; (with_reducible repeat (first | refine blk_drewN ?_ _ | refine blk_drew ?_ | refine blk_alloc ?_ _)); refine blk_put (cs := #[.bool false, .slice none 0 0, .int .i64 0]) ?_ 0 _ rfl; (with_reducible repeat (first | refine blk_drewN ?_ _ | refine blk_drew ?_ | refine blk_alloc ?_ _)); exact BK432.out) hb); have n7_ := Aside0.mk (below_step (by repeat (first | (with_reducible first | exact HB.out | apply below_alloc | apply pw_below_drewN | apply below_drew1 | refine below_set ?_ GE420.out | refine below_set ?_ GE421.out | refine below_set ?_ GE432.out) | exact HB.out)) hb); clear HO_421001; clear HO424; clear HO427; clear HO431; clear BK420; clear BK421; clear BK432; clear HB; have HO_421001 := n0_; have HO424 := n1_; have HO427 := n2_; have HO431 := n3_; have BK420 := n4_; have BK421 := n5_; have BK432 := n6_; have HB := n7_; clear n0_ n1_ n2_ n3_ n4_ n5_ n6_ n7_; (try clear hb); (try clear hb2); (try clear hk); (try clear hi); have hcz32_0 : w31.cell? ⟨gb420, 0, none⟩ = some (.bool x421000_1) := (blk_cell BK420.out 0).trans rfl; have hcz32_1 : w31.cell? ⟨gb420, 1, none⟩ = some (.slice Ao14 x421001_1.length co14) := (blk_cell BK420.out 1).trans rfl; have hcz32_2 : w31.cell? ⟨gb420, 2, none⟩ = some (.int .i64 x421002_1) := (blk_cell BK420.out 2).trans rfl; have hfz32_0 := blk_frozen BK420.out 0; have hfz32_1 := blk_frozen BK420.out 1; have hfz32_2 := blk_frozen BK420.out 2; have hcz33_0 : w31.cell? ⟨gb421, 0, none⟩ = some (.bool false) := (blk_cell BK421.out 0).trans rfl; have hcz33_1 : w31.cell? ⟨gb421, 1, none⟩ = some (.slice none 0 0) := (blk_cell BK421.out 1).trans rfl; have hcz33_2 : w31.cell? ⟨gb421, 2, none⟩ = some (.int .i64 0) := (blk_cell BK421.out 2).trans rfl; have hfz33_0 := blk_frozen BK421.out 0; have hfz33_1 := blk_frozen BK421.out 1; have hfz33_2 := blk_frozen BK421.out 2))
          refine bodyPost_ret (results_cell_row rfl _ _ gb421 40 #[.bool x421000_1, .slice Ao14 x421001_1.length co14, .int .i64 x421002_1] (0, 0) _ rfl (by (with_reducible repeat (first | refine blk_drewN ?_ _ | refine blk_drew ?_ | refine blk_alloc ?_ _)); refine blk_put (cs := #[.bool x421000_1, .slice Ao14 x421001_1.length co14, .int .i64 0]) ?_ 2 _ rfl; (with_reducible repeat (first | refine blk_drewN ?_ _ | refine blk_drew ?_ | refine blk_alloc ?_ _)); refine blk_put (cs := #[.bool x421000_1, .slice none 0 0, .int .i64 0]) ?_ 1 _ rfl; (with_reducible repeat (first | refine blk_drewN ?_ _ | refine blk_drew ?_ | refine blk_alloc ?_ _)); refine blk_put (cs := #[.bool false, .slice none 0 0, .int .i64 0]) ?_ 0 _ rfl; (with_reducible repeat (first | refine blk_drewN ?_ _ | refine blk_drew ?_ | refine blk_alloc ?_ _)); exact BK421.out) Tryd.underlying40 rfl (by kernel_rfl)) rfl ?_
          exact ⟨_, by first | rfl | (simp [errW_none, errW_some] <;> rfl) | (simp only [← hji5]; first | rfl | (simp [errW_none, errW_some] <;> rfl)) | (simp [*, errW_none, errW_some] <;> rfl), by (with_reducible repeat (first | apply Kd.V_alloc | apply Kd.V_drewN | apply Kd.V_drew)); exact Kd.V_mono (Kd.V_far (p := ⟨gb421, 2, none⟩) (Kd.V_far (p := ⟨gb421, 1, none⟩) (Kd.V_far (p := ⟨gb421, 0, none⟩) (Kd.V_mono HO_421001.out (fun k_ hk => (⟨hk, hk.2.2.2.1⟩ : _ ∧ k_ ≠ gb421))) (fun _ hk => hk.2) (.bool x421000_1)) (fun _ hk => hk.2) (.slice Ao14 x421001_1.length co14)) (fun _ hk => hk.2) (.int .i64 x421002_1)) (fun _ hk => hk.1.1), by repeat (first | (with_reducible first | exact HB.out | apply below_alloc | apply pw_below_drewN | apply below_drew1 | refine below_set ?_ GE420.out | refine below_set ?_ GE421.out | refine below_set ?_ GE432.out) | exact HB.out)⟩
        · rw [if_neg c11] at H
          have c11b0 : decide (19 < t433) = false := decide_eq_false c11
          clear c11
          have H' := Aside0.mk H
          clear H
          try go_wp2_with (first | ((with_reducible refine gate_callee (f := 29) rfl ?_); refine goesL_ (some 28) rfl rfl Tryd.func29 (by kernel_rfl) rfl #[.slice Ao24 t429.length co24] rfl (by (try simp only [List.map_toArray, List.map_cons, List.map_nil]); first | done | rfl | (simp only [List.length_drop, List.length_take]; rfl)) ?_; (with_reducible refine (spec_Nat_Digits.calls k1 _ _ t429 t433 _ ?side1 ?side2 A10.out).mono ?_); (case side1 => refine (Kd.V_reads' (e := 59) (base := w.heap.size) (ok := fun k_ => ((P0_1_ k_ ∨ w.heap.size ≤ k_) ∧ (some k_ ≠ (v423 : Value).ownBlock ∧ (k_ ≠ gb420 ∧ (k_ ≠ gb421 ∧ k_ ≠ gb432))))) (n := t429.length) (c := co24) ?_).2.2; exact (by (with_reducible repeat (first | apply Kd.V_alloc | apply Kd.V_drewN | apply Kd.V_drew)); exact (Kd.V_mono (Kd.V_far (p := ⟨gb432, 2, none⟩) (Kd.V_far (p := ⟨gb432, 1, none⟩) (Kd.V_far (p := ⟨gb432, 0, none⟩) (Kd.V_mono HO431.out (fun k_ hk => (⟨hk, hk.2.2.2.2⟩ : _ ∧ k_ ≠ gb432))) (fun _ hk => hk.2) (.bool t428)) (fun _ hk => hk.2) (.slice Ao24 t429.length co24)) (fun _ hk => hk.2) (.int .i64 (wrap64 (x421002_1 - 1)))) (fun _ h_ => h_.1)))); (case side2 => exact (Kd.V_reads' HO431.out).2.1); rintro e w53 ⟨rfl, hb⟩; refine ⟨_, rfl, ?_⟩; have n0_ := Aside0.mk (Kd.V_below (by (with_reducible repeat (first | apply Kd.V_alloc | apply Kd.V_drewN | apply Kd.V_drew)); exact (Kd.V_mono (Kd.V_far (p := ⟨gb432, 2, none⟩) (Kd.V_far (p := ⟨gb432, 1, none⟩) (Kd.V_far (p := ⟨gb432, 0, none⟩) (Kd.V_mono HO_421001.out (fun k_ hk => (⟨hk, hk.2.2.2.2⟩ : _ ∧ k_ ≠ gb432))) (fun _ hk => hk.2) (.bool t428)) (fun _ hk => hk.2) (.slice Ao24 t429.length co24)) (fun _ hk => hk.2) (.int .i64 (wrap64 (x421002_1 - 1)))) (fun _ h_ => h_.1))) hb); have n1_ := Aside0.mk (Kd.R_below (by (with_reducible repeat (first | apply Kd.R_alloc | apply Kd.R_drewN | apply Kd.R_drew)); exact (Kd.R_mono (Kd.R_far (p := ⟨gb432, 2, none⟩) (Kd.R_far (p := ⟨gb432, 1, none⟩) (Kd.R_far (p := ⟨gb432, 0, none⟩) (Kd.R_types HO424.out BK432.out (by decide)) (fun _ hk => hk.2) (.bool t428)) (fun _ hk => hk.2) (.slice Ao24 t429.length co24)) (fun _ hk => hk.2) (.int .i64 (wrap64 (x421002_1 - 1)))) (fun _ h_ => h_.1))) hb); have n2_ := Aside0.mk (Kd.V_below (by (with_reducible repeat (first | apply Kd.V_alloc | apply Kd.V_drewN | apply Kd.V_drew)); exact (Kd.V_mono (Kd.V_far (p := ⟨gb432, 2, none⟩) (Kd.V_far (p := ⟨gb432, 1, none⟩) (Kd.V_far (p := ⟨gb432, 0, none⟩) (Kd.V_mono HO427.out (fun k_ hk => (⟨hk, hk.2.2.2.2⟩ : _ ∧ k_ ≠ gb432))) (fun _ hk => hk.2) (.bool t428)) (fun _ hk => hk.2) (.slice Ao24 t429.length co24)) (fun _ hk => hk.2) (.int .i64 (wrap64 (x421002_1 - 1)))) (fun _ h_ => h_.1))) hb); have n3_ := Aside0.mk (Kd.V_below (by (with_reducible repeat (first | apply Kd.V_alloc | apply Kd.V_drewN | apply Kd.V_drew)); exact (Kd.V_mono (Kd.V_far (p := ⟨gb432, 2, none⟩) (Kd.V_far (p := ⟨gb432, 1, none⟩) (Kd.V_far (p := ⟨gb432, 0, none⟩) (Kd.V_mono HO431.out (fun k_ hk => (⟨hk, hk.2.2.2.2⟩ : _ ∧ k_ ≠ gb432))) (fun _ hk => hk.2) (.bool t428)) (fun _ hk => hk.2) (.slice Ao24 t429.length co24)) (fun _ hk => hk.2) (.int .i64 (wrap64 (x421002_1 - 1)))) (fun _ h_ => h_.1))) hb); have n4_ := Aside0.mk (blk_below (g := gb420) (o := .cells #[.bool x421000_1, .slice Ao14 x421001_1.length co14, .int .i64 x421002_1] 40 (0, 0)) (by (with_reducible repeat (first | refine blk_drewN ?_ _ | refine blk_drew ?_ | refine blk_alloc ?_ _)); refine blk_far ?_ NB420_432.out _; (with_reducible repeat (first | refine blk_drewN ?_ _ | refine blk_drew ?_ | refine blk_alloc ?_ _)); refine blk_far ?_ NB420_432.out _; (with_reducible repeat (first | refine blk_drewN ?_ _ | refine blk_drew ?_ | refine blk_alloc ?_ _)); refine blk_far ?_ NB420_432.out _; (with_reducible repeat (first | refine blk_drewN ?_ _ | refine blk_drew ?_ | refine blk_alloc ?_ _)); exact BK420.out) hb); have n5_ := Aside0.mk (blk_below (g := gb421) (o := .cells #[.bool false, .slice none 0 0, .int .i64 0] 40 (0, 0)) (by (with_reducible repeat (first | refine blk_drewN ?_ _ | refine blk_drew ?_ | refine blk_alloc ?_ _)); refine blk_far ?_ NB421_432.out _; (with_reducible repeat (first | refine blk_drewN ?_ _ | refine blk_drew ?_ | refine blk_alloc ?_ _)); refine blk_far ?_ NB421_432.out _; (with_reducible repeat (first | refine blk_drewN ?_ _ | refine blk_drew ?_ | refine blk_alloc ?_ _)); refine blk_far ?_ NB421_432.out _; (with_reducible repeat (first | refine blk_drewN ?_ _ | refine blk_drew ?_ | refine blk_alloc ?_ _)); exact BK421.out) hb); have n6_ := Aside0.mk (blk_below (g := gb432) (o := .cells #[.bool t428, .slice Ao24 t429.length co24, .int .i64 (wrap64 (x421002_1 - 1))] 40 (0, 0)) (by (with_reducible repeat (first | refine blk_drewN ?_ _ | refine blk_drew ?_ | refine blk_alloc ?_ _)); refine blk_put (cs := #[.bool t428, .slice Ao24 t429.length co24, .int .i64 0]) ?_ 2 _ rfl; (with_reducible repeat (first | refine blk_drewN ?_ _ | refine blk_drew ?_ | refine blk_alloc ?_ _)); refine blk_put (cs := #[.bool t428, .slice none 0 0, .int .i64 0]) ?_ 1 _ rfl; (with_reducible repeat (first | refine blk_drewN ?_ _ | refine blk_drew ?_ | refine blk_alloc ?_ _)); refine blk_put (cs := #[.bool false, .slice none 0 0, .int .i64 0]) ?_ 0 _ rfl; (with_reducible repeat (first | refine blk_drewN ?_ _ | refine blk_drew ?_ | refine blk_alloc ?_ _)); exact BK432.out) hb); have n7_ := Aside0.mk (below_step (by repeat (first | (with_reducible first | exact HB.out | apply below_alloc | apply pw_below_drewN | apply below_drew1 | refine below_set ?_ GE420.out | refine below_set ?_ GE421.out | refine below_set ?_ GE432.out) | exact HB.out)) hb); clear HO_421001; clear HO424; clear HO427; clear HO431; clear BK420; clear BK421; clear BK432; clear HB; have HO_421001 := n0_; have HO424 := n1_; have HO427 := n2_; have HO431 := n3_; have BK420 := n4_; have BK421 := n5_; have BK432 := n6_; have HB := n7_; clear n0_ n1_ n2_ n3_ n4_ n5_ n6_ n7_; (try clear hb); (try clear hb2); (try clear hk); (try clear hi); have hcz54_0 : w53.cell? ⟨gb432, 0, none⟩ = some (.bool t428) := (blk_cell BK432.out 0).trans rfl; have hcz54_1 : w53.cell? ⟨gb432, 1, none⟩ = some (.slice Ao24 t429.length co24) := (blk_cell BK432.out 1).trans rfl; have hcz54_2 : w53.cell? ⟨gb432, 2, none⟩ = some (.int .i64 (wrap64 (x421002_1 - 1))) := (blk_cell BK432.out 2).trans rfl; have hfz54_0 := blk_frozen BK432.out 0; have hfz54_1 := blk_frozen BK432.out 1; have hfz54_2 := blk_frozen BK432.out 2; have hcz55_0 : w53.cell? ⟨gb420, 0, none⟩ = some (.bool x421000_1) := (blk_cell BK420.out 0).trans rfl; have hcz55_1 : w53.cell? ⟨gb420, 1, none⟩ = some (.slice Ao14 x421001_1.length co14) := (blk_cell BK420.out 1).trans rfl; have hcz55_2 : w53.cell? ⟨gb420, 2, none⟩ = some (.int .i64 x421002_1) := (blk_cell BK420.out 2).trans rfl; have hfz55_0 := blk_frozen BK420.out 0; have hfz55_1 := blk_frozen BK420.out 1; have hfz55_2 := blk_frozen BK420.out 2))
          go_roundg k1
          case measure => have := HK1.out; omega
          case rel => exact ⟨(t428), (t429), (wrap64 (x421002_1 - 1)), (.slice Ao24 t429.length co24), H', ⟨by have := HK1.out; omega⟩, ⟨by (with_reducible repeat (first | apply Kd.V_alloc | apply Kd.V_drewN | apply Kd.V_drew)); exact Kd.V_mono (Kd.V_far (p := ⟨gb420, 2, none⟩) (Kd.V_far (p := ⟨gb420, 1, none⟩) (Kd.V_far (p := ⟨gb420, 0, none⟩) (Kd.V_mono HO431.out (fun k_ hk => (⟨hk, hk.2.2.1⟩ : _ ∧ k_ ≠ gb420))) (fun _ hk => hk.2) (.bool t428)) (fun _ hk => hk.2) (.slice Ao24 t429.length co24)) (fun _ hk => hk.2) (.int .i64 (wrap64 (x421002_1 - 1)))) (fun _ hk => ⟨hk.1.1, ⟨hk.1.2.2.1, hk.1.2.2.2.1⟩⟩)⟩, ⟨by (with_reducible repeat (first | refine blk_drewN ?_ _ | refine blk_drew ?_ | refine blk_alloc ?_ _)); refine blk_put (cs := #[.bool t428, .slice Ao24 t429.length co24, .int .i64 x421002_1]) ?_ 2 _ rfl; (with_reducible repeat (first | refine blk_drewN ?_ _ | refine blk_drew ?_ | refine blk_alloc ?_ _)); refine blk_put (cs := #[.bool t428, .slice Ao14 x421001_1.length co14, .int .i64 x421002_1]) ?_ 1 _ rfl; (with_reducible repeat (first | refine blk_drewN ?_ _ | refine blk_drew ?_ | refine blk_alloc ?_ _)); refine blk_put (cs := #[.bool x421000_1, .slice Ao14 x421001_1.length co14, .int .i64 x421002_1]) ?_ 0 _ rfl; (with_reducible repeat (first | refine blk_drewN ?_ _ | refine blk_drew ?_ | refine blk_alloc ?_ _)); exact BK420.out⟩, ⟨by (with_reducible repeat (first | refine blk_drewN ?_ _ | refine blk_drew ?_ | refine blk_alloc ?_ _)); refine blk_far ?_ NB421_420.out _; (with_reducible repeat (first | refine blk_drewN ?_ _ | refine blk_drew ?_ | refine blk_alloc ?_ _)); refine blk_far ?_ NB421_420.out _; (with_reducible repeat (first | refine blk_drewN ?_ _ | refine blk_drew ?_ | refine blk_alloc ?_ _)); refine blk_far ?_ NB421_420.out _; (with_reducible repeat (first | refine blk_drewN ?_ _ | refine blk_drew ?_ | refine blk_alloc ?_ _)); exact BK421.out⟩, ⟨by repeat (first | (with_reducible first | exact HB.out | apply below_alloc | apply pw_below_drewN | apply below_drew1 | refine below_set ?_ GE420.out | refine below_set ?_ GE421.out | refine below_set ?_ GE432.out) | exact HB.out)⟩⟩
      · rw [if_neg c6] at H
        have c6b0 : decide ((wrap64 (-x421002_1)) < (ji5)) = false := decide_eq_false c6
        clear c6
        simp only [Option.some.injEq, Prod.mk.injEq] at H
        obtain ⟨rfl, rfl, rfl⟩ := H
        have hnb56 := NB420_421.out
        have hnc56 := NB421_420.out
        have hcz57_0 : wr.cell? ⟨gb420, 0, none⟩ = some (.bool x421000_1) := (blk_cell BK420.out 0).trans rfl
        have hcz57_1 : wr.cell? ⟨gb420, 1, none⟩ = some (u421001) := (blk_cell BK420.out 1).trans rfl
        have hcz57_2 : wr.cell? ⟨gb420, 2, none⟩ = some (.int .i64 x421002_1) := (blk_cell BK420.out 2).trans rfl
        have hfz57_0 := blk_frozen BK420.out 0
        have hfz57_1 := blk_frozen BK420.out 1
        have hfz57_2 := blk_frozen BK420.out 2
        have hcz58_0 : wr.cell? ⟨gb421, 0, none⟩ = some (.bool false) := (blk_cell BK421.out 0).trans rfl
        have hcz58_1 : wr.cell? ⟨gb421, 1, none⟩ = some (.slice none 0 0) := (blk_cell BK421.out 1).trans rfl
        have hcz58_2 : wr.cell? ⟨gb421, 2, none⟩ = some (.int .i64 0) := (blk_cell BK421.out 2).trans rfl
        have hfz58_0 := blk_frozen BK421.out 0
        have hfz58_1 := blk_frozen BK421.out 1
        have hfz58_2 := blk_frozen BK421.out 2
        obtain ⟨Ao59, co59, eo59⟩ := Kd.V_slice HO_421001.out
        subst eo59
        go_wp2
        refine bodyPost_ret (results_cell_row rfl _ _ gb421 40 #[.bool x421000_1, .slice Ao59 x421001_1.length co59, .int .i64 x421002_1] (0, 0) _ rfl (by (with_reducible repeat (first | refine blk_drewN ?_ _ | refine blk_drew ?_ | refine blk_alloc ?_ _)); refine blk_put (cs := #[.bool x421000_1, .slice Ao59 x421001_1.length co59, .int .i64 0]) ?_ 2 _ rfl; (with_reducible repeat (first | refine blk_drewN ?_ _ | refine blk_drew ?_ | refine blk_alloc ?_ _)); refine blk_put (cs := #[.bool x421000_1, .slice none 0 0, .int .i64 0]) ?_ 1 _ rfl; (with_reducible repeat (first | refine blk_drewN ?_ _ | refine blk_drew ?_ | refine blk_alloc ?_ _)); refine blk_put (cs := #[.bool false, .slice none 0 0, .int .i64 0]) ?_ 0 _ rfl; (with_reducible repeat (first | refine blk_drewN ?_ _ | refine blk_drew ?_ | refine blk_alloc ?_ _)); exact BK421.out) Tryd.underlying40 rfl (by kernel_rfl)) rfl ?_
        exact ⟨_, by first | rfl | (simp [errW_none, errW_some] <;> rfl) | (simp only [← hji5]; first | rfl | (simp [errW_none, errW_some] <;> rfl)) | (simp [*, errW_none, errW_some] <;> rfl), by (with_reducible repeat (first | apply Kd.V_alloc | apply Kd.V_drewN | apply Kd.V_drew)); exact Kd.V_mono (Kd.V_far (p := ⟨gb421, 2, none⟩) (Kd.V_far (p := ⟨gb421, 1, none⟩) (Kd.V_far (p := ⟨gb421, 0, none⟩) (Kd.V_mono HO_421001.out (fun k_ hk => (⟨hk, hk.2.2⟩ : _ ∧ k_ ≠ gb421))) (fun _ hk => hk.2) (.bool x421000_1)) (fun _ hk => hk.2) (.slice Ao59 x421001_1.length co59)) (fun _ hk => hk.2) (.int .i64 x421002_1)) (fun _ hk => hk.1.1), by repeat (first | (with_reducible first | exact HB.out | apply below_alloc | apply pw_below_drewN | apply below_drew1 | refine below_set ?_ GE420.out | refine below_set ?_ GE421.out) | exact HB.out)⟩


end Go.Proofs.YtcgdphciepdkiaaDoor.S
