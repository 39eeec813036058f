/- CONTRACTS of govalues_fint_add, govalues_ZzFintAdd, impl_FintAdd, laws_gvMost: each as the plain function beside it. (Began as print.sh's text for this seat; the turns are those of wip/tools/split.py.) -/
import Derived.Test.YtcgdphciepdkiaaS0
namespace Go.Proofs.Ytcgdphciepdkiaa.S
open Go.RowKit Go.Proofs.YtcgdphciepdkiaaW.PrintWords Go.Proofs.YtcgdphciepdkiaaW.PrintLast Go.Proofs.YtcgdphciepdkiaaW.PrintMore
attribute [local go_sem] max2_int min2_int max_two min_two max_three min_three max_four min_four   -- for this text's walks alone
set_option linter.unusedVariables false
set_option linter.unusedSimpArgs false

/-! ### govalues_fint_add: function 12 -/
def govalues_fint_add.f (a0 : Int) (a1 : Int) : Option (Int × Bool) := if (IntKind.u64.wrap (9999999999999999999 - a0)) < a1 then (some (0, false)) else (some (IntKind.u64.wrap (a0 + a1), true))
set_option maxHeartbeats 8000000 in
set_option maxRecDepth 100000 in
theorem govalues_fint_add.calls (a0 : Int) (a1 : Int) (r1 : Int) (r2 : Bool) (w : World) (h : govalues_fint_add.f a0 a1 = some (r1, r2)) :
    Calls Try.prog 12 #[.int .u64 a0, .int .u64 a1] w fun e w' => e = .returned (.tuple #[.int .u64 r1, .bool r2]) ∧ Drawn0 w w' := by
  have H : (if (IntKind.u64.wrap (9999999999999999999 - a0)) < a1 then (some (0, false)) else (some (IntKind.u64.wrap (a0 + a1), true))) = some (r1, r2) := h
  clear h
  by_cases c3 : (IntKind.u64.wrap (9999999999999999999 - a0)) < a1
  · rw [if_pos c3] at H
    have c3b0 : decide ((IntKind.u64.wrap (9999999999999999999 - a0)) < a1) = true := decide_eq_true c3
    clear c3
    simp only [Option.some.injEq, Prod.mk.injEq] at H
    obtain ⟨rfl, rfl⟩ := H
    go_enter Try.func12, Try.ntmps12
    go_wp2
    go_ret2
    exact ⟨by first | rfl | (simp; done) | (simp [*]; done), by repeat (first | exact Drawn0.refl _ | apply Drawn0.step)⟩
  · rw [if_neg c3] at H
    have c3b0 : decide ((IntKind.u64.wrap (9999999999999999999 - a0)) < a1) = false := decide_eq_false c3
    clear c3
    simp only [Option.some.injEq, Prod.mk.injEq] at H
    obtain ⟨rfl, rfl⟩ := H
    go_enter Try.func12, Try.ntmps12
    go_wp2
    go_ret2
    exact ⟨by first | rfl | (simp; done) | (simp [*]; done), by repeat (first | exact Drawn0.refl _ | apply Drawn0.step)⟩


/-! ### govalues_ZzFintAdd: function 9 -/
def govalues_ZzFintAdd.f (a0 : Int) (a1 : Int) : Option (Int × Bool) := (govalues_fint_add.f a0 a1).bind fun bt101 => (some (bt101.1, bt101.2))
set_option maxHeartbeats 8000000 in
set_option maxRecDepth 100000 in
theorem govalues_ZzFintAdd.calls (a0 : Int) (a1 : Int) (r1 : Int) (r2 : Bool) (w : World) (h : govalues_ZzFintAdd.f a0 a1 = some (r1, r2)) :
    Calls Try.prog 9 #[.int .u64 a0, .int .u64 a1] w fun e w' => e = .returned (.tuple #[.int .u64 r1, .bool r2]) ∧ Drawn0 w w' := by
  have H : ((govalues_fint_add.f a0 a1).bind fun bt101 => (some (bt101.1, bt101.2))) = some (r1, r2) := h
  clear h
  replace H := Option.bind_eq_some_iff.mp H
  obtain ⟨⟨t101, t102⟩, A30, H⟩ := H
  replace H : (some (t101, t102)) = some (r1, r2) := H
  have A3 := Aside0.mk A30
  clear A30
  simp only [Option.some.injEq, Prod.mk.injEq] at H
  obtain ⟨rfl, rfl⟩ := H
  go_enter Try.func9, Try.ntmps9
  go_wp2_with (first | ((with_reducible refine gate_callee (f := 12) rfl ?_); refine goesL_ (some 11) rfl rfl Try.func12 (by kernel_rfl) rfl #[.int .u64 a0, .int .u64 a1] rfl (by (try simp only [List.map_toArray, List.map_cons, List.map_nil]); first | done | rfl | (simp only [List.length_drop, List.length_take]; rfl)) ?_; (with_reducible refine (govalues_fint_add.calls a0 a1 t101 t102 _ A3.out).mono ?_); rintro e w' ⟨rfl, ⟨nd, rfl⟩⟩; refine ⟨_, rfl, ?_⟩))
  go_ret2
  exact ⟨by first | rfl | (simp; done) | (simp [*]; done), by repeat (first | exact Drawn0.refl _ | apply Drawn0.step)⟩


/-! ### impl_FintAdd: function 4 -/
def impl_FintAdd.f (a0 : Int) (a1 : Int) : Option (Int × Bool) := if a0 > 9999999999999999999 then (some (0, false)) else (if a1 > 9999999999999999999 then (some (0, false)) else ((govalues_ZzFintAdd.f a0 a1).bind fun bt103 => (some (bt103.1, bt103.2))))
set_option maxHeartbeats 8000000 in
set_option maxRecDepth 100000 in
theorem impl_FintAdd.calls (a0 : Int) (a1 : Int) (r1 : Int) (r2 : Bool) (w : World) (h : impl_FintAdd.f a0 a1 = some (r1, r2)) :
    Calls Try.prog 4 #[.int .u64 a0, .int .u64 a1] w fun e w' => e = .returned (.tuple #[.int .u64 r1, .bool r2]) ∧ Drawn0 w w' := by
  have H : (if a0 > 9999999999999999999 then (some (0, false)) else (if a1 > 9999999999999999999 then (some (0, false)) else ((govalues_ZzFintAdd.f a0 a1).bind fun bt103 => (some (bt103.1, bt103.2))))) = some (r1, r2) := h
  clear h
  by_cases c3 : a0 > 9999999999999999999
  · rw [if_pos c3] at H
    have c3b0 : decide (9999999999999999999 < a0) = true := decide_eq_true c3
    clear c3
    simp only [Option.some.injEq, Prod.mk.injEq] at H
    obtain ⟨rfl, rfl⟩ := H
    go_enter Try.func4, Try.ntmps4
    go_wp2
    go_ret2
    exact ⟨by first | rfl | (simp; done) | (simp [*]; done), by repeat (first | exact Drawn0.refl _ | apply Drawn0.step)⟩
  · rw [if_neg c3] at H
    have c3b0 : decide (9999999999999999999 < a0) = false := decide_eq_false c3
    clear c3
    by_cases c4 : a1 > 9999999999999999999
    · rw [if_pos c4] at H
      have c4b0 : decide (9999999999999999999 < a1) = true := decide_eq_true c4
      clear c4
      simp only [Option.some.injEq, Prod.mk.injEq] at H
      obtain ⟨rfl, rfl⟩ := H
      go_enter Try.func4, Try.ntmps4
      go_wp2
      go_ret2
      exact ⟨by first | rfl | (simp; done) | (simp [*]; done), by repeat (first | exact Drawn0.refl _ | apply Drawn0.step)⟩
    · rw [if_neg c4] at H
      have c4b0 : decide (9999999999999999999 < a1) = false := decide_eq_false c4
      clear c4
      replace H := Option.bind_eq_some_iff.mp H
      obtain ⟨⟨t103, t104⟩, A50, H⟩ := H
      replace H : (some (t103, t104)) = some (r1, r2) := H
      have A5 := Aside0.mk A50
      clear A50
      simp only [Option.some.injEq, Prod.mk.injEq] at H
      obtain ⟨rfl, rfl⟩ := H
      go_enter Try.func4, Try.ntmps4
      go_wp2_with (first | ((with_reducible refine gate_callee (f := 9) rfl ?_); refine goesL_ (some 14) rfl rfl Try.func9 (by kernel_rfl) rfl #[.int .u64 a0, .int .u64 a1] rfl (by (try simp only [List.map_toArray, List.map_cons, List.map_nil]); first | done | rfl | (simp only [List.length_drop, List.length_take]; rfl)) ?_; (with_reducible refine (govalues_ZzFintAdd.calls a0 a1 t103 t104 _ A5.out).mono ?_); rintro e w' ⟨rfl, ⟨nd, rfl⟩⟩; refine ⟨_, rfl, ?_⟩))
      go_ret2
      exact ⟨by first | rfl | (simp; done) | (simp [*]; done), by repeat (first | exact Drawn0.refl _ | apply Drawn0.step)⟩


/-! ### laws_gvMost: function 5 -/
def laws_gvMost.l0 : Nat → List Int → Int → Int → Option (Bool)
  | 0, _, _, _ => none
  | k + 1, x5, x6, x7 => if x7 < x6 then (if 0 ≤ x7 then (if x7 < (x5.length : Int) then (if (rd x5 x7) > 9999999999999999999 then (some false) else (laws_gvMost.l0 k x5 x6 (wrap64 (x7 + 1)))) else (none)) else (none)) else (some true)
def laws_gvMost.f (k : Nat) (l0 : List Int) : Option (Bool) := laws_gvMost.l0 k l0 (l0.length : Int) 0
theorem laws_gvMost.mono_l : ∀ k, (∀ y0 y1 y2, LeO (laws_gvMost.l0 k y0 y1 y2) (laws_gvMost.l0 (k + 1) y0 y1 y2))
  | 0 => fun _ _ _ r h => by simp [laws_gvMost.l0] at h
  | k + 1 => by
    have ih0 := laws_gvMost.mono_l k
    · intro y0 y1 y2
      unfold laws_gvMost.l0
      repeat' first
      | (with_reducible exact ih0 _ _ _)
      | (with_reducible exact LeO.refl _)
      | (with_reducible exact LeO.none _)
      | (with_reducible refine LeO.ite ?_ ?_)
      | (with_reducible refine LeO.bind ?_ (fun _ => ?_))
      | exact ih0 _ _ _
      | exact LeO.none _
      | refine LeO.ite ?_ ?_
      | refine LeO.bind ?_ (fun _ => ?_)
theorem laws_gvMost.mono : ∀ a0 k, LeO (laws_gvMost.f k a0) (laws_gvMost.f (k + 1) a0) := by
  intro a0 k
  have ih0 := laws_gvMost.mono_l k
  unfold laws_gvMost.f
  repeat' first
      | (with_reducible exact ih0 _ _ _)
      | (with_reducible exact LeO.refl _)
      | (with_reducible exact LeO.none _)
      | (with_reducible refine LeO.ite ?_ ?_)
      | (with_reducible refine LeO.bind ?_ (fun _ => ?_))
      | exact ih0 _ _ _
      | exact LeO.none _
      | refine LeO.ite ?_ ?_
      | refine LeO.bind ?_ (fun _ => ?_)
set_option maxHeartbeats 8000000 in
set_option maxRecDepth 100000 in
theorem laws_gvMost.calls (k : Nat) (A0 : Option Addr) (c0 : Nat) (l0 : List Int) (r : Bool) (w : World) (hr0 : Kd.C (Kd.int .u64) w A0 l0.length l0) (hc0 : l0.length ≤ c0) (h : laws_gvMost.f k l0 = some r) :
    Calls Try.prog 5 #[.slice A0 l0.length c0] w fun e w' => e = .returned (.bool r) ∧ Drawn0 w w' := by
  have HR0 := Aside0.mk hr0
  have HC0 := Aside0.mk hc0
  clear hr0 hc0
  have H : (laws_gvMost.l0 k l0 (l0.length : Int) 0) = some r := h
  clear h
  have H' := Aside0.mk H
  clear H
  go_enter Try.func5, Try.ntmps5
  go_wp2
  go_loopg [7] k (fun kq v7 w' => ∃ (x7_1 : Int), v7 = .int .i64 x7_1 ∧ Aside0 (laws_gvMost.l0 kq l0 (l0.length : Int) x7_1 = some r) ∧ Aside0 (kq ≤ k) ∧ Drawn0 w w')
  case atStart => exact ⟨(0), (by first | rfl | (simp; done) | (simp [*]; done)), H', ⟨Nat.le_refl _⟩, by repeat (first | exact Drawn0.refl _ | apply Drawn0.step)⟩
  case round =>
    clear H'
    obtain ⟨x7_1, rfl, HA, HK1, ⟨m1, rfl⟩⟩ := hrel
    cases gk with
    | zero => exact absurd HA.out (by simp [laws_gvMost.l0])
    | succ k1 =>
      have H := HA.out
      clear HA
      simp only [laws_gvMost.l0] at H
      by_cases c2 : x7_1 < (l0.length : Int)
      · rw [if_pos c2] at H
        have c2b0 : decide (x7_1 < (l0.length : Int)) = true := decide_eq_true c2
        clear c2
        by_cases c3 : 0 ≤ x7_1
        · rw [if_pos c3] at H
          have c3b0 : decide (0 ≤ x7_1) = true := decide_eq_true c3
          clear c3
          by_cases c4 : x7_1 < (l0.length : Int)
          · rw [if_pos c4] at H
            have c4b0 : decide (x7_1 < (l0.length : Int)) = true := decide_eq_true c4
            clear c4
            by_cases c5 : (rd l0 x7_1) > 9999999999999999999
            · rw [if_pos c5] at H
              have c5b0 : decide (9999999999999999999 < (rd l0 x7_1)) = true := decide_eq_true c5
              clear c5
              obtain rfl := Option.some.inj H
              have p105 : 0 ≤ (x7_1 : Int) := of_decide_eq_true (by first | (with_reducible assumption) | assumption)
              have q105 : x7_1 < (l0.length : Int) := of_decide_eq_true (by first | (with_reducible assumption) | assumption)
              obtain ⟨ad105, e105, hx105_0⟩ := Kd.at_int HR0.out x7_1 p105 q105
              cases e105
              replace p105 := eq_true p105
              replace q105 := eq_true q105
              go_wp2
              go_ret
              exact ⟨by first | rfl | (simp; done) | (simp [*]; done), by repeat (first | exact Drawn0.refl _ | apply Drawn0.step)⟩
            · rw [if_neg c5] at H
              have c5b0 : decide (9999999999999999999 < (rd l0 x7_1)) = false := decide_eq_false c5
              clear c5
              have H' := Aside0.mk H
              clear H
              have p105 : 0 ≤ (x7_1 : Int) := of_decide_eq_true (by first | (with_reducible assumption) | assumption)
              have q105 : x7_1 < (l0.length : Int) := of_decide_eq_true (by first | (with_reducible assumption) | assumption)
              obtain ⟨ad105, e105, hx105_0⟩ := Kd.at_int HR0.out x7_1 p105 q105
              cases e105
              replace p105 := eq_true p105
              replace q105 := eq_true q105
              go_wp2
              go_roundg k1
              case measure => have := HK1.out; omega
              case rel => exact ⟨(wrap64 (x7_1 + 1)), (by first | rfl | (simp; done) | (simp [*]; done)), H', ⟨by have := HK1.out; omega⟩, by repeat (first | exact Drawn0.refl _ | apply Drawn0.step)⟩
          · rw [if_neg c4] at H
            exact absurd H (by simp)
        · rw [if_neg c3] at H
          exact absurd H (by simp)
      · rw [if_neg c2] at H
        have c2b0 : decide (x7_1 < (l0.length : Int)) = false := decide_eq_false c2
        clear c2
        obtain rfl := Option.some.inj H
        go_wp2
        go_ret
        exact ⟨by first | rfl | (simp; done) | (simp [*]; done), by repeat (first | exact Drawn0.refl _ | apply Drawn0.step)⟩


end Go.Proofs.Ytcgdphciepdkiaa.S
