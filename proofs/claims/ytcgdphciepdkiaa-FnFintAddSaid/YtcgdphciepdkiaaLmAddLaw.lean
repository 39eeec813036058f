/-
  Proved: 'laws.FnFintAdd' returns true, for every input (the sum of two whole numbers of at most 19 digits is told if it has at most 19).
  Conditions: none beyond those of the given row.
-/
import Derived.Test.YtcgdphciepdkiaaLmWho
import Derived.Test.YtcgdphciepdkiaaSLaw
namespace Go.Proofs.Ytcgdphciepdkiaa.Lm
open Go.RowKit Go.Proofs.YtcgdphciepdkiaaW.PrintWords Go.Proofs.Ytcgdphciepdkiaa.S
set_option linter.unusedVariables false

theorem fintAdd : laws_FnFintAdd.Pure := by
  intro a0 a1 w0 w1
  have b0 : 0 ≤ a0 ∧ a0 ≤ 18446744073709551615 := by simpa [Lit.wf, IntKind.min, IntKind.max, IntKind.signed, IntKind.bits] using w0
  have b1 : 0 ≤ a1 ∧ a1 ≤ 18446744073709551615 := by simpa [Lit.wf, IntKind.min, IntKind.max, IntKind.signed, IntKind.bits] using w1
  obtain ⟨x, rfl⟩ := Int.eq_ofNat_of_zero_le b0.1
  obtain ⟨y, rfl⟩ := Int.eq_ofNat_of_zero_le b1.1
  refine Ev.ex ?_
  unfold laws_FnFintAdd.f
  -- what the code tells
  have code : ∃ z ok, impl_FintAdd.f (x : Int) (y : Int) = some (z, ok) ∧ (x ≤ 9999999999999999999 → y ≤ 9999999999999999999 → if x + y < 10 ^ 19 then z = ((x + y : Nat) : Int) ∧ ok = true else z = 0 ∧ ok = false) := by
    unfold impl_FintAdd.f govalues_ZzFintAdd.f govalues_fint_add.f
    by_cases hx : (x : Int) > 9999999999999999999
    · exact ⟨_, _, if_pos hx, fun h => absurd h (by omega)⟩
    · rw [if_neg hx]
      by_cases hy : (y : Int) > 9999999999999999999
      · exact ⟨_, _, if_pos hy, fun _ h => absurd h (by omega)⟩
      · rw [if_neg hy, wu64 (by omega) (by omega)]
        by_cases hs : 9999999999999999999 - (x : Int) < y
        · rw [if_pos hs]
          exact ⟨0, false, rfl, fun _ _ => by rw [if_neg (by omega)]; exact ⟨rfl, rfl⟩⟩
        · rw [if_neg hs, wu64 (by omega) (by omega)]
          exact ⟨_, true, rfl, fun _ _ => by rw [if_pos (by omega)]; exact ⟨by omega, rfl⟩⟩
  obtain ⟨z, ok, hz, hc⟩ := code
  refine Ev.bind (Ev.of hz) ?_
  refine Ev.bind (most [(x : Int), (y : Int)] (by simp)) ?_
  by_cases hm : x ≤ 9999999999999999999 ∧ y ≤ 9999999999999999999
  · refine Ev.pos (by simp; omega) ?_
    have hs := hc hm.1 hm.2
    have hl : (lim (x + y)).length ≤ 3 := len_le (by omega)
    refine Ev.bind (natFrom x (by omega)) (Ev.bind (natFrom y (by omega)) (Ev.bind (natAdd x y (by omega)) ?_))
    by_cases h19 : x + y < 10 ^ 19
    · rw [if_pos h19] at hs
      obtain ⟨rfl, rfl⟩ := hs
      have := whole (x + y) true (x + y) (by omega) (by omega)
      rw [if_pos h19] at this
      exact Ev.bind this (by simpa using Ev.pure _)
    · rw [if_neg h19] at hs
      obtain ⟨rfl, rfl⟩ := hs
      have := whole 0 false (x + y) (by omega) (by omega)
      rw [if_neg h19] at this
      exact Ev.bind this (Ev.pure _)
  · exact Ev.neg (by simp; omega) (Ev.pure _)
end Go.Proofs.Ytcgdphciepdkiaa.Lm
