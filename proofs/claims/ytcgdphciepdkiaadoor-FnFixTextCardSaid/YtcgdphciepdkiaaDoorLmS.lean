/-
  WHAT THE REFERENCE's SIGNED NUMBERS AND DECIMALS ANSWER: wholeOf, OfFix, FixOf.
-/
import Derived.Test.YtcgdphciepdkiaaDoorLmW
import Derived.Test.YtcgdphciepdkiaaDoorLmB
import Derived.Test.YtcgdphciepdkiaaDoorLmStr
import Derived.Test.YtcgdphciepdkiaaDoorSWOf
import Derived.Test.YtcgdphciepdkiaaDoorSOfF
import Derived.Test.YtcgdphciepdkiaaDoorSFOf
namespace Go.Proofs.YtcgdphciepdkiaaDoor.Lm
open Go.RowKit Go.Proofs.YtcgdphciepdkiaaDoorW.PrintWords Go.Proofs.YtcgdphciepdkiaaDoor.S
set_option linter.unusedVariables false

theorem ofFix (neg : Bool) (n : Nat) (s : Int) (hn : n < 18446744073709551616) : Ev (fun k => spec_OfFix.f k neg (n : Int) s) (sg neg n, lim n, wrap64 (-s), decide (n < 10 ^ 19 ∧ 0 ≤ s ∧ s ≤ 19)) := by
  unfold spec_OfFix.f
  have hl := len_le (n := n) (m := 3) (by omega)
  refine Ev.bind (natFrom n hn) (Ev.bind (Ev.of (wholeOf neg n)) (Ev.bind (natDigits n (by omega)) ?_))
  have hd := ndig_le (n := n) (m := 19)
  by_cases h1 : n < 10 ^ 19
  · refine Ev.pos (by omega) ?_
    by_cases h2 : 0 ≤ s
    · refine Ev.pos h2 ?_
      have e : decide (n < 10 ^ 19 ∧ 0 ≤ s ∧ s ≤ 19) = decide (s ≤ 19) := by rw [decide_eq_decide]; exact ⟨fun h => h.2.2, fun h => ⟨h1, h2, h⟩⟩
      rw [e]
      exact Ev.pure _
    · refine Ev.neg h2 ?_
      rw [decide_eq_false (fun h => h2 h.2.1)]
      exact Ev.pure _
  · refine Ev.neg (by omega) ?_
    rw [decide_eq_false (fun h => h1 h.1)]
    exact Ev.pure _

theorem fixOf_loop (b : Bool) (n : Nat) (e : Int) (hn : n < 18446744073709551616) (i : Nat) : i ≤ (lim n).length → Ev (fun k => spec_FixOf.l0 k ((n / 1000000000 ^ i : Nat) : Int) ((i : Int) - 1) b (lim n) e) (b, (n : Int), wrap64 (-e), true) := by
  induction i with
  | zero =>
    intro _
    refine Ev.step ?_
    simp only [spec_FixOf.l0]
    refine Ev.neg (by omega) ?_
    rw [Nat.pow_zero, Nat.div_one]
    exact Ev.pure _
  | succ j ih =>
    intro hi
    have hl := len_le (n := n) (m := 3) (by omega)
    refine Ev.step ?_
    simp only [spec_FixOf.l0]
    rw [show ((j + 1 : Nat) : Int) - 1 = (j : Int) by omega, rd_lim, w64n' j (by omega)]
    refine Ev.pos (by omega) (Ev.pos (by omega) (Ev.pos (by omega) ?_))
    have hle := Nat.div_le_self n (1000000000 ^ j)
    have hst : n / 1000000000 ^ j = 1000000000 * (n / 1000000000 ^ (j + 1)) + n / 1000000000 ^ j % 1000000000 := by rw [pow_succ_div]; exact (Nat.div_add_mod _ _).symm
    have h := ih (by omega)
    generalize n / 1000000000 ^ j = x at *
    generalize n / 1000000000 ^ (j + 1) = y at *
    have e1 : IntKind.u64.wrap (IntKind.u64.wrap ((y : Int) * 1000000000) + IntKind.u64.wrap ((x % 1000000000 : Nat) : Int)) = (x : Int) := by
      rw [wu64 (i := (y : Int) * 1000000000) (by omega) (by omega), wu64 (i := ((x % 1000000000 : Nat) : Int)) (by omega) (by omega), wu64 (by omega) (by omega)]; omega
    rw [e1]
    exact h
theorem fixOf (b : Bool) (n : Nat) (e : Int) (hn : n < 10 ^ 19) (h0 : e ≤ 0) (h9 : -19 ≤ e) : Ev (fun k => spec_FixOf.f k b (lim n) e) (b, (n : Int), -e, true) := by
  unfold spec_FixOf.f
  have hl := len_le (n := n) (m := 3) (by omega)
  refine Ev.neg (by omega) (Ev.neg (by omega) (Ev.bind (natDigits n (by omega)) (Ev.step ?_)))
  simp only [spec_FixOf.j0]
  have hd := ndig_le (n := n) (m := 19)
  refine Ev.neg (by simp; omega) ?_
  rw [w64 (i := ((lim n).length : Int) - 1) (by omega) (by omega)]
  have h := fixOf_loop b n e (by omega) (lim n).length (Nat.le_refl _)
  rw [Nat.div_eq_of_lt (lt_of_len (Nat.le_refl _)), w64 (i := -e) (by omega) (by omega)] at h
  exact h
end Go.Proofs.YtcgdphciepdkiaaDoor.Lm
