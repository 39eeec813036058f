/-
  A NUMBER ROUNDED half to even, or down.
-/
import Derived.Test.YtcgdphciepdkiaaDoorLmF
namespace Go.Proofs.YtcgdphciepdkiaaDoor.Lm
open Go.RowKit Go.Proofs.YtcgdphciepdkiaaDoorW.PrintWords Go.Proofs.YtcgdphciepdkiaaDoor.S
set_option linter.unusedVariables false

/-- Rounded half to even. -/
def heM (x p : Nat) : Nat := if p / 2 < x % p ∨ (p / 2 = x % p ∧ x / p % 2 = 1) then x / p + 1 else x / p
theorem ten_even {s kk : Nat} (hk : kk < s) : 10 ^ (s - kk) % 2 = 0 ∧ 10 ≤ 10 ^ (s - kk) := by
  obtain ⟨d, hd⟩ : ∃ d, s - kk = d + 1 := ⟨s - kk - 1, by omega⟩
  rw [hd, Nat.pow_succ]
  have := Nat.pow_pos (n := d) (show 0 < 10 by omega)
  omega
theorem div_ten {n p : Nat} (hn : n < 10 ^ 19) (hp : 10 ≤ p) : n / p + 1 < 10 ^ 19 := by
  have h1 := Nat.div_le_div_left hp (show 0 < 10 by omega) (a := n)
  omega
/-- Rounded down: of a number below 0 the amount is rounded up. -/
def flM (b : Bool) (x p : Nat) : Nat := if b = true then (if 0 < x % p then x / p + 1 else x / p) else x / p
end Go.Proofs.YtcgdphciepdkiaaDoor.Lm
