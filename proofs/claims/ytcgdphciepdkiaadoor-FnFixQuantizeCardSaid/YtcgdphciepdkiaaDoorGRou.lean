/-
  WHAT THE THIN PACKAGE MAKES OF A FIX, its sign said of the number.
-/
import Derived.Test.YtcgdphciepdkiaaDoorGRound
import Derived.Test.YtcgdphciepdkiaaDoorLmH
namespace Go.Proofs.YtcgdphciepdkiaaDoor.G
open Go.RowKit Go.Proofs.YtcgdphciepdkiaaDoorW.PrintWords Go.Proofs.YtcgdphciepdkiaaDoor.Lm
set_option linter.unusedVariables false

theorem sgI (b : Bool) (n : Nat) : (b && !decide ((n : Int) = 0)) = sg b n := by
  unfold sg; congr 1
  rw [Bool.eq_iff_iff]; simp
theorem decOf_sg (b : Bool) (m : Nat) (k : Int) : decOf b (m : Int) k = decG (sg b m) k (m : Int) := by rw [← sgI]
theorem makes_sg (b : Bool) (n s : Nat) (w : World) (hn : n < 10 ^ 19) (hs : s ≤ 19) : Makes b (n : Int) (s : Int) (sg b n) (s : Int) (n : Int) .nilIface w := by
  have h := makes_ok b (n : Int) (s : Int) w (by omega) (by omega) (by omega)
  rw [sgI] at h; exact h
end Go.Proofs.YtcgdphciepdkiaaDoor.G
