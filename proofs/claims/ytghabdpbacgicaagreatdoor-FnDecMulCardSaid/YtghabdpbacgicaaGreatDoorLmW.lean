/-
  WHAT THE REFERENCE's NUMBERS ANSWER, further: wholeOf.
-/
import Derived.Test.YtghabdpbacgicaaGreatDoorLm
import Derived.Test.YtghabdpbacgicaaGreatDoorSWOf
namespace Go.Proofs.YtghabdpbacgicaaGreatDoor.Lm
open Go.RowKit Go.Proofs.YtghabdpbacgicaaGreatDoorW.PrintWords Go.Proofs.YtghabdpbacgicaaGreatDoor.S
set_option linter.unusedVariables false

/-- The sign that wholeOf gives: none of 0. -/
def sg (neg : Bool) (n : Nat) : Bool := neg && decide (n ≠ 0)
theorem sg_false (n : Nat) : sg false n = false := rfl
theorem sg_zero (b : Bool) : sg b 0 = false := by cases b <;> rfl
theorem sg_pos {n : Nat} (h : n ≠ 0) (b : Bool) : sg b n = b := by unfold sg; simp [h]
theorem wholeOf (neg : Bool) (n : Nat) : spec_wholeOf.f neg (lim n) = some (sg neg n, lim n) := by
  unfold spec_wholeOf.f sg
  have hl := len_zero (n := n)
  cases neg with
  | false => rfl
  | true =>
    rw [if_pos rfl, Bool.true_and]
    congr 2
    rw [decide_eq_decide]; omega

end Go.Proofs.YtghabdpbacgicaaGreatDoor.Lm
