/-
  WHAT gvMost AND gvWhole ANSWER, of numbers kept as limbs.
-/
import Derived.Test.YtcgdphciepdkiaaDoorLmStr
import Derived.Test.YtcgdphciepdkiaaDoorSFin
import Derived.Test.YtcgdphciepdkiaaDoorSWho
namespace Go.Proofs.YtcgdphciepdkiaaDoor.Lm
open Go.RowKit Go.Proofs.YtcgdphciepdkiaaDoorW.PrintWords Go.Proofs.YtcgdphciepdkiaaDoor.S
set_option linter.unusedVariables false

theorem most_loop (l : List Int) (hl : l.length < 9223372036854775807) (d : Nat) : ∀ i : Nat, i + d = l.length → Ev (fun k => laws_gvMost.l0 k l (l.length : Int) (i : Int)) ((l.drop i).all fun x => decide (x ≤ 9999999999999999999)) := by
  induction d with
  | zero =>
    intro i hi
    refine Ev.step ?_
    simp only [laws_gvMost.l0]
    refine Ev.neg (by omega) ?_
    rw [List.drop_eq_nil_of_le (by omega)]
    exact Ev.pure _
  | succ d ih =>
    intro i hi
    refine Ev.step ?_
    simp only [laws_gvMost.l0]
    refine Ev.pos (by omega) (Ev.pos (by omega) (Ev.pos (by omega) ?_))
    have hlt : i < l.length := by omega
    have e : rd l (i : Int) = l[i] := by
      unfold rd; rw [Int.toNat_natCast, List.getD_eq_getElem?_getD, List.getElem?_eq_getElem hlt]; rfl
    rw [e, List.drop_eq_getElem_cons hlt, List.all_cons]
    by_cases h : l[i] > 9999999999999999999
    · refine Ev.pos h ?_
      rw [decide_eq_false (by omega), Bool.false_and]
      exact Ev.pure _
    · refine Ev.neg h ?_
      rw [w64s i (by omega), decide_eq_true (by omega), Bool.true_and]
      exact ih (i + 1) (by omega)
theorem most (l : List Int) (hl : l.length < 9223372036854775807) : Ev (fun k => laws_gvMost.f k l) (l.all fun x => decide (x ≤ 9999999999999999999)) :=
  most_loop l hl l.length 0 (by omega)

/-- A number that is told, beside one of any length. -/
theorem whole (z : Nat) (ok : Bool) (n : Nat) (hz : z < 18446744073709551616) (hn : 9 * (lim n).length + 20 < 140737488355328) :
    Ev (fun k => laws_gvWhole.f k (z : Int) ok (lim n)) (if n < 10 ^ 19 then ok && decide (z = n) else !ok) := by
  unfold laws_gvWhole.f
  refine Ev.bind (natDigits n hn) ?_
  have hd := ndig_le (n := n) (m := 19)
  by_cases h : n < 10 ^ 19
  · rw [if_pos h]
    refine Ev.neg (by omega) ?_
    cases ok with
    | false => exact Ev.neg (by simp) (Ev.pure _)
    | true =>
      refine Ev.pos rfl (Ev.bind (natFrom z hz) (Ev.bind (natCmp z n ?_) ?_))
      · have := len_le (n := z) (m := 3) (by omega); omega
      · have e : (cmp z n == 0) = (true && decide (z = n)) := by
          rw [Bool.true_and, Bool.eq_iff_iff]; simp [cmp_eq]
        rw [e]
        exact Ev.pure _
  · rw [if_neg h]
    exact Ev.pos (by omega) (Ev.pure _)
end Go.Proofs.YtcgdphciepdkiaaDoor.Lm
