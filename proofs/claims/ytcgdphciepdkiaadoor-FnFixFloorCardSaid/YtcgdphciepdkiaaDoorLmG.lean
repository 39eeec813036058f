/-
  WHAT THE CHECK of a rounded decimal answers.
-/
import Derived.Test.YtcgdphciepdkiaaDoorLmF
namespace Go.Proofs.YtcgdphciepdkiaaDoor.Lm
open Go.RowKit Go.Proofs.YtcgdphciepdkiaaDoorW.PrintWords Go.Proofs.YtcgdphciepdkiaaDoor.S
set_option linter.unusedVariables false

theorem gvTo_keep (b : Bool) (n s : Nat) (k way : Int) (hn : n < 10 ^ 19) (hs : s ≤ 19) (h : ¬ mx k 0 < (s : Int)) :
    Ev (fun r => laws_gvTo.f r b (n : Int) (s : Int) (sg b n) (n : Int) (s : Int) 0 k way) true := by
  unfold laws_gvTo.f
  exact Ev.bind (fixDec b n s hn hs) (Ev.neg h (Ev.pos rfl (Ev.bind (fixSame b n s hn hs) (Ev.pure _))))
theorem gvTo_round (b : Bool) (n s kk : Nat) (k way : Int) (up : Bool) (m : Nat) (hn : n < 10 ^ 19) (hs : s ≤ 19) (hkk : mx k 0 = (kk : Int)) (hk : kk < s) (hm9 : m < 10 ^ 19)
    (hm : m = if (decide (n % 10 ^ (s - kk) ≠ 0) && up) = true then n / 10 ^ (s - kk) + 1 else n / 10 ^ (s - kk))
    (hr : n % 10 ^ (s - kk) ≠ 0 → spec_rounds.f way (sg b n) (cmp (2 * (n % 10 ^ (s - kk))) (10 ^ (s - kk))) (decide (n / 10 ^ (s - kk) % 2 = 1)) = some up) :
    Ev (fun r => laws_gvTo.f r b (n : Int) (s : Int) (sg (sg b n) m) (m : Int) (kk : Int) 0 k way) true := by
  unfold laws_gvTo.f
  refine Ev.bind (fixDec b n s hn hs) (Ev.pos (by rw [hkk]; omega) (Ev.bind (fixNum b n s hn hs) ?_))
  rw [hkk]
  exact Ev.bind (fracRound (sg b n) n s kk way up m hn hs hk hm hr) (Ev.pos rfl (Ev.bind (fixSame (sg b n) m kk hm9 (by omega)) (Ev.pure _)))
/-- Rounded half to even. -/
def heM (x p : Nat) : Nat := if p / 2 < x % p ∨ (p / 2 = x % p ∧ x / p % 2 = 1) then x / p + 1 else x / p
theorem ten_even {s kk : Nat} (hk : kk < s) : 10 ^ (s - kk) % 2 = 0 ∧ 10 ≤ 10 ^ (s - kk) := by
  obtain ⟨d, hd⟩ : ∃ d, s - kk = d + 1 := ⟨s - kk - 1, by omega⟩
  rw [hd, Nat.pow_succ]
  have := Nat.pow_pos (n := d) (show 0 < 10 by omega)
  omega
theorem div_ten {n p : Nat} (hn : n < 10 ^ 19) (hp : 10 ≤ p) : n / p + 1 < 10 ^ 19 := by
  have h1 := Nat.div_le_div_left hp (show 0 < 10 by omega) (a := n)
  omega
theorem gvTo_half (b : Bool) (n s kk : Nat) (k : Int) (hn : n < 10 ^ 19) (hs : s ≤ 19) (hkk : mx k 0 = (kk : Int)) (hk : kk < s) :
    Ev (fun r => laws_gvTo.f r b (n : Int) (s : Int) (sg (sg b n) (heM n (10 ^ (s - kk)))) ((heM n (10 ^ (s - kk)) : Nat) : Int) (kk : Int) 0 k 5) true := by
  obtain ⟨hev, h10⟩ := ten_even hk
  have hdt := div_ten hn h10
  refine gvTo_round b n s kk k 5 (decide (10 ^ (s - kk) / 2 < n % 10 ^ (s - kk)) || (decide (10 ^ (s - kk) / 2 = n % 10 ^ (s - kk)) && decide (n / 10 ^ (s - kk) % 2 = 1))) _ hn hs hkk hk ?_ ?_ ?_
  · unfold heM
    generalize n / 10 ^ (s - kk) = q at *
    split <;> omega
  · unfold heM
    generalize 10 ^ (s - kk) = p at *
    generalize n / p = q at *
    generalize n % p = r at *
    congr 1
    rw [eq_iff_iff]
    simp only [Bool.and_eq_true, Bool.or_eq_true, decide_eq_true_eq]
    omega
  · intro h0
    unfold spec_rounds.f
    rw [if_neg (by decide), if_neg (by decide), if_neg (by decide), if_neg (by decide), if_pos rfl]
    generalize 10 ^ (s - kk) = p at *
    generalize decide (n / p % 2 = 1) = o at *
    generalize n % p = r at *
    by_cases h1 : p / 2 < r
    · rw [if_pos (cmp_gt.2 (by omega)), decide_eq_true h1]; rfl
    · rw [if_neg (fun h => by have := cmp_gt.1 h; omega), decide_eq_false h1]
      by_cases h2 : p / 2 = r
      · rw [if_pos (cmp_eq.2 (by omega)), decide_eq_true h2, Bool.false_or, Bool.true_and]
      · rw [if_neg (fun h => by have := cmp_eq.1 h; omega), decide_eq_false h2]; rfl
/-- Rounded down: of a number below 0 the amount is rounded up. -/
def flM (b : Bool) (x p : Nat) : Nat := if b = true then (if 0 < x % p then x / p + 1 else x / p) else x / p
theorem gvTo_floor (b : Bool) (n s kk : Nat) (k : Int) (hn : n < 10 ^ 19) (hs : s ≤ 19) (hkk : mx k 0 = (kk : Int)) (hk : kk < s) :
    Ev (fun r => laws_gvTo.f r b (n : Int) (s : Int) (sg (sg b n) (flM (sg b n) n (10 ^ (s - kk)))) ((flM (sg b n) n (10 ^ (s - kk)) : Nat) : Int) (kk : Int) 0 k 2) true := by
  obtain ⟨hev, h10⟩ := ten_even hk
  have hdt := div_ten hn h10
  refine gvTo_round b n s kk k 2 (sg b n) _ hn hs hkk hk ?_ ?_ ?_
  · unfold flM
    generalize n / 10 ^ (s - kk) = q at *
    split <;> (try split) <;> omega
  · unfold flM
    generalize 10 ^ (s - kk) = p at *
    generalize n / p = q at *
    generalize n % p = r at *
    generalize sg b n = g at *
    cases g with
    | false => simp
    | true =>
      rw [if_pos rfl, Bool.and_true]
      congr 1
      rw [eq_iff_iff]
      simp only [decide_eq_true_eq]
      omega
  · intro h0
    unfold spec_rounds.f
    rw [if_neg (by decide), if_pos rfl]
end Go.Proofs.YtcgdphciepdkiaaDoor.Lm
