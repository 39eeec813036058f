/-
  WHAT THE REFERENCE's DECIMALS ANSWER, further: padding; a decimal rounded half to even, as gvScaled hands it back.
-/
import Derived.Test.YtcgdphciepdkiaaDoorLmH
import Derived.Test.YtcgdphciepdkiaaDoorLmStr
import Derived.Test.YtcgdphciepdkiaaDoorSPad
import Derived.Test.YtcgdphciepdkiaaDoorSSca
namespace Go.Proofs.YtcgdphciepdkiaaDoor.Lm
open Go.RowKit Go.Proofs.YtcgdphciepdkiaaDoorW.PrintWords Go.Proofs.YtcgdphciepdkiaaDoor.S
set_option linter.unusedVariables false

theorem sg_mul (b : Bool) (n j : Nat) : sg (sg b n) (n * 10 ^ j) = sg b n := by
  by_cases h : n = 0
  · subst h; rw [Nat.zero_mul, sg_zero, sg_zero]
  · have : n * 10 ^ j ≠ 0 := Nat.mul_ne_zero h (Nat.ne_of_gt (Nat.pow_pos (by omega)))
    rw [sg_pos this]
/-- How far a number of n, s places, is padded for kk places. -/
structure PadTo (n s kk t : Nat) : Prop where
  le : s + t ≤ kk
  fits : n * 10 ^ t < 10 ^ 19
  stop : s + t = kk ∨ 10 ^ 19 ≤ n * 10 ^ (t + 1)
theorem mul_pow_le {n j t : Nat} (h : j ≤ t) : n * 10 ^ j ≤ n * 10 ^ t := Nat.mul_le_mul_left _ (Nat.pow_le_pow_right (by omega) h)
theorem padded_loop (b : Bool) (n s kk t : Nat) (hk : kk ≤ 19) (hp : PadTo n s kk t) (e : Nat) : ∀ j : Nat, j + e = t →
    Ev (fun k => spec_Padded.l0 k (kk : Int) (sg b n) (lim (n * 10 ^ j)) (-((s + j : Nat) : Int))) (sg b n, lim (n * 10 ^ t), -((s + t : Nat) : Int)) := by
  have hmn : mn (kk : Int) 19 = (kk : Int) := by unfold mn; split <;> omega
  have h10 : (lim 10).length ≤ 1 := len_le (by omega)
  induction e with
  | zero =>
    intro j hj
    obtain rfl : j = t := by omega
    refine Ev.step ?_
    simp only [spec_Padded.l0]
    have ew : wrap64 (-(-((s + j : Nat) : Int))) = ((s + j : Nat) : Int) := by rw [Int.neg_neg]; exact w64n _ (by have := hp.le; omega)
    rw [ew, hmn]
    have hle := hp.le
    have hfit := hp.fits
    rcases hp.stop with h | h
    · refine Ev.neg (by omega) ?_
      exact Ev.pure _
    · by_cases hlt : s + j < kk
      · refine Ev.pos (by omega) (Ev.bind (natFrom 10 (by omega)) ?_)
        have h3 := len3 (Nat.le_of_lt hfit)
        refine Ev.bind (natMul (n * 10 ^ j) 10 (by omega)) (Ev.bind (Ev.of (wholeOf (sg b n) (n * 10 ^ j * 10))) ?_)
        have h4 := len_mul (n * 10 ^ j) 10
        refine Ev.bind (natDigits (n * 10 ^ j * 10) (by omega)) (Ev.pos ?_ (Ev.pure _))
        have hd := ndig_le (n := n * 10 ^ j * 10) (m := 19)
        rw [show n * 10 ^ (j + 1) = n * 10 ^ j * 10 by rw [Nat.pow_succ, Nat.mul_assoc]] at h
        have : ¬ ndig (n * 10 ^ j * 10) ≤ 19 := fun hh => by have := hd.1 hh; omega
        omega
      · refine Ev.neg (by omega) ?_
        exact Ev.pure _
  | succ e ih =>
    intro j hj
    refine Ev.step ?_
    simp only [spec_Padded.l0]
    have ew : wrap64 (-(-((s + j : Nat) : Int))) = ((s + j : Nat) : Int) := by rw [Int.neg_neg]; exact w64n _ (by have := hp.le; omega)
    rw [ew, hmn]
    have hle := hp.le
    have hfit : n * 10 ^ (j + 1) < 10 ^ 19 := Nat.lt_of_le_of_lt (mul_pow_le (by omega)) hp.fits
    have hfit0 : n * 10 ^ j < 10 ^ 19 := Nat.lt_of_le_of_lt (mul_pow_le (by omega)) hp.fits
    have h3 := len3 (Nat.le_of_lt hfit0)
    have eq : n * 10 ^ j * 10 = n * 10 ^ (j + 1) := by rw [Nat.pow_succ, Nat.mul_assoc]
    refine Ev.pos (by omega) (Ev.bind (natFrom 10 (by omega)) (Ev.bind (natMul (n * 10 ^ j) 10 (by omega)) ?_))
    rw [eq]
    refine Ev.bind (Ev.of (wholeOf (sg b n) (n * 10 ^ (j + 1)))) ?_
    have h4 := len3 (Nat.le_of_lt hfit)
    have hd := (ndig_le (n := n * 10 ^ (j + 1)) (m := 19)).2 hfit
    refine Ev.bind (natDigits (n * 10 ^ (j + 1)) (by omega)) (Ev.neg (by omega) ?_)
    have es : wrap64 (-((s + j : Nat) : Int) - 1) = -((s + (j + 1) : Nat) : Int) := by rw [w64 (by omega) (by omega)]; omega
    have hsg := sg_mul b n (j + 1)
    have := ih (j + 1) (by omega)
    simp only [hsg, es]
    exact this
theorem padded (b : Bool) (n s kk t : Nat) (hk : kk ≤ 19) (hp : PadTo n s kk t) :
    Ev (fun k => spec_Padded.f k (sg b n) (lim n) (-(s : Int)) (kk : Int)) (sg b n, lim (n * 10 ^ t), -((s + t : Nat) : Int)) := by
  have := padded_loop b n s kk t hk hp t 0 (by omega)
  rw [Nat.pow_zero, Nat.mul_one] at this
  exact this
/-- The scale that the package pads to. -/
theorem padTo_of (n s kk : Nat) (hn : n < 10 ^ 19) (hs : s ≤ kk) (hk : kk ≤ 19) : PadTo n s kk (min kk (19 - ndig n + s) - s) := by
  have hP : ndig n ≤ 19 := ndig_le.2 hn
  have h1 : n < 10 ^ ndig n := ndig_le.1 (Nat.le_refl _)
  by_cases h0 : n = 0
  · subst h0
    have e : ndig 0 = 0 := by
      have : ndig 0 ≤ 0 := ndig_le.2 (by omega)
      omega
    rw [e]
    exact ⟨by omega, by rw [Nat.zero_mul]; exact Nat.pow_pos (by omega), .inl (by omega)⟩
  have hPpos : 0 < ndig n := by
    rcases Nat.eq_zero_or_pos (ndig n) with h | h
    · have := (ndig_le (n := n) (m := 0)).1 (by omega)
      omega
    · exact h
  have h2 : 10 ^ (ndig n - 1) ≤ n := by
    rcases Nat.lt_or_ge n (10 ^ (ndig n - 1)) with h | h
    · have := ndig_le.2 h
      omega
    · exact h
  obtain ⟨t, ht⟩ : ∃ t, t = min kk (19 - ndig n + s) - s := ⟨_, rfl⟩
  rw [← ht]
  have hp : 0 < 10 ^ t := Nat.pow_pos (by omega)
  refine ⟨by omega, ?_, ?_⟩
  · have h3 : n * 10 ^ t < 10 ^ ndig n * 10 ^ t := Nat.mul_lt_mul_of_pos_right h1 hp
    rw [← Nat.pow_add] at h3
    exact Nat.lt_of_lt_of_le h3 (Nat.pow_le_pow_right (by omega) (by omega))
  · by_cases hle : kk ≤ 19 - ndig n + s
    · left; omega
    · right
      have h4 : 10 ^ (ndig n - 1) * 10 ^ (t + 1) ≤ n * 10 ^ (t + 1) := Nat.mul_le_mul_right _ h2
      rw [← Nat.pow_add] at h4
      exact Nat.le_trans (Nat.pow_le_pow_right (by omega) (by omega)) h4
/-- What a decimal rounded or padded is. -/
theorem scaled_pad (b : Bool) (n s kk t : Nat) (hn : n < 10 ^ 19) (hs : s ≤ kk) (hk : kk ≤ 19) (hp : PadTo n s kk t) :
    Ev (fun k => laws_gvScaled.f k b (n : Int) (s : Int) (kk : Int)) (sg b n, lim (n * 10 ^ t), -((s + t : Nat) : Int)) := by
  have hmx : mx (kk : Int) 0 = (kk : Int) := by unfold mx; rw [if_neg (by omega)]
  unfold laws_gvScaled.f
  rw [hmx]
  exact Ev.neg (by omega) (Ev.bind (fixDec b n s hn (by omega)) (Ev.bind (padded b n s kk t hk hp) (Ev.pure _)))
end Go.Proofs.YtcgdphciepdkiaaDoor.Lm
namespace Go.Proofs.YtcgdphciepdkiaaDoor.Lm
open Go.RowKit Go.Proofs.YtcgdphciepdkiaaDoorW.PrintWords Go.Proofs.YtcgdphciepdkiaaDoor.S
set_option linter.unusedVariables false

theorem heM_lt (n s kk : Nat) (hn : n < 10 ^ 19) (hk : kk < s) : heM n (10 ^ (s - kk)) < 10 ^ 19 := by
  obtain ⟨hev, h10⟩ := ten_even hk
  have hdt := div_ten hn h10
  unfold heM
  generalize n / 10 ^ (s - kk) = q at *
  split <;> omega
theorem scaled_half (b : Bool) (n s kk : Nat) (hn : n < 10 ^ 19) (hs : s ≤ 19) (hk : kk < s) :
    Ev (fun k => laws_gvScaled.f k b (n : Int) (s : Int) (kk : Int)) (sg (sg b n) (heM n (10 ^ (s - kk))), lim (heM n (10 ^ (s - kk))), -(kk : Int)) := by
  obtain ⟨hev, h10⟩ := ten_even hk
  have hdt := div_ten hn h10
  have hmx : mx (kk : Int) 0 = (kk : Int) := by unfold mx; rw [if_neg (by omega)]
  unfold laws_gvScaled.f
  rw [hmx]
  refine Ev.pos (by omega) (Ev.bind (fixNum b n s hn hs) (Ev.bind (fracRound (sg b n) n s kk 5 (decide (10 ^ (s - kk) / 2 < n % 10 ^ (s - kk)) || (decide (10 ^ (s - kk) / 2 = n % 10 ^ (s - kk)) && decide (n / 10 ^ (s - kk) % 2 = 1))) (heM n (10 ^ (s - kk))) hn hs hk ?_ ?_) (Ev.pure _)))
  · unfold heM
    generalize 10 ^ (s - kk) = p at *
    generalize n / p = q at *
    generalize n % p = r at *
    congr 1
    rw [eq_iff_iff]
    simp only [Bool.and_eq_true, Bool.or_eq_true, decide_eq_true_eq]
    omega
  · intro h0
    unfold spec_rounds.f
    rw [if_neg (by decide), if_neg (by decide), if_neg (by decide), if_neg (by decide), if_pos rfl]
    generalize 10 ^ (s - kk) = p at *
    generalize decide (n / p % 2 = 1) = o at *
    generalize n % p = r at *
    by_cases h1 : p / 2 < r
    · rw [if_pos (cmp_gt.2 (by omega)), decide_eq_true h1]; rfl
    · rw [if_neg (fun h => by have := cmp_gt.1 h; omega), decide_eq_false h1]
      by_cases h2 : p / 2 = r
      · rw [if_pos (cmp_eq.2 (by omega)), decide_eq_true h2, Bool.false_or, Bool.true_and]
      · rw [if_neg (fun h => by have := cmp_eq.1 h; omega), decide_eq_false h2]; rfl
end Go.Proofs.YtcgdphciepdkiaaDoor.Lm
