/-
  WHAT THE REFERENCE's DECIMALS ANSWER: their fraction, its rounding, and that a decimal is the one told.
-/
import Derived.Test.YtcgdphciepdkiaaDoorLmC
import Derived.Test.YtcgdphciepdkiaaDoorLmW
import Derived.Test.YtcgdphciepdkiaaDoorSFRnd
import Derived.Test.YtcgdphciepdkiaaDoorSDFr
import Derived.Test.YtcgdphciepdkiaaDoorSSame
namespace Go.Proofs.YtcgdphciepdkiaaDoor.Lm
open Go.RowKit Go.Proofs.YtcgdphciepdkiaaDoorW.PrintWords Go.Proofs.YtcgdphciepdkiaaDoor.S
set_option linter.unusedVariables false

theorem sg_sg (b : Bool) (n : Nat) : sg (sg b n) n = sg b n := by unfold sg; rw [Bool.and_assoc, Bool.and_self]
theorem cmp_mul (a b c : Nat) (hc : 0 < c) : cmp (a * c) (b * c) = cmp a b := by
  unfold cmp
  by_cases h1 : a < b
  · rw [if_pos h1, if_pos (Nat.mul_lt_mul_of_pos_right h1 hc)]
  · rw [if_neg h1, if_neg (fun h => h1 (Nat.lt_of_mul_lt_mul_right h))]
    by_cases h2 : a = b
    · rw [if_pos h2, if_pos (by rw [h2])]
    · rw [if_neg h2, if_neg (fun h => h2 (Nat.eq_of_mul_eq_mul_right hc h))]
theorem one_lim : ([1] : List Int) = lim 1 := by rw [lim_pos (by omega), show 1 / 1000000000 = 0 by omega, lim_zero]; rfl
theorem oneF : spec_one.f = some (lim 1) := by unfold spec_one.f; rw [one_lim]
theorem p19 {s : Nat} (h : s ≤ 19) : 10 ^ s ≤ 10 ^ 19 := Nat.pow_le_pow_right (by omega) h
theorem len3 {n : Nat} (h : n ≤ 10 ^ 19) : (lim n).length ≤ 3 := len_le (by omega)

theorem fixDec (b : Bool) (n s : Nat) (hn : n < 10 ^ 19) (hs : s ≤ 19) : Ev (fun k => spec_FixDec.f k b (n : Int) (s : Int)) (sg b n, lim n, -(s : Int)) := by
  unfold spec_FixDec.f
  refine Ev.bind (natFrom n (by omega)) (Ev.bind (Ev.of (wholeOf b n)) ?_)
  rw [w64 (by omega) (by omega)]
  exact Ev.pure _
theorem decFrac (b : Bool) (n s : Nat) (hn : n < 10 ^ 19) (hs : s ≤ 19) : Ev (fun k => spec_Dec_Frac.f k (sg b n) (lim n) (-(s : Int))) (sg b n, lim n, lim (10 ^ s)) := by
  unfold spec_Dec_Frac.f
  by_cases h : s = 0
  · subst h
    refine Ev.pos (by omega) ?_
    have hp := pow10 0 (by omega)
    refine Ev.bind hp (Ev.bind (natMul n (10 ^ 0) (by have := len3 (Nat.le_of_lt hn); have := len3 (p19 (show 0 ≤ 19 by omega)); omega)) ?_)
    rw [Nat.pow_zero, Nat.mul_one]
    refine Ev.bind (Ev.of (wholeOf (sg b n) n)) ?_
    rw [oneF, sg_sg]
    exact Ev.bind (Ev.pure _) (Ev.pure _)
  · refine Ev.neg (by omega) ?_
    rw [w64 (by omega) (by omega), Int.neg_neg]
    exact Ev.bind (pow10 s (by omega)) (Ev.pure _)
theorem fixNum (b : Bool) (n s : Nat) (hn : n < 10 ^ 19) (hs : s ≤ 19) : Ev (fun k => spec_FixNum.f k b (n : Int) (s : Int)) (sg b n, lim n, lim (10 ^ s)) := by
  unfold spec_FixNum.f
  exact Ev.bind (fixDec b n s hn hs) (Ev.bind (decFrac b n s hn hs) (Ev.pure _))
theorem wholeMul (a b : Bool) (x y : Nat) (h : (lim x).length + (lim y).length ≤ 70368744177664) : Ev (fun k => spec_Whole_Mul.f k a (lim x) b (lim y)) (sg (a != b) (x * y), lim (x * y)) := by
  unfold spec_Whole_Mul.f
  exact Ev.bind (natMul x y h) (Ev.bind (Ev.of (wholeOf (a != b) (x * y))) (Ev.pure _))
theorem wholeCmp_same (a : Bool) (x : Nat) (h : (lim x).length ≤ 9223372036854775807) : Ev (fun k => spec_Whole_Cmp.f k a (lim x) a (lim x)) 0 := by
  have hc := natCmp x x h
  rw [cmp_eq.2 rfl] at hc
  unfold spec_Whole_Cmp.f
  refine Ev.neg (by simp) (Ev.step ?_)
  simp only [spec_Whole_Cmp.j0]
  refine Ev.neg (by simp) (Ev.neg (by simp) ?_)
  cases a with
  | true => exact Ev.pos rfl (Ev.bind hc (Ev.pure _))
  | false => exact Ev.neg (by simp) (Ev.bind hc (Ev.pure _))
theorem fracCmp_same (b : Bool) (n d : Nat) (hl : (lim n).length + (lim d).length ≤ 1000000) : Ev (fun k => spec_Frac_Cmp.f k b (lim n) (lim d) b (lim n) (lim d)) 0 := by
  unfold spec_Frac_Cmp.f
  have hm := wholeMul b false n d (by omega)
  have hlm := len_mul n d
  exact Ev.bind hm (Ev.bind hm (Ev.bind (wholeCmp_same _ _ (by omega)) (Ev.pure _)))
theorem fixIs (b : Bool) (n s : Int) : spec_FixIs.f b n s = some (decide (n ≤ 9999999999999999999 ∧ 0 ≤ s ∧ s ≤ 19)) := by
  unfold spec_FixIs.f
  by_cases h1 : n ≤ 9999999999999999999
  · rw [if_pos h1]
    by_cases h2 : s ≥ 0
    · rw [if_pos h2]
      congr 1
      rw [decide_eq_decide]
      exact ⟨fun h => ⟨h1, h2, h⟩, fun h => h.2.2⟩
    · rw [if_neg h2, decide_eq_false (fun h => h2 h.2.1)]
  · rw [if_neg h1, decide_eq_false (fun h => h1 h.1)]
theorem fixHas (b : Bool) (n s : Nat) (hn : n < 10 ^ 19) (hs : s ≤ 19) : Ev (fun k => spec_FixHas.f k (sg b n) (n : Int) (s : Int) (sg b n) (lim n) (lim (10 ^ s))) true := by
  unfold spec_FixHas.f
  have h1 := len3 (Nat.le_of_lt hn)
  have h2 := len3 (p19 hs)
  refine Ev.bind (Ev.of (fixIs _ _ _)) (Ev.pos (decide_eq_true ⟨by omega, by omega, by omega⟩) ?_)
  have hf := fixNum (sg b n) n s hn hs
  rw [sg_sg] at hf
  have hc := fracCmp_same (sg b n) n (10 ^ s) (by omega)
  by_cases h : sg b n = true
  · refine Ev.pos h (Ev.neg (fun h0 => ?_) (Ev.bind hf (Ev.bind hc (Ev.pure _))))
    have : n = 0 := by omega
    subst this
    rw [sg_zero] at h; cases h
  · exact Ev.neg h (Ev.bind hf (Ev.bind hc (Ev.pure _)))
theorem fixSame (b : Bool) (n s : Nat) (hn : n < 10 ^ 19) (hs : s ≤ 19) : Ev (fun k => spec_FixSame.f k (sg b n) (n : Int) (s : Int) (sg b n) (lim n) (-(s : Int))) true := by
  unfold spec_FixSame.f
  refine Ev.bind (decFrac b n s hn hs) (Ev.bind (fixHas b n s hn hs) (Ev.pos rfl ?_))
  rw [w64 (by omega) (by omega), Int.neg_neg]
  simp only [beq_self_eq_true]
  exact Ev.pure _

/-! ### Rounding -/
theorem round_j1 (b : Bool) (q m kk : Nat) (up : Bool) (hq : q < 10 ^ 20) (hkk : kk ≤ 19) (hm : m = if up = true then q + 1 else q) (x y : List Int) :
    Ev (fun k => spec_Frac_Round.j1 k (kk : Int) (lim q) up b x y) (sg b m, lim m, -(kk : Int)) := by
  refine Ev.step ?_
  simp only [spec_Frac_Round.j1]
  have ew : wrap64 (-(kk : Int)) = -(kk : Int) := w64 (by omega) (by omega)
  rw [ew]
  cases up with
  | true =>
    refine Ev.pos rfl ?_
    rw [if_pos rfl] at hm
    subst hm
    rw [oneF]
    have hl : (lim (q + 1)).length ≤ 3 := len_le (by omega)
    exact Ev.bind (Ev.pure _) (Ev.bind (natAdd q 1 (by omega)) (Ev.bind (Ev.of (wholeOf b (q + 1))) (Ev.pure _)))
  | false =>
    refine Ev.neg (by simp) ?_
    rw [if_neg (by simp)] at hm
    subst hm
    exact Ev.bind (Ev.of (wholeOf b m)) (Ev.pure _)
theorem fracRound (b : Bool) (n s kk : Nat) (way : Int) (up : Bool) (m : Nat) (hn : n < 10 ^ 19) (hs : s ≤ 19) (hk : kk < s)
    (hm : m = if (decide (n % 10 ^ (s - kk) ≠ 0) && up) = true then n / 10 ^ (s - kk) + 1 else n / 10 ^ (s - kk))
    (hr : n % 10 ^ (s - kk) ≠ 0 → spec_rounds.f way b (cmp (2 * (n % 10 ^ (s - kk))) (10 ^ (s - kk))) (decide (n / 10 ^ (s - kk) % 2 = 1)) = some up) :
    Ev (fun k => spec_Frac_Round.f k b (lim n) (lim (10 ^ s)) (kk : Int) way) (sg b m, lim m, -(kk : Int)) := by
  unfold spec_Frac_Round.f
  have l1 := len3 (Nat.le_of_lt hn)
  have l2 := len3 (p19 hs)
  have l3 := len3 (p19 (show kk ≤ 19 by omega))
  have l4 := len_mul n (10 ^ kk)
  have hkp : 0 < 10 ^ kk := Nat.pow_pos (by omega)
  have hp : 0 < 10 ^ (s - kk) := Nat.pow_pos (by omega)
  have es : 10 ^ s = 10 ^ (s - kk) * 10 ^ kk := by rw [← Nat.pow_add]; congr 1; omega
  have hq : n / 10 ^ (s - kk) < 10 ^ 20 := Nat.lt_of_le_of_lt (Nat.div_le_self _ _) (by omega)
  refine Ev.pos (by omega) (Ev.bind (pow10 kk (by omega)) (Ev.bind (natMul n (10 ^ kk) (by omega)) (Ev.step ?_)))
  simp only [spec_Frac_Round.j0]
  have hd := natDiv (n * 10 ^ kk) (10 ^ s) (by rw [es]; exact Nat.mul_pos hp hkp) (by omega)
  rw [es, Nat.mul_div_mul_right _ _ hkp, Nat.mul_mod_mul_right] at hd
  rw [es]
  refine Ev.bind hd ?_
  have hmlt := Nat.mod_lt n hp
  have hrle : n % 10 ^ (s - kk) * 10 ^ kk + n % 10 ^ (s - kk) * 10 ^ kk < 1000000000 ^ 4 := by
    have h1 : n % 10 ^ (s - kk) * 10 ^ kk ≤ 10 ^ s := by rw [es]; exact Nat.mul_le_mul_right _ (Nat.le_of_lt hmlt)
    have := p19 hs
    omega
  have l5 := len_le hrle
  generalize 10 ^ (s - kk) = p at *
  generalize n / p = q at *
  generalize n % p = r at *
  by_cases h0 : r = 0
  · subst h0
    rw [Nat.zero_mul, lim_zero]
    refine Ev.neg (by simp) ?_
    exact round_j1 b q m kk false hq (by omega) (by simpa using hm) _ _
  have hr0 : r * 10 ^ kk ≠ 0 := fun h => by
    rcases Nat.mul_eq_zero.1 h with h | h <;> omega
  have hlen : 0 < (lim (r * 10 ^ kk)).length := by
    rcases Nat.eq_zero_or_pos (lim (r * 10 ^ kk)).length with h | h
    · exact absurd (lim_eq_nil.1 (List.length_eq_zero_iff.1 h)) hr0
    · exact h
  refine Ev.pos (Int.natCast_pos.2 hlen) (Ev.bind (natAdd _ _ (by omega)) (Ev.bind (natCmp _ _ (by omega)) ?_))
  have ec : cmp (r * 10 ^ kk + r * 10 ^ kk) (p * 10 ^ kk) = cmp (2 * r) p := by
    rw [← Nat.add_mul, ← Nat.two_mul]; exact cmp_mul _ _ _ hkp
  rw [ec]
  have hup : m = if up = true then q + 1 else q := by
    rw [decide_eq_true h0, Bool.true_and] at hm; exact hm
  have hR := hr h0
  by_cases hq0 : q = 0
  · subst hq0
    rw [show decide (0 % 2 = 1) = false from rfl] at hR
    rw [lim_zero]
    refine Ev.neg (by simp) (Ev.bind (Ev.of hR) ?_)
    have := round_j1 b 0 m kk up hq (by omega) hup (lim n) (lim (p * 10 ^ kk))
    rw [lim_zero] at this
    exact this
  · have hlq : 0 < (lim q).length := by
      rcases Nat.eq_zero_or_pos (lim q).length with h | h
      · exact absurd (lim_eq_nil.1 (List.length_eq_zero_iff.1 h)) hq0
      · exact h
    refine Ev.pos (Int.natCast_pos.2 hlq) (Ev.pos (Int.natCast_pos.2 hlq) ?_)
    have e0 : ((Int.tmod (rd (lim q) 0) 2) == 1) = decide (q % 2 = 1) := by
      have := rd_lim q 0
      rw [Nat.pow_zero, Nat.div_one] at this
      rw [show (0 : Int) = ((0 : Nat) : Int) from rfl, this, Int.tmod_eq_emod_of_nonneg (by omega)]
      rw [Bool.eq_iff_iff]; simp; omega
    rw [e0]
    exact Ev.bind (Ev.of hR) (round_j1 b q m kk up hq (by omega) hup _ _)
end Go.Proofs.YtcgdphciepdkiaaDoor.Lm
