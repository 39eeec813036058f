/-
  WHAT THE REFERENCE's NUMBERS ANSWER, further: NatSub, NatDiv.
-/
import Derived.Test.YtcgdphciepdkiaaDoorLmC
namespace Go.Proofs.YtcgdphciepdkiaaDoor.Lm
open Go.RowKit Go.Proofs.YtcgdphciepdkiaaDoorW.PrintWords Go.Proofs.YtcgdphciepdkiaaDoor.S
set_option linter.unusedVariables false

theorem mod_step (a i : Nat) : a % 1000000000 ^ (i + 1) = a % 1000000000 ^ i + 1000000000 ^ i * (a / 1000000000 ^ i % 1000000000) := by
  rw [Nat.pow_succ, Nat.mod_mul]
theorem len_mul (a b : Nat) : (lim (a * b)).length ≤ (lim a).length + (lim b).length := by
  by_cases h0 : a = 0
  · subst h0; rw [Nat.zero_mul, lim_zero]; simp
  refine len_le ?_
  rw [Nat.pow_add]
  have h1 : a < 1000000000 ^ (lim a).length := lt_of_len (Nat.le_refl _)
  have h2 : b < 1000000000 ^ (lim b).length := lt_of_len (Nat.le_refl _)
  exact Nat.mul_lt_mul_of_lt_of_le h1 (Nat.le_of_lt h2) (by omega)
theorem len_one {g : Nat} (h : g < 1000000000) : (lim g).length ≤ 1 := len_le (by omega)
theorem len_mono {a b : Nat} (h : a ≤ b) : (lim a).length ≤ (lim b).length := len_le (Nat.lt_of_le_of_lt h (lt_of_len (Nat.le_refl _)))

/-! ### NatSub -/
theorem natSub_loop (a b N : Nat) (hN : N = (lim a).length) (hN2 : N < 35184372088832) (hab : b ≤ a) (d : Nat) : ∀ (i c : Nat) (out : List Int), i + d = N → c ≤ 1 → out.length = i → Ok out →
    val out + b % 1000000000 ^ i = a % 1000000000 ^ i + c * 1000000000 ^ i →
    Ev (fun k => spec_NatSub.l0 k (lim b) out (c : Int) (lim a) (N : Int) (i : Int)) (lim (a - b)) := by
  induction d with
  | zero =>
    intro i c out hi hc hlen hok hv
    refine Ev.step ?_
    simp only [spec_NatSub.l0]
    refine Ev.neg (by omega) ?_
    have ha : a < 1000000000 ^ i := lt_of_len (by omega)
    have hvl := val_lt hok
    rw [hlen] at hvl
    rw [Nat.mod_eq_of_lt ha, Nat.mod_eq_of_lt (Nat.lt_of_le_of_lt hab ha)] at hv
    have ht := natTrim out hok (by omega)
    have e : val out = a - b := by
      generalize 1000000000 ^ i = P at *
      rcases (show c = 0 ∨ c = 1 by omega) with rfl | rfl <;> omega
    rw [e] at ht
    exact Ev.bind ht (Ev.pure _)
  | succ d ih =>
    intro i c out hi hc hlen hok hv
    refine Ev.step ?_
    simp only [spec_NatSub.l0]
    rw [rd_lim, rd_lim]
    have hb0 := len_i b i
    have hx : a / 1000000000 ^ i % 1000000000 < 1000000000 := Nat.mod_lt _ (by omega)
    have hy : b / 1000000000 ^ i % 1000000000 < 1000000000 := Nat.mod_lt _ (by omega)
    have next : ∀ (dg c' : Nat) (X C : Int), X = (dg : Int) → C = (c' : Int) → dg + (c + b / 1000000000 ^ i % 1000000000) = a / 1000000000 ^ i % 1000000000 + c' * 1000000000 → dg < 1000000000 → c' ≤ 1 →
        Ev (fun k => spec_NatSub.l0 k (lim b) (out ++ [X]) C (lim a) (N : Int) (wrap64 ((i : Int) + 1))) (lim (a - b)) := by
      intro dg c' X C hX hC he hd hc'
      subst hX; subst hC
      rw [w64s i (by omega)]
      refine ih (i + 1) c' _ (by omega) hc' (by rw [List.length_append, List.length_singleton, hlen]) (ok_snoc hok (by omega) (by omega)) ?_
      rw [val_snoc, mod_step a, mod_step b, hlen, Int.toNat_natCast, Nat.pow_succ]
      generalize a / 1000000000 ^ i % 1000000000 = x at *
      generalize b / 1000000000 ^ i % 1000000000 = y at *
      generalize a % 1000000000 ^ i = am at *
      generalize b % 1000000000 ^ i = bm at *
      generalize 1000000000 ^ i = P at *
      have hm : P * dg + (P * c + P * y) = P * x + P * (c' * 1000000000) := by rw [← Nat.mul_add, ← Nat.mul_add, ← Nat.mul_add, he]
      rw [Nat.mul_left_comm c' P 1000000000]
      rw [Nat.mul_comm c P] at hv
      generalize P * (c' * 1000000000) = m1 at *
      generalize P * dg = m2 at *
      generalize P * c = m3 at *
      generalize P * y = m4 at *
      generalize P * x = m5 at *
      omega
    generalize a / 1000000000 ^ i % 1000000000 = x at *
    refine Ev.pos (by omega) (Ev.pos (by omega) (Ev.pos (by omega) ?_))
    by_cases h1 : b / 1000000000 ^ i ≠ 0
    · refine Ev.pos (hb0.2 h1) ?_
      generalize b / 1000000000 ^ i % 1000000000 = y at *
      by_cases h2 : x < c + y
      · refine Ev.pos (by omega) (Ev.pos (by omega) ?_)
        exact next (x + 1000000000 - (c + y)) 1 _ _ (by omega) rfl (by omega) (by omega) (by omega)
      · refine Ev.neg (by omega) (Ev.pos (by omega) ?_)
        exact next (x - (c + y)) 0 _ _ (by omega) rfl (by omega) (by omega) (by omega)
    · refine Ev.neg (fun h => h1 (hb0.1 h)) ?_
      have hy0 : b / 1000000000 ^ i % 1000000000 = 0 := by
        have : b / 1000000000 ^ i = 0 := by omega
        rw [this]
      rw [hy0] at next
      by_cases h2 : x < c
      · refine Ev.pos (by omega) (Ev.pos (by omega) ?_)
        exact next (x + 1000000000 - c) 1 _ _ (by omega) rfl (by omega) (by omega) (by omega)
      · refine Ev.neg (by omega) (Ev.pos (by omega) ?_)
        exact next (x - c) 0 _ _ (by omega) rfl (by omega) (by omega) (by omega)
theorem natSub (a b : Nat) (hab : b ≤ a) (hl : (lim a).length < 35184372088832) : Ev (fun k => spec_NatSub.f k (lim a) (lim b)) (lim (a - b)) := by
  unfold spec_NatSub.f
  exact natSub_loop a b _ rfl hl hab (lim a).length 0 0 [] (by omega) (by omega) rfl ok_nil (by simp [val, Nat.mod_one])
end Go.Proofs.YtcgdphciepdkiaaDoor.Lm
