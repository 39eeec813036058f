/-
  WHAT THE REFERENCE's NUMBERS ANSWER, further: natShort, natGuess, NatSub, NatDiv.
-/
import Derived.Test.YtcgdphciepdkiaaDoorLmB
import Derived.Test.YtcgdphciepdkiaaDoorSShort
import Derived.Test.YtcgdphciepdkiaaDoorSDiv
namespace Go.Proofs.YtcgdphciepdkiaaDoor.Lm
open Go.RowKit Go.Proofs.YtcgdphciepdkiaaDoorW.PrintWords Go.Proofs.YtcgdphciepdkiaaDoor.S
set_option linter.unusedVariables false

theorem div_step (a j : Nat) : a / 1000000000 ^ j = 1000000000 * (a / 1000000000 ^ (j + 1)) + a / 1000000000 ^ j % 1000000000 := by
  rw [pow_succ_div]; exact (Nat.div_add_mod _ _).symm

/-! ### natShort -/
theorem short_loop (a b N : Nat) (hb : 0 < b) (hb2 : b ≤ 1000000000) (hN : N = (lim a).length) (hN2 : N < 9223372036854775807) (i : Nat) : ∀ (out : List Int) (rest : Nat), i ≤ N → out.length = N → Ok out →
    rest = a / 1000000000 ^ i % b → val out = 1000000000 ^ i * (a / 1000000000 ^ i / b) → (∀ p, p < i → out.getD p 0 = 0) →
    Ev (fun k => spec_natShort.l0 k (lim a) (b : Int) out (rest : Int) ((i : Int) - 1)) (lim (a / b), ((a % b : Nat) : Int)) := by
  induction i with
  | zero =>
    intro out rest hi hlen hok hr hv hz
    refine Ev.step ?_
    simp only [spec_natShort.l0]
    refine Ev.neg (by omega) ?_
    simp only [Nat.pow_zero, Nat.div_one, Nat.one_mul] at hr hv
    have hlt : a % b < b := Nat.mod_lt _ hb
    have ht := natTrim out hok (by omega)
    rw [hv] at ht
    refine Ev.bind ht ?_
    rw [hr, show ((a % b : Nat) : Int) % 4294967296 = ((a % b : Nat) : Int) by omega]
    exact Ev.pure _
  | succ j ih =>
    intro out rest hi hlen hok hr hv hz
    refine Ev.step ?_
    simp only [spec_natShort.l0]
    rw [show ((j + 1 : Nat) : Int) - 1 = (j : Int) by omega, rd_lim, Int.toNat_natCast]
    have hstep := div_step a j
    have hdig : a / 1000000000 ^ j % 1000000000 < 1000000000 := Nat.mod_lt _ (by omega)
    rw [pow_succ_div] at hr hv
    rw [pow_succ_div] at hstep
    generalize a / 1000000000 ^ j = A at *
    have hr1 : rest < b := by rw [hr]; exact Nat.mod_lt _ hb
    have eb : IntKind.u64.wrap (b : Int) = (b : Int) := wu64 (by omega) (by omega)
    have hprod : rest * 1000000000 ≤ 1000000000 * 1000000000 := Nat.mul_le_mul (by omega) (by omega)
    have e1 : IntKind.u64.wrap ((rest : Int) * 1000000000) = ((rest * 1000000000 : Nat) : Int) := by rw [wu64 (by omega) (by omega)]; omega
    have e2 : IntKind.u64.wrap ((A % 1000000000 : Nat) : Int) = ((A % 1000000000 : Nat) : Int) := wu64 (by omega) (by omega)
    rw [eb, e1, e2]
    obtain ⟨t, ht⟩ : ∃ t, t = rest * 1000000000 + A % 1000000000 := ⟨_, rfl⟩
    have e3 : IntKind.u64.wrap (((rest * 1000000000 : Nat) : Int) + ((A % 1000000000 : Nat) : Int)) = (t : Int) := by rw [wu64 (by omega) (by omega)]; omega
    rw [e3]
    have htb : t < b * 1000000000 := by
      have := Nat.mul_le_mul_right 1000000000 (show rest + 1 ≤ b by omega)
      omega
    have hq : t / b < 1000000000 := (Nat.div_lt_iff_lt_mul hb).2 (by rw [Nat.mul_comm]; exact htb)
    have hm : t % b < b := Nat.mod_lt _ hb
    have e4 : IntKind.u64.wrap (Int.tdiv (t : Int) (b : Int)) % 4294967296 = ((t / b : Nat) : Int) := by
      rw [Int.tdiv_eq_ediv_of_nonneg (by omega), ← Int.natCast_ediv]
      generalize t / b = q at *
      rw [wu64 (by omega) (by omega)]; omega
    have e5 : Int.tmod (t : Int) (b : Int) = ((t % b : Nat) : Int) := by rw [Int.tmod_eq_emod_of_nonneg (by omega)]; exact (Int.natCast_emod t b).symm
    rw [e4, e5, w64n' j (by omega)]
    refine Ev.pos (by omega) (Ev.pos (by omega) (Ev.pos (by omega) (Ev.neg (by omega) (Ev.pos (by omega) ?_))))
    have hqA : A / b = 1000000000 * (A / 1000000000 / b) + t / b ∧ A % b = t % b := by
      have hd := Nat.div_add_mod (A / 1000000000) b
      have eA : A = t + b * (1000000000 * (A / 1000000000 / b)) := by
        have e6 : b * (1000000000 * (A / 1000000000 / b)) = 1000000000 * (b * (A / 1000000000 / b)) := by
          rw [← Nat.mul_assoc, Nat.mul_comm b, Nat.mul_assoc]
        rw [e6]; omega
      constructor
      · conv => lhs; rw [eA]
        rw [Nat.add_mul_div_left _ _ hb]; omega
      · conv => lhs; rw [eA]
        rw [Nat.add_mul_mod_self_left]
    refine ih _ (t % b) (by omega) (by rw [List.length_set]; exact hlen) (ok_set hok _ (by omega) (by omega)) hqA.2.symm ?_ (fun p hp => ?_)
    · have hs := val_set (l := out) (i := j) (by omega) hok ((t / b : Nat) : Int)
      rw [hz j (by omega), Int.toNat_zero, Int.toNat_natCast, Nat.mul_zero, Nat.add_zero] at hs
      rw [hs, hv, hqA.1, Nat.mul_add, Nat.pow_succ, Nat.mul_assoc]
    · rw [List.getD_eq_getElem?_getD, List.getElem?_set, if_neg (by omega), ← List.getD_eq_getElem?_getD]
      exact hz p (by omega)
theorem natShort (a b : Nat) (hb : 0 < b) (hb2 : b ≤ 1000000000) (hl : (lim a).length ≤ 70368744177664) : Ev (fun k => spec_natShort.f k (lim a) (b : Int)) (lim (a / b), ((a % b : Nat) : Int)) := by
  unfold spec_natShort.f
  rw [Int.toNat_natCast, w64 (by omega) (by omega)]
  refine Ev.pos (by omega) (Ev.pos hl ?_)
  have h0 : a / 1000000000 ^ (lim a).length = 0 := Nat.div_eq_of_lt (lt_of_len (Nat.le_refl _))
  have := short_loop a b _ hb hb2 rfl (by omega) (lim a).length (List.replicate (lim a).length 0) 0 (Nat.le_refl _) (by rw [List.length_replicate]) (ok_zeros _)
    (by rw [h0, Nat.zero_mod]) (by rw [h0, Nat.zero_div, Nat.mul_zero, val_zeros]) (fun p hp => by rw [List.getD_eq_getElem?_getD, List.getElem?_replicate]; split <;> rfl)
  exact this

/-! ### natGuess -/
theorem natGuess (R Y : Nat) (hY : 0 < Y) (hR : R < Y * 1000000000) (hl : (lim Y).length < 70368744177664) : ∃ g : Nat, spec_natGuess.f (lim R) (lim Y) = some (g : Int) ∧ R / Y ≤ g ∧ g < 1000000000 := by
  have hRY : R / Y < 1000000000 := (Nat.div_lt_iff_lt_mul hY).2 (by rw [Nat.mul_comm]; exact hR)
  unfold spec_natGuess.f
  obtain ⟨n, hn⟩ : ∃ n, (lim Y).length = n + 1 := by
    have : (lim Y).length ≠ 0 := fun h => by
      have := len_zero (n := Y); omega
    exact ⟨(lim Y).length - 1, by omega⟩
  have hYlt : Y < 1000000000 ^ (n + 1) := lt_of_len (by omega)
  have hYge : 1000000000 ^ n ≤ Y := by
    have := (len_lim Y n).1 (by omega)
    rcases Nat.lt_or_ge Y (1000000000 ^ n) with h | h
    · exact absurd (Nat.div_eq_of_lt h) this
    · exact h
  have hp : 0 < 1000000000 ^ n := Nat.pow_pos (by omega)
  have hRlt : R < 1000000000 ^ (n + 1) * 1000000000 := Nat.lt_of_lt_of_le hR (Nat.mul_le_mul_right _ (by omega))
  have hRlen : (lim R).length ≤ n + 2 := len_le (by rw [Nat.pow_succ]; exact hRlt)
  by_cases h1 : (lim R).length < (lim Y).length
  · rw [if_pos (by omega)]
    refine ⟨0, rfl, ?_, by omega⟩
    have : R < Y := lt_of_len_lt h1
    rw [Nat.div_eq_of_lt this]; exact Nat.le_refl _
  · rw [if_neg (by omega), hn, w64p n (by omega), rd_lim, rd_lim, rd_lim]
    have hyt : Y / 1000000000 ^ n < 1000000000 := (Nat.div_lt_iff_lt_mul hp).2 (by rw [Nat.pow_succ, Nat.mul_comm] at hYlt; exact hYlt)
    have hyp : 0 < Y / 1000000000 ^ n := Nat.div_pos hYge hp
    have key : R / Y ≤ R / 1000000000 ^ n / (Y / 1000000000 ^ n) := by
      rw [Nat.div_div_eq_div_mul]
      exact Nat.div_le_div_left (Nat.mul_div_le Y _) (Nat.mul_pos hp hyp)
    have ht1 : R / 1000000000 ^ (n + 1) < 1000000000 := (Nat.div_lt_iff_lt_mul (Nat.pow_pos (by omega))).2 (by rw [Nat.mul_comm]; exact hRlt)
    have hst : R / 1000000000 ^ n = 1000000000 * (R / 1000000000 ^ (n + 1)) + R / 1000000000 ^ n % 1000000000 := div_step R n
    rw [Nat.mod_eq_of_lt hyt]
    have hlast : ∀ top : Nat, top = R / 1000000000 ^ n → ∃ g : Nat, (if (IntKind.u64.wrap ((Y / 1000000000 ^ n : Nat) : Int)) = 0 then none else some (mn (IntKind.u64.wrap (Int.tdiv (top : Int) (IntKind.u64.wrap ((Y / 1000000000 ^ n : Nat) : Int)))) 999999999)) = some (g : Int) ∧ R / Y ≤ g ∧ g < 1000000000 := by
      intro top ht
      have htop : top < 1000000000 * 1000000000 := by
        have : R / 1000000000 ^ n % 1000000000 < 1000000000 := Nat.mod_lt _ (by omega)
        omega
      rw [← ht] at key
      clear hst ht hn hRlen h1 hYlt hYge hp hRlt
      generalize Y / 1000000000 ^ n = yt at *
      generalize R / Y = q at *
      rw [wu64 (i := (yt : Int)) (by omega) (by omega), if_neg (by omega), Int.tdiv_eq_ediv_of_nonneg (by omega), ← Int.natCast_ediv]
      have hle := Nat.div_le_self top yt
      generalize top / yt = g at *
      rw [wu64 (by omega) (by omega)]
      unfold mn
      by_cases hg : (g : Int) < 999999999
      · refine ⟨g, ?_, key, by omega⟩
        congr 1
        split <;> omega
      · refine ⟨999999999, ?_, by omega, by omega⟩
        congr 1
        split <;> omega
    rw [if_pos (by omega), if_pos (by omega)]
    by_cases h2 : (lim R).length > n + 1
    · rw [if_pos (by omega), if_pos (by omega), if_pos (by omega), if_pos (by omega)]
      rw [Nat.mod_eq_of_lt ht1]
      have hm : R / 1000000000 ^ n % 1000000000 < 1000000000 := Nat.mod_lt _ (by omega)
      have e1 : IntKind.u64.wrap ((IntKind.u64.wrap ((R / 1000000000 ^ n % 1000000000 : Nat) : Int)) + (IntKind.u64.wrap ((IntKind.u64.wrap ((R / 1000000000 ^ (n + 1) : Nat) : Int)) * 1000000000))) = ((R / 1000000000 ^ n : Nat) : Int) := by
        clear hlast key
        generalize R / 1000000000 ^ n = top at *
        generalize R / 1000000000 ^ (n + 1) = tt at *
        rw [wu64 (i := ((top % 1000000000 : Nat) : Int)) (by omega) (by omega), wu64 (i := (tt : Int)) (by omega) (by omega), wu64 (i := (tt : Int) * 1000000000) (by omega) (by omega), wu64 (by omega) (by omega)]
        omega
      rw [e1]
      exact hlast _ rfl
    · rw [if_neg (by omega), if_pos (by omega)]
      have h0 : R / 1000000000 ^ (n + 1) = 0 := Nat.div_eq_of_lt (lt_of_len (by omega))
      have hm : R / 1000000000 ^ n % 1000000000 = R / 1000000000 ^ n := by omega
      rw [hm]
      have hs : R / 1000000000 ^ n < 1000000000 := by omega
      have e1 : IntKind.u64.wrap ((R / 1000000000 ^ n : Nat) : Int) = ((R / 1000000000 ^ n : Nat) : Int) := by
        clear hlast key hst hm
        generalize R / 1000000000 ^ n = top at *
        exact wu64 (by omega) (by omega)
      rw [e1]
      exact hlast _ rfl
end Go.Proofs.YtcgdphciepdkiaaDoor.Lm
