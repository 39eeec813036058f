/-
  WHAT THE REFERENCE's NUMBERS ANSWER, further: String and Digits.
-/
import Derived.Test.YtghabdpbacgicaaGreatDoorLmA0
import Derived.Test.YtghabdpbacgicaaGreatDoorSStr
namespace Go.Proofs.YtghabdpbacgicaaGreatDoor.Lm
open Go.RowKit Go.Proofs.YtghabdpbacgicaaGreatDoorW.PrintWords Go.Proofs.YtghabdpbacgicaaGreatDoor.S
set_option linter.unusedVariables false

/-! ### String, Digits -/
/-- The decimal digits of a number as a text. -/
def decimal (n : Nat) : ByteArray := if n = 0 then ⟨#[48]⟩ else strOfNums (revDig n).reverse
theorem strOfNums_size (l : List Int) : (strOfNums l).size = l.length := by unfold strOfNums; show ((l.map _).toArray).size = _; simp

/-- What stands when t bytes at each end have changed places. -/
theorem string_rev (x : List Int) (hL : x.length < 9223372036854775807) (d : Nat) : ∀ (t : Nat) (y : List Int), d = x.length - 2 * t → 2 * t ≤ x.length + 1 → y.length = x.length →
    (∀ p, p < x.length → y.getD p 0 = if p < t ∨ x.length - t ≤ p then x.getD (x.length - 1 - p) 0 else x.getD p 0) →
    Ev (fun k => spec_Nat_String.l2 k y (t : Int) ((x.length : Int) - 1 - (t : Int))) (strOfNums x.reverse) := by
  induction d using Nat.strongRecOn with
  | _ d ih =>
    intro t y hd ht hy hp
    refine Ev.step ?_
    simp only [spec_Nat_String.l2]
    by_cases h : 2 * t + 1 < x.length
    · obtain ⟨j, hj⟩ : ∃ j : Nat, (x.length : Int) - 1 - (t : Int) = (j : Int) := ⟨x.length - 1 - t, by omega⟩
      have hj' : j = x.length - 1 - t := by omega
      rw [hj]
      refine Ev.pos (by omega) (Ev.pos (by omega) (Ev.pos (by omega) (Ev.pos (by omega) (Ev.pos (by omega) ?_))))
      have e1 : wrap64 ((t : Int) + 1) = ((t + 1 : Nat) : Int) := by rw [w64 (by omega) (by omega)]; omega
      have e2 : wrap64 ((j : Int) - 1) = (x.length : Int) - 1 - ((t + 1 : Nat) : Int) := by rw [w64 (by omega) (by omega)]; omega
      rw [e1, e2, Int.toNat_natCast, Int.toNat_natCast]
      refine ih (x.length - 2 * (t + 1)) (by omega) (t + 1) _ rfl (by omega) (by simp [hy]) (fun p hpl => ?_)
      have r1 : rd y (j : Int) = x.getD j 0 := by
        unfold rd; rw [Int.toNat_natCast, hp j (by omega), if_neg (by omega)]
      have r2 : rd y (t : Int) = x.getD t 0 := by
        unfold rd; rw [Int.toNat_natCast, hp t (by omega), if_neg (by omega)]
      rw [r1, r2]
      have hpp := hp p hpl
      rw [List.getD_eq_getElem?_getD, List.getElem?_set, List.getElem?_set]
      by_cases c1 : j = p
      · subst c1
        rw [if_pos rfl, if_pos (by rw [List.length_set]; omega), if_pos (by omega)]
        rw [show x.length - 1 - j = t by omega]; rfl
      · rw [if_neg c1]
        by_cases c2 : t = p
        · subst c2
          rw [if_pos rfl, if_pos (by omega), if_pos (by omega), show x.length - 1 - t = j by omega]; rfl
        · rw [if_neg c2, ← List.getD_eq_getElem?_getD, hpp]
          by_cases c3 : p < t ∨ x.length - t ≤ p
          · rw [if_pos c3, if_pos (by omega)]
          · rw [if_neg c3, if_neg (by omega)]
    · refine Ev.neg (by omega) ?_
      have : y = x.reverse := by
        apply List.ext_getElem (by simp [hy])
        intro p h1 h2
        have h3 := hp p (by omega)
        rw [List.getD_eq_getElem?_getD, List.getElem?_eq_getElem h1] at h3
        rw [List.getElem_reverse]
        have h4 : y[p] = x.getD (x.length - 1 - p) 0 := by
          show (some y[p]).getD 0 = _
          rw [h3]
          by_cases c3 : p < t ∨ x.length - t ≤ p
          · rw [if_pos c3]
          · rw [if_neg c3, show x.length - 1 - p = p by omega]
        rw [h4, List.getD_eq_getElem?_getD, List.getElem?_eq_getElem (by omega)]; rfl
      rw [this]
      exact Ev.pure _

/-- The inner loop: the digits of one limb; nine where another limb follows. -/
theorem string_inner (n i : Nat) (hi : 9 * i + 20 < 140737488355328) (h0 : n / 1000000000 ^ i ≠ 0)
    (K : Ev (fun k => spec_Nat_String.l0 k (lim n) ((revDig n).take (9 * i + 9)) (lim n) ((lim n).length : Int) ((i + 1 : Nat) : Int)) (decimal n))
    (m : Nat) : ∀ (x : Nat) (out : List Int), m ≤ 9 → x = n / 1000000000 ^ i % 1000000000 / 10 ^ (9 - m) →
    out = (revDig n).take (9 * i + (9 - m)) → 9 * i + (9 - m) ≤ (revDig n).length →
    Ev (fun k => spec_Nat_String.l1 k (lim n) out (i : Int) (x : Int) ((9 - m : Nat) : Int) (lim n) ((lim n).length : Int) (i : Int)) (decimal n) := by
  have hi' : i < 9223372036854775807 := by omega
  induction m with
  | zero =>
    intro x out _ hx hout hle
    refine Ev.step ?_
    simp only [spec_Nat_String.l1]
    refine Ev.neg (by omega) ?_
    rw [w64s i hi', hout]
    exact K
  | succ m ih =>
    intro x out hm hx hout hle
    refine Ev.step ?_
    simp only [spec_Nat_String.l1]
    refine Ev.pos (by omega) ?_
    obtain ⟨q, hq⟩ : ∃ q, q = 9 - (m + 1) := ⟨_, rfl⟩
    have hq1 : 9 - m = q + 1 := by omega
    rw [← hq] at hx hout hle ⊢
    rw [hq1] at ih
    have hd : n / 10 ^ (9 * i + q) = n / 1000000000 ^ i / 10 ^ q := by
      rw [Nat.pow_add, ← Nat.div_div_eq_div_mul, Nat.pow_mul]
    have hx10 : x % 10 = n / 10 ^ (9 * i + q) % 10 := by
      rw [hd, hx]
      have e9 : (1000000000 : Nat) = 10 ^ q * 10 ^ (m + 1) := by rw [← Nat.pow_add, show q + (m + 1) = 9 by omega]
      rw [show n / 1000000000 ^ i % 1000000000 = n / 1000000000 ^ i % (10 ^ q * 10 ^ (m + 1)) by rw [← e9], Nat.mod_mul_right_div_self, Nat.pow_succ, Nat.mul_comm (10 ^ m), Nat.mod_mul_right_mod]
    have e1 : (48 + Int.tmod (x : Int) 10) % 256 = ((48 + x % 10 : Nat) : Int) := by rw [Int.tmod_eq_emod_of_nonneg (by omega)]; omega
    have hxs : x < 1000000000 := by
      rw [hx]; exact Nat.lt_of_le_of_lt (Nat.div_le_self _ _) (Nat.mod_lt _ (by omega))
    have e2 : (Int.tdiv (x : Int) 10) % 4294967296 = ((x / 10 : Nat) : Int) := by rw [Int.tdiv_eq_ediv_of_nonneg (by omega)]; omega
    have hq' : q < 9223372036854775807 := by omega
    have hol : out.length < 140737488355328 := Nat.lt_of_le_of_lt (by rw [hout]; exact List.length_take_le _ _) (show 9 * i + q < 140737488355328 from by clear hx hout hle ih; omega)
    have go : 9 * i + q < (revDig n).length →
        Ev (fun k => spec_Nat_String.l1 k (lim n) (out ++ [(48 + Int.tmod (x : Int) 10) % 256]) (i : Int) ((Int.tdiv (x : Int) 10) % 4294967296) (wrap64 ((q : Int) + 1)) (lim n) ((lim n).length : Int) (i : Int)) (decimal n) := by
      intro hlt
      rw [e1, e2, w64s q hq']
      refine ih _ _ (Nat.le_of_succ_le hm) (by rw [hx, Nat.div_div_eq_div_mul, Nat.pow_succ]) ?_ hlt
      have g := revDig_get n _ hlt
      rw [List.getD_eq_getElem?_getD, List.getElem?_eq_getElem hlt] at g
      rw [show 9 * i + (q + 1) = 9 * i + q + 1 by omega, List.take_succ_eq_append_getElem hlt, hout, hx10]
      congr 1
      rw [← g]; rfl
    have hb := len_i n (i + 1)
    have hz1 : n / 10 ^ (9 * i + q) ≠ 0 ↔ 9 * i + q < (revDig n).length := (revDig_len n (9 * i + q)).symm
    by_cases hx0 : x > 0
    · refine Ev.pos (Int.natCast_pos.2 hx0) (Ev.pos hol (go (hz1.1 ?_)))
      rw [hd]
      intro hz
      have h4 := Nat.div_le_div_right (c := 10 ^ q) (Nat.mod_le (n / 1000000000 ^ i) 1000000000)
      omega
    · refine Ev.neg (fun h => hx0 (Int.natCast_pos.1 h)) ?_
      rw [w64s i hi']
      by_cases hn : n / 1000000000 ^ (i + 1) ≠ 0
      · refine Ev.pos (hb.2 hn) (Ev.pos hol (go (hz1.1 ?_)))
        rw [hd]
        intro hz
        apply hn
        have e9 : (1000000000 : Nat) = 10 ^ q * 10 ^ (m + 1) := by rw [← Nat.pow_add, show q + (m + 1) = 9 by omega]
        rw [pow_succ_div, show n / 1000000000 ^ i / 1000000000 = n / 1000000000 ^ i / (10 ^ q * 10 ^ (m + 1)) by rw [← e9], ← Nat.div_div_eq_div_mul, hz, Nat.zero_div]
      · refine Ev.neg (fun h => hn (hb.1 h)) ?_
        have hall : (revDig n).length ≤ 9 * i + q := by
          rcases Nat.lt_or_ge (9 * i + q) (revDig n).length with h | h
          · have h5 := hz1.2 h
            rw [hd] at h5
            have h6 : n / 1000000000 ^ i < 1000000000 := by
              rw [pow_succ_div] at hn
              omega
            rw [Nat.mod_eq_of_lt h6] at hx
            omega
          · exact h
        rw [hout, List.take_of_length_le hall, ← List.take_of_length_le (l := revDig n) (i := 9 * i + 9) (by omega)]
        exact K
theorem string_outer (n : Nat) (hn : 9 * (lim n).length + 20 < 140737488355328) (d : Nat) : ∀ i : Nat, i + d = (lim n).length → Ev (fun k => spec_Nat_String.l0 k (lim n) ((revDig n).take (9 * i)) (lim n) ((lim n).length : Int) (i : Int)) (decimal n) := by
  induction d with
  | zero =>
    intro i hi
    refine Ev.step ?_
    simp only [spec_Nat_String.l0]
    refine Ev.neg (by omega) ?_
    have hz : n / 1000000000 ^ i = 0 := by
      have := (len_lim n i)
      rcases Nat.eq_zero_or_pos (n / 1000000000 ^ i) with h | h
      · exact h
      · have := this.2 (by omega); omega
    have hall : (revDig n).length ≤ 9 * i := by
      have := revDig_len n (9 * i)
      rw [show n / 10 ^ (9 * i) = n / 1000000000 ^ i by rw [Nat.pow_mul]] at this
      rcases Nat.lt_or_ge (9 * i) (revDig n).length with h | h
      · exact absurd hz (this.1 h)
      · exact h
    rw [List.take_of_length_le hall]
    by_cases h0 : n = 0
    · subst h0
      rw [revDig_zero]
      exact Ev.pos (by simp) (Ev.pure _)
    · have hp : 0 < (revDig n).length := by rw [revDig_pos h0]; simp
      refine Ev.neg (by omega) ?_
      rw [w64 (by omega) (by omega)]
      unfold decimal
      rw [if_neg h0]
      have := string_rev (revDig n) (by omega) _ 0 (revDig n) rfl (by omega) rfl (fun p hp => by rw [if_neg (by omega)])
      simpa using this
  | succ d ih =>
    intro i hi
    have h1 := ih (i + 1) (by omega)
    have hnz : n / 1000000000 ^ i ≠ 0 := (len_lim n i).1 (by omega)
    have hle : 9 * i < (revDig n).length := by
      rw [revDig_len, Nat.pow_mul]; exact hnz
    have h2 := string_inner n i (by omega) hnz h1 9 (n / 1000000000 ^ i % 1000000000) ((revDig n).take (9 * i)) (by omega) (by simp) (by simp) (by omega)
    refine Ev.step ?_
    simp only [spec_Nat_String.l0]
    refine Ev.pos (by omega) (Ev.pos (by omega) (Ev.pos (by omega) ?_))
    rw [rd_lim]
    exact h2
theorem natString (n : Nat) (hn : 9 * (lim n).length + 20 < 140737488355328) : Ev (fun k => spec_Nat_String.f k (lim n)) (decimal n) :=
  string_outer n hn (lim n).length 0 (by omega)
/-- How many decimal digits a number has; 0 has none. -/
def ndig (n : Nat) : Nat := (revDig n).length
theorem ndig_le {n m : Nat} : ndig n ≤ m ↔ n < 10 ^ m := revDig_le n m
end Go.Proofs.YtghabdpbacgicaaGreatDoor.Lm
