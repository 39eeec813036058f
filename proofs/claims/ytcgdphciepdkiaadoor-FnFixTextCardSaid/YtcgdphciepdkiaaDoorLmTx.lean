/-
  WHAT THE REFERENCE's Plain ANSWERS: the letters of the decimal.
-/
import Derived.Test.YtcgdphciepdkiaaDoorLmT
import Derived.Test.YtcgdphciepdkiaaDoorSPla
namespace Go.Proofs.YtcgdphciepdkiaaDoor.Lm
open Go.RowKit Go.Proofs.YtcgdphciepdkiaaDoorW.PrintWords Go.Proofs.YtcgdphciepdkiaaDoor.S
set_option linter.unusedVariables false

/-! ### rows of letters as texts -/
theorem str_append (a b : List Int) : strOfNums (a ++ b) = strOfNums a ++ strOfNums b := by
  apply ByteArray.ext
  unfold strOfNums
  rw [ByteArray.data_append, List.map_append]
  simp
theorem str_take (l : List Int) (j : Nat) : (strOfNums l).extract 0 j = strOfNums (l.take j) := by
  apply ByteArray.ext
  unfold strOfNums
  rw [ByteArray.data_extract]
  show (l.map _).toArray.extract 0 j = _
  rw [List.extract_toArray, List.extract_eq_take_drop, List.drop_zero, Nat.sub_zero, ← List.map_take]
theorem str_drop (l : List Int) (j : Nat) : (strOfNums l).extract j (strOfNums l).size = strOfNums (l.drop j) := by
  apply ByteArray.ext
  rw [strOfNums_size]
  unfold strOfNums
  rw [ByteArray.data_extract]
  show (l.map _).toArray.extract j l.length = _
  rw [List.extract_toArray, List.extract_eq_take_drop, List.map_drop, List.take_of_length_le (by simp)]
theorem str_one (x : Nat) (h : x < 256) : (⟨#[UInt8.ofNat x]⟩ : ByteArray) = strOfNums [(x : Int)] := rfl

/-! ### the digits of a number -/
/-- The k lowest digits. -/
def dgs (n : Nat) : Nat → List Int
  | 0 => []
  | k + 1 => dig n k :: dgs n k
theorem dgs_len (n k : Nat) : (dgs n k).length = k := by
  induction k with
  | zero => rfl
  | succ k ih => rw [dgs, List.length_cons, ih]
theorem dig_succ (n k : Nat) : dig n (k + 1) = dig (n / 10) k := by
  unfold dig
  rw [Nat.pow_succ, Nat.mul_comm (10 ^ k), ← Nat.div_div_eq_div_mul]
theorem dgs_snoc (n k : Nat) : dgs n (k + 1) = dgs (n / 10) k ++ [dig n 0] := by
  induction k with
  | zero => rfl
  | succ k ih =>
    rw [dgs, ih, dig_succ, dgs]; rfl
theorem revDig_dgs (n : Nat) : (revDig n).reverse = dgs n (ndig n) := by
  induction n using Nat.strongRecOn with
  | _ n ih =>
    by_cases h : n = 0
    · subst h; unfold ndig; rw [revDig_zero]; rfl
    · have e : ndig n = ndig (n / 10) + 1 := by unfold ndig; rw [revDig_pos h, List.length_cons]
      rw [e, dgs_snoc, revDig_pos h, List.reverse_cons, ih (n / 10) (by omega)]
      congr 2
      unfold dig; rw [Nat.pow_zero, Nat.div_one]
/-- How many digits a number is written with. -/
def wid (n : Nat) : Nat := max (ndig n) 1
theorem ndig_zero : ndig 0 = 0 := by unfold ndig; rw [revDig_zero]; rfl
theorem ndig_pos {n : Nat} (h : n ≠ 0) : 0 < ndig n := by unfold ndig; rw [revDig_pos h]; simp
theorem decimal_dgs (n : Nat) : decimal n = strOfNums (dgs n (wid n)) := by
  unfold decimal wid
  by_cases h : n = 0
  · subst h; rw [if_pos rfl, ndig_zero]; rfl
  · rw [if_neg h, revDig_dgs, Nat.max_eq_left (ndig_pos h)]
theorem dgs_zeros (n k z : Nat) (h : n / 10 ^ k = 0) : dgs n (k + z) = List.replicate z 48 ++ dgs n k := by
  induction z with
  | zero => rfl
  | succ z ih =>
    have e : n / 10 ^ (k + z) = 0 := by
      rw [Nat.pow_add, ← Nat.div_div_eq_div_mul, h, Nat.zero_div]
    rw [show k + (z + 1) = k + z + 1 by omega, dgs, ih, dig_zero e, List.replicate_succ]; rfl
theorem wid_zero (n : Nat) : n / 10 ^ wid n = 0 := by
  rw [div_zero_iff]
  exact ndig_le.1 (Nat.le_max_left _ _)
/-! ### the letters -/
theorem tx_whole (n k : Nat) : tx n 0 k = dgs n k := by
  induction k with
  | zero => rfl
  | succ k ih => rw [tx_no (by omega), ih, dgs]
theorem tx_below (n s k : Nat) (h : k < s) : tx n s k = dgs n k := by
  induction k with
  | zero => rfl
  | succ k ih => rw [tx_no (by omega), ih (by omega), dgs]
theorem tx_split (n s d : Nat) (hs : 0 < s) : tx n s (s + d) = (dgs n (s + d)).take d ++ 46 :: (dgs n (s + d)).drop d := by
  induction d with
  | zero =>
    obtain ⟨t, rfl⟩ : ∃ t, s = t + 1 := ⟨s - 1, by omega⟩
    rw [Nat.add_zero, tx_pt rfl, tx_below n (t + 1) t (by omega)]; rfl
  | succ d ih =>
    rw [show s + (d + 1) = s + d + 1 by omega, tx_no (by omega), ih, dgs]; rfl
/-! ### zeros -/
theorem zeros_loop (m : Nat) (hm : m < 1000000) (d : Nat) : ∀ i : Nat, i + d = m → ∀ x : List Int, x = List.replicate i 48 ++ List.replicate d 0 →
    Ev (fun k => spec_zeros.l0 k x (m : Int) (i : Int)) (strOfNums (List.replicate m 48)) := by
  induction d with
  | zero =>
    intro i hi x hx
    refine Ev.step ?_
    simp only [spec_zeros.l0]
    obtain rfl : i = m := by omega
    refine Ev.neg (by omega) ?_
    rw [hx]
    simp only [List.replicate_zero, List.append_nil]
    exact Ev.pure _
  | succ d ih =>
    intro i hi x hx
    have hl : x.length = m := by rw [hx]; simp; omega
    refine Ev.step ?_
    simp only [spec_zeros.l0]
    refine Ev.pos (by omega) (Ev.pos (by omega) (Ev.pos (by omega) ?_))
    rw [w64s i (by omega), Int.toNat_natCast]
    refine ih (i + 1) (by omega) _ ?_
    rw [hx, List.set_append_right _ _ (by rw [List.length_replicate]; exact Nat.le_refl _), List.length_replicate, Nat.sub_self, List.replicate_succ, List.set_cons_zero, List.replicate_succ', List.append_assoc]
    rfl
theorem zerosF (m : Nat) (hm : m < 1000000) : Ev (fun k => spec_zeros.f k (m : Int)) (strOfNums (List.replicate m 48)) := by
  unfold spec_zeros.f
  have hmx : mx (m : Int) 0 = (m : Int) := by unfold mx; rw [if_neg (by omega)]
  rw [hmx, Int.toNat_natCast]
  refine Ev.pos (by omega) (Ev.pos (by omega) ?_)
  refine Ev.bind (Ev.pure _) ?_
  rw [List.length_replicate]
  exact zeros_loop m hm m 0 (by omega) _ (by simp)
/-! ### Plain -/
/-- The letters of a decimal. -/
def letters (neg : Bool) (n s : Nat) : List Int := if neg then 45 :: txt n s else txt n s
theorem letters_len (neg : Bool) (n s : Nat) : (letters neg n s).length ≤ txL n s + 2 := by
  have h := (tx_len n s (txL n s)).1
  unfold letters txt
  split
  · rw [List.length_cons]; omega
  · omega
theorem txL_le (n s : Nat) (hn : n < 10 ^ 19) (hs : s ≤ 19) : txL n s ≤ 20 := by
  have := ndig_le.2 hn
  unfold txL
  split <;> omega
theorem plainCut (neg : Bool) (n s : Nat) (J : Nat) (hs : 0 < s) (y : ByteArray) (hy : y = strOfNums (dgs n (txL n s))) (hJ : J + s = txL n s) :
    (if neg = true then (⟨#[45]⟩ : ByteArray) ++ (y.extract 0 J ++ (⟨#[46]⟩ : ByteArray) ++ y.extract J y.size) else y.extract 0 J ++ (⟨#[46]⟩ : ByteArray) ++ y.extract J y.size) = strOfNums (letters neg n s) := by
  have e : y.extract 0 J ++ (⟨#[46]⟩ : ByteArray) ++ y.extract J y.size = strOfNums (txt n s) := by
    unfold txt
    rw [hy, str_take, str_drop, show (⟨#[46]⟩ : ByteArray) = strOfNums [46] from rfl, ← str_append, ← str_append, ← hJ, Nat.add_comm J s, tx_split n s J hs, List.append_assoc]
    rfl
  rw [e]
  unfold letters
  cases neg
  · rfl
  · rw [if_pos rfl, if_pos rfl, show (⟨#[45]⟩ : ByteArray) = strOfNums [45] from rfl, ← str_append]; rfl
theorem plain_ev (neg : Bool) (n s : Nat) (hn : n < 10 ^ 19) (hs : s ≤ 19) : Ev (fun k => spec_Dec_Plain.f k neg (lim n) (-(s : Int))) (strOfNums (letters neg n s)) := by
  unfold spec_Dec_Plain.f
  have h3 : (lim n).length ≤ 3 := len_le (by omega)
  have hL := txL_le n s hn hs
  refine Ev.bind (natString n (by omega)) (Ev.neg (by omega) (Ev.step ?_))
  simp only [spec_Dec_Plain.j0]
  refine Ev.neg (by decide) (Ev.step ?_)
  simp only [spec_Dec_Plain.j1]
  have hsz : (decimal n).size = wid n := by rw [decimal_dgs, strOfNums_size, dgs_len]
  have hw : wid n ≤ 19 := by have := ndig_le.2 hn; unfold wid; omega
  by_cases h0 : s = 0
  · subst h0
    refine Ev.neg (by omega) ?_
    have e : decimal n = strOfNums (txt n 0) := by
      rw [decimal_dgs]; unfold txt
      rw [tx_whole]
      unfold txL wid; rw [if_pos rfl]
    unfold letters
    cases neg
    · exact Ev.neg (by decide) (by rw [e]; exact Ev.pure _)
    · refine Ev.pos rfl (Ev.pos (by rw [hsz]; omega) ?_)
      rw [e, show (⟨#[45]⟩ : ByteArray) = strOfNums [45] from rfl, ← str_append]
      exact Ev.pure _
  · refine Ev.pos (by omega) ?_
    have hz0 := wid_zero n
    have ew : wrap64 (-(-(s : Int))) = (s : Int) := by rw [Int.neg_neg]; exact w64 (by omega) (by omega)
    have fin : ∀ (y : ByteArray) (J : Nat), y = strOfNums (dgs n (txL n s)) → J + s = txL n s → wrap64 ((y.size : Int) + -(s : Int)) = (J : Int) →
        Ev (fun k => if 0 ≤ wrap64 ((y.size : Int) + -(s : Int)) then if wrap64 ((y.size : Int) + -(s : Int)) ≤ (y.size : Int) then if (y.extract 0 (wrap64 ((y.size : Int) + -(s : Int))).toNat).size + 1 ≤ 9223372036854775807 then if ((y.extract 0 (wrap64 ((y.size : Int) + -(s : Int))).toNat) ++ (⟨#[46]⟩ : ByteArray)).size + (y.extract (wrap64 ((y.size : Int) + -(s : Int))).toNat y.size).size ≤ 9223372036854775807 then if neg = true then if 1 + (((y.extract 0 (wrap64 ((y.size : Int) + -(s : Int))).toNat) ++ (⟨#[46]⟩ : ByteArray)) ++ (y.extract (wrap64 ((y.size : Int) + -(s : Int))).toNat y.size)).size ≤ 9223372036854775807 then some ((⟨#[45]⟩ : ByteArray) ++ (((y.extract 0 (wrap64 ((y.size : Int) + -(s : Int))).toNat) ++ (⟨#[46]⟩ : ByteArray)) ++ (y.extract (wrap64 ((y.size : Int) + -(s : Int))).toNat y.size))) else none else some (((y.extract 0 (wrap64 ((y.size : Int) + -(s : Int))).toNat) ++ (⟨#[46]⟩ : ByteArray)) ++ (y.extract (wrap64 ((y.size : Int) + -(s : Int))).toNat y.size)) else none else none else none else none) (strOfNums (letters neg n s)) := by
      intro y J hy hJ hw'
      have hys : y.size = txL n s := by rw [hy, strOfNums_size, dgs_len]
      rw [hw', Int.toNat_natCast]
      have e1 : (y.extract 0 J).size = J := by rw [ByteArray.size_extract]; omega
      have e2 : (y.extract J y.size).size = y.size - J := by rw [ByteArray.size_extract]; omega
      have e3 : (⟨#[46]⟩ : ByteArray).size = 1 := rfl
      have hc := plainCut neg n s J (by omega) y hy hJ
      refine Ev.pos (by omega) (Ev.pos (by omega) (Ev.pos (by omega) (Ev.pos (by rw [ByteArray.size_append, e1, e2, e3]; omega) ?_)))
      cases neg
      · refine Ev.neg (by decide) ?_
        rw [if_neg (by decide)] at hc
        rw [hc]; exact Ev.pure _
      · refine Ev.pos rfl (Ev.pos (by rw [ByteArray.size_append, ByteArray.size_append, e1, e2, e3]; omega) ?_)
        rw [if_pos rfl] at hc
        rw [hc]; exact Ev.pure _
    by_cases hle : wid n ≤ s
    · refine Ev.pos (by rw [hsz, ew]; omega) ?_
      have ez : wrap64 (wrap64 (wrap64 (-(-(s : Int))) - ((decimal n).size : Int)) + 1) = ((s - wid n + 1 : Nat) : Int) := by
        rw [ew, hsz, w64 (i := (s : Int) - (wid n : Int)) (by omega) (by omega), w64 (by omega) (by omega)]; omega
      rw [ez]
      refine Ev.bind (zerosF _ (by omega)) (Ev.pos (by rw [strOfNums_size, List.length_replicate, hsz]; omega) ?_)
      have eL : txL n s = s + 1 := by unfold txL; rw [if_neg h0]; unfold wid at hle; omega
      have ey : strOfNums (List.replicate (s - wid n + 1) 48) ++ decimal n = strOfNums (dgs n (txL n s)) := by
        rw [decimal_dgs, ← str_append, eL, ← dgs_zeros _ _ _ hz0, show wid n + (s - wid n + 1) = s + 1 by omega]
      exact fin _ 1 ey (by omega) (by rw [ey, strOfNums_size, dgs_len, eL, w64 (by omega) (by omega)]; omega)
    · refine Ev.neg (by rw [hsz, ew]; omega) ?_
      have eL : txL n s = wid n := by unfold txL; rw [if_neg h0]; unfold wid at hle ⊢; omega
      exact fin _ (wid n - s) (by rw [decimal_dgs, eL]) (by omega) (by rw [hsz, w64 (by omega) (by omega)]; omega)
end Go.Proofs.YtcgdphciepdkiaaDoor.Lm
