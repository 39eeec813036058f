/-
  THE TEXT OF A DECIMAL: its digits, a point ahead of so many of them; as the package writes them, from the last one on.
-/
import Derived.Test.YtcgdphciepdkiaaDoorLmStr
namespace Go.Proofs.YtcgdphciepdkiaaDoor.Lm
open Go.RowKit Go.Proofs.YtcgdphciepdkiaaDoorW.PrintWords Go.Proofs.YtcgdphciepdkiaaDoor.S
set_option linter.unusedVariables false

/-- A digit's letter. -/
def dig (n k : Nat) : Int := ((48 + n / 10 ^ k % 10 : Nat) : Int)
/-- The k lowest digits, a point ahead of the lowest s. -/
def tx (n s : Nat) : Nat → List Int
  | 0 => []
  | k + 1 => if k + 1 = s then 46 :: dig n k :: tx n s k else dig n k :: tx n s k
/-- How many digits are written. -/
def txL (n s : Nat) : Nat := if s = 0 then max (ndig n) 1 else max (ndig n) (s + 1)
def txt (n s : Nat) : List Int := tx n s (txL n s)
theorem tx_zero (n s : Nat) : tx n s 0 = [] := rfl
theorem tx_pt {n s k : Nat} (h : k + 1 = s) : tx n s (k + 1) = 46 :: dig n k :: tx n s k := by rw [tx, if_pos h]
theorem tx_no {n s k : Nat} (h : k + 1 ≠ s) : tx n s (k + 1) = dig n k :: tx n s k := by rw [tx, if_neg h]
theorem tx_len (n s k : Nat) : (tx n s k).length ≤ k + 1 ∧ (k < s → (tx n s k).length = k) ∧ (s = 0 → (tx n s k).length = k) := by
  induction k with
  | zero => simp [tx]
  | succ k ih =>
    obtain ⟨h1, h2, h3⟩ := ih
    by_cases h : k + 1 = s
    · rw [tx_pt h]
      simp only [List.length_cons]
      have := h2 (by omega)
      exact ⟨by omega, fun _ => by omega, fun _ => by omega⟩
    · rw [tx_no h]
      simp only [List.length_cons]
      exact ⟨by omega, fun hk => by have := h2 (by omega); omega, fun hk => by have := h3 hk; omega⟩
theorem ten_pow_pos (k : Nat) : 0 < 10 ^ k := Nat.pow_pos (by omega)
theorem div_zero_iff (n k : Nat) : n / 10 ^ k = 0 ↔ n < 10 ^ k := by
  rw [Nat.div_eq_zero_iff]
  have := ten_pow_pos k
  omega
theorem div_step (n k : Nat) : n / 10 ^ (k + 1) = n / 10 ^ k / 10 := by rw [Nat.pow_succ, Nat.div_div_eq_div_mul]
theorem dig_zero {n k : Nat} (h : n / 10 ^ k = 0) : dig n k = 48 := by unfold dig; rw [h]; rfl
/-- Where the loop stands: there is a digit or a place more. -/
def More (n s k : Nat) : Prop := k = 0 ∨ n / 10 ^ k ≠ 0 ∨ k < s
theorem More.le {n s k : Nat} (h : More n s k) (hn : n < 10 ^ 19) (hs : s ≤ 19) : k ≤ 18 := by
  rcases h with h | h | h
  · omega
  · rcases Nat.lt_or_ge 18 k with hk | hk
    · exfalso; apply h; rw [div_zero_iff]
      exact Nat.lt_of_lt_of_le hn (Nat.pow_le_pow_right (by omega) (by omega))
    · exact hk
  · omega
/-- The loop's end behind a digit that is not the point's: the text is whole. -/
theorem tx_end {n s k : Nat} (h : More n s k) (h1 : k + 1 ≠ s) (h2 : s ≤ k + 1) (h0 : n / 10 ^ (k + 1) = 0) : tx n s (k + 1) = txt n s := by
  unfold txt
  have e : txL n s = k + 1 := by
    have a1 : ndig n ≤ k + 1 := ndig_le.2 ((div_zero_iff _ _).1 h0)
    unfold txL
    rcases h with h | h | h
    · subst h
      rw [if_pos (by omega)]; omega
    · have a2 : ¬ ndig n ≤ k := fun hh => h ((div_zero_iff _ _).2 (ndig_le.1 hh))
      split <;> omega
    · omega
  rw [e]
/-- The loop's end at the point: a 0 ahead of it. -/
theorem tx_end_pt {n s k : Nat} (h1 : k + 1 = s) (h0 : n / 10 ^ (k + 1) = 0) : 48 :: tx n s (k + 1) = txt n s := by
  unfold txt
  have e : txL n s = k + 1 + 1 := by
    have a1 : ndig n ≤ k + 1 := ndig_le.2 ((div_zero_iff _ _).1 h0)
    unfold txL
    rw [if_neg (by omega)]; omega
  rw [e, tx_no (k := k + 1) (by omega), dig_zero h0]
/-- The buffer of 24 letters, l at its end. -/
def bufC (l : List Int) : Array Value := (List.replicate (24 - l.length) (Value.int .u8 0) ++ l.map (fun x => Value.int .u8 x)).toArray
theorem bufC_at (l : List Int) (p : Nat) (h : p + l.length < 24) : (bufC l)[p]? = some (Value.int .u8 0) := by
  unfold bufC
  rw [List.getElem?_toArray, List.getElem?_append_left (by rw [List.length_replicate]; omega), List.getElem?_replicate, if_pos (by omega)]
theorem bufC_put (l : List Int) (p : Nat) (x : Int) (h : p + l.length = 23) : (bufC l).setIfInBounds p (Value.int .u8 x) = bufC (x :: l) := by
  unfold bufC
  rw [List.setIfInBounds_toArray]
  congr 1
  rw [List.set_append_left _ _ (by rw [List.length_replicate]; omega)]
  have e1 : 24 - l.length = p + 1 := by omega
  have e2 : 24 - (x :: l).length = p := by rw [List.length_cons]; omega
  rw [e1, e2, List.replicate_succ', List.set_append_right _ _ (by rw [List.length_replicate]; exact Nat.le_refl _), List.length_replicate, Nat.sub_self]
  simp
theorem bufC_size (l : List Int) (h : l.length ≤ 24) : (bufC l).size = 24 := by unfold bufC; simp; omega
theorem bufC_get (l : List Int) (i : Nat) (x : Int) (h : l.length ≤ 24) (hi : l[i]? = some x) : (bufC l)[24 - l.length + i]? = some (Value.int .u8 x) := by
  unfold bufC
  rw [List.getElem?_toArray, List.getElem?_append_right (by rw [List.length_replicate]; omega), List.length_replicate, Nat.add_sub_cancel_left, List.getElem?_map, hi]; rfl
end Go.Proofs.YtcgdphciepdkiaaDoor.Lm
