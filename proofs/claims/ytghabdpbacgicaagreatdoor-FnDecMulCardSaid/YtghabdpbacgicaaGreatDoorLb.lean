/-
  NUMBERS AS LIMBS of base 256 (by wip/tools/bases.py, from Lm).
  NUMBERS AS LIMBS of base 4294967296 (by wip/tools/bases.py, from Lm).
  NUMBERS AS LIMBS of base 18446744073709551616 (by wip/tools/bases.py, from Lm).
-/
import Derived.Test.YtghabdpbacgicaaGreatDoorLm
namespace Go.Proofs.YtghabdpbacgicaaGreatDoor.L8
open Go.RowKit Go.Proofs.YtghabdpbacgicaaGreatDoorW.PrintWords
set_option linter.unusedVariables false

def lim (n : Nat) : List Int := if _h : n = 0 then [] else ((n % 256 : Nat) : Int) :: lim (n / 256)
termination_by n
decreasing_by omega
def val : List Int → Nat
  | [] => 0
  | x :: xs => x.toNat + 256 * val xs
def Ok (l : List Int) : Prop := ∀ x, x ∈ l → 0 ≤ x ∧ x < 256
theorem lim_zero : lim 0 = [] := by rw [lim]; simp
theorem lim_pos {n : Nat} (h : n ≠ 0) : lim n = ((n % 256 : Nat) : Int) :: lim (n / 256) := by rw [lim, dif_neg h]
theorem lim_eq_nil {n : Nat} : lim n = [] ↔ n = 0 := by
  constructor
  · intro h
    by_cases e : n = 0
    · exact e
    · rw [lim_pos e] at h; cases h
  · rintro rfl; exact lim_zero
theorem val_lim (n : Nat) : val (lim n) = n := by
  induction n using Nat.strongRecOn with
  | _ n ih =>
    by_cases h : n = 0
    · subst h; rw [lim_zero]; rfl
    · rw [lim_pos h, val, ih _ (by omega), Int.toNat_natCast]; omega
theorem ok_lim (n : Nat) : Ok (lim n) := by
  induction n using Nat.strongRecOn with
  | _ n ih =>
    by_cases h : n = 0
    · subst h; rw [lim_zero]; intro x hx; cases hx
    · rw [lim_pos h]
      intro x hx
      rcases List.mem_cons.1 hx with rfl | hx
      · omega
      · exact ih _ (by omega) x hx
theorem lim_inj {a b : Nat} (h : lim a = lim b) : a = b := by rw [← val_lim a, ← val_lim b, h]
theorem len_zero {n : Nat} : ((lim n).length : Int) = 0 ↔ n = 0 := by
  rw [← lim_eq_nil, ← List.length_eq_zero_iff]; omega
/-- The limb at place i, and where the limbs end. -/
theorem lim_get (n i : Nat) : (lim n).getD i 0 = ((n / 256 ^ i % 256 : Nat) : Int) := by
  induction i generalizing n with
  | zero =>
    by_cases h : n = 0
    · subst h; simp [lim_zero]
    · rw [lim_pos h]; simp
  | succ i ih =>
    by_cases h : n = 0
    · subst h; simp [lim_zero]
    · rw [lim_pos h, List.getD_cons_succ, ih, Nat.pow_succ, Nat.mul_comm, ← Nat.div_div_eq_div_mul]
theorem len_lim (n i : Nat) : i < (lim n).length ↔ n / 256 ^ i ≠ 0 := by
  induction i generalizing n with
  | zero =>
    rw [Nat.pow_zero, Nat.div_one, ne_eq, ← lim_eq_nil, ← List.length_eq_zero_iff]; omega
  | succ i ih =>
    by_cases h : n = 0
    · subst h; simp [lim_zero]
    · rw [lim_pos h, List.length_cons, Nat.add_lt_add_iff_right, ih, Nat.pow_succ, Nat.mul_comm, ← Nat.div_div_eq_div_mul]
theorem len_le {n m : Nat} (h : n < 256 ^ m) : (lim n).length ≤ m := by
  have h1 := len_lim n m
  have h2 : n / 256 ^ m = 0 := Nat.div_eq_of_lt h
  rcases Nat.lt_or_ge m (lim n).length with h3 | h3
  · exact absurd h2 (h1.1 h3)
  · exact h3
theorem lt_of_len {n m : Nat} (h : (lim n).length ≤ m) : n < 256 ^ m := by
  have h1 := len_lim n m
  rcases Nat.lt_or_ge n (256 ^ m) with h2 | h2
  · exact h2
  · have : n / 256 ^ m ≠ 0 := by
      have := (Nat.le_div_iff_mul_le (Nat.pow_pos (by omega))).2 (show 1 * 256 ^ m ≤ n by omega)
      omega
    have := h1.2 this
    omega
theorem rd_lim (n : Nat) (i : Nat) : rd (lim n) (i : Int) = ((n / 256 ^ i % 256 : Nat) : Int) := by
  unfold rd; rw [Int.toNat_natCast]; exact lim_get n i
theorem len_i (n i : Nat) : (i : Int) < ((lim n).length : Int) ↔ n / 256 ^ i ≠ 0 := by rw [Int.ofNat_lt]; exact len_lim n i
theorem pow_succ_div (n i : Nat) : n / 256 ^ (i + 1) = n / 256 ^ i / 256 := by rw [Nat.pow_succ, Nat.div_div_eq_div_mul]


/-! ### Lists of limbs with zeros at their end -/
theorem val_append (a b : List Int) : val (a ++ b) = val a + 256 ^ a.length * val b := by
  induction a with
  | nil => simp [val]
  | cons x xs ih =>
    have e : 256 ^ xs.length * 256 * val b = 256 * (256 ^ xs.length * val b) := by rw [Nat.mul_comm (256 ^ xs.length), Nat.mul_assoc]
    rw [List.cons_append, val, val, ih, List.length_cons, Nat.pow_succ, e]; omega
theorem val_lt {l : List Int} (h : Ok l) : val l < 256 ^ l.length := by
  induction l with
  | nil => simp [val]
  | cons x xs ih =>
    have hx := h x (by simp)
    have := ih (fun y hy => h y (by simp [hy]))
    rw [val, List.length_cons, Nat.pow_succ]
    omega
theorem ok_append {a b : List Int} (h : Ok a) (h' : Ok b) : Ok (a ++ b) := fun x hx => by
  rcases List.mem_append.1 hx with hx | hx
  · exact h x hx
  · exact h' x hx
theorem ok_nil : Ok [] := fun x hx => by cases hx
theorem ok_one {x : Int} (h0 : 0 ≤ x) (h1 : x < 256) : Ok [x] := fun y hy => by
  rcases List.mem_singleton.1 hy with rfl
  exact ⟨h0, h1⟩
theorem ok_snoc {a : List Int} {x : Int} (h : Ok a) (h0 : 0 ≤ x) (h1 : x < 256) : Ok (a ++ [x]) := ok_append h (ok_one h0 h1)
theorem val_snoc (a : List Int) (x : Int) : val (a ++ [x]) = val a + 256 ^ a.length * x.toNat := by rw [val_append]; simp [val]
theorem val_zeros (n : Nat) : val (List.replicate n 0) = 0 := by
  induction n with
  | zero => rfl
  | succ n ih => rw [List.replicate_succ, val, ih]; rfl
theorem ok_zeros (n : Nat) : Ok (List.replicate n 0) := fun x hx => by
  rw [List.eq_of_mem_replicate hx]; omega
/-- Limbs whose last one is not 0 are a number's own. -/
theorem lim_val {l : List Int} (h : Ok l) (hl : ∀ x, l.getLast? = some x → x ≠ 0) : l = lim (val l) := by
  induction l with
  | nil => rw [val, lim_zero]
  | cons x xs ih =>
    have hx := h x (by simp)
    have hxs : Ok xs := fun y hy => h y (by simp [hy])
    have hnz : val (x :: xs) ≠ 0 := by
      cases xs with
      | nil =>
        have := hl x (by simp)
        rw [val, val]; omega
      | cons y ys =>
        have hi := ih hxs (fun z hz => hl z (by rw [List.getLast?_cons_cons]; exact hz))
        intro h0
        have h1 : val (y :: ys) = 0 := by rw [val] at h0; omega
        rw [h1, lim_zero] at hi
        cases hi
    rw [lim_pos hnz]
    have h1 : val (x :: xs) % 256 = x.toNat := by rw [val]; omega
    have h2 : val (x :: xs) / 256 = val xs := by rw [val]; omega
    rw [h1, h2, ← ih hxs (fun z hz => ?_)]
    · congr 1; omega
    · cases xs with
      | nil => cases hz
      | cons y ys => exact hl z (by rw [List.getLast?_cons_cons]; exact hz)
theorem val_set {l : List Int} {i : Nat} (h : i < l.length) (hl : Ok l) (v : Int) : val (l.set i v) + 256 ^ i * (l.getD i 0).toNat = val l + 256 ^ i * v.toNat := by
  induction l generalizing i with
  | nil => simp at h
  | cons x xs ih =>
    cases i with
    | zero => simp [val]; omega
    | succ i =>
      have := ih (i := i) (by simpa using h) (fun y hy => hl y (by simp [hy]))
      rw [List.set_cons_succ, val, val, List.getD_cons_succ, Nat.pow_succ]
      have e1 : 256 ^ i * 256 * (xs.getD i 0).toNat = 256 * (256 ^ i * (xs.getD i 0).toNat) := by rw [Nat.mul_comm (256 ^ i), Nat.mul_assoc]
      have e2 : 256 ^ i * 256 * v.toNat = 256 * (256 ^ i * v.toNat) := by rw [Nat.mul_comm (256 ^ i), Nat.mul_assoc]
      rw [e1, e2]
      omega
theorem ok_set {l : List Int} (h : Ok l) (i : Nat) {v : Int} (h0 : 0 ≤ v) (h1 : v < 256) : Ok (l.set i v) := fun x hx => by
  rcases List.mem_or_eq_of_mem_set hx with hx | rfl
  · exact h x hx
  · exact ⟨h0, h1⟩
theorem ok_get {l : List Int} (h : Ok l) (i : Nat) : 0 ≤ l.getD i 0 ∧ l.getD i 0 < 256 := by
  rcases Nat.lt_or_ge i l.length with hi | hi
  · rw [List.getD_eq_getElem?_getD, List.getElem?_eq_getElem hi]
    exact h _ (List.getElem_mem hi)
  · rw [List.getD_eq_getElem?_getD, List.getElem?_eq_none hi]; simp
/-- A list's value, parted at a place. -/
theorem val_split (l : List Int) (i : Nat) : val l = val (l.take i) + 256 ^ (min i l.length) * val (l.drop i) := by
  have h := val_append (l.take i) (l.drop i)
  rw [List.take_append_drop, List.length_take] at h
  exact h
theorem val_drop {l : List Int} {i : Nat} (h : i < l.length) : val (l.drop i) = (l.getD i 0).toNat + 256 * val (l.drop (i + 1)) := by
  rw [List.drop_eq_getElem_cons h, val, List.getD_eq_getElem?_getD, List.getElem?_eq_getElem h]; rfl
theorem val_drop_nil {l : List Int} {i : Nat} (h : l.length ≤ i) : val (l.drop i) = 0 := by rw [List.drop_eq_nil_of_le h]; rfl

/-! ### Decimal digits, the last ones first, as bytes -/
end Go.Proofs.YtghabdpbacgicaaGreatDoor.L8
namespace Go.Proofs.YtghabdpbacgicaaGreatDoor.L32
open Go.RowKit Go.Proofs.YtghabdpbacgicaaGreatDoorW.PrintWords
set_option linter.unusedVariables false

def lim (n : Nat) : List Int := if _h : n = 0 then [] else ((n % 4294967296 : Nat) : Int) :: lim (n / 4294967296)
termination_by n
decreasing_by omega
def val : List Int → Nat
  | [] => 0
  | x :: xs => x.toNat + 4294967296 * val xs
def Ok (l : List Int) : Prop := ∀ x, x ∈ l → 0 ≤ x ∧ x < 4294967296
theorem lim_zero : lim 0 = [] := by rw [lim]; simp
theorem lim_pos {n : Nat} (h : n ≠ 0) : lim n = ((n % 4294967296 : Nat) : Int) :: lim (n / 4294967296) := by rw [lim, dif_neg h]
theorem lim_eq_nil {n : Nat} : lim n = [] ↔ n = 0 := by
  constructor
  · intro h
    by_cases e : n = 0
    · exact e
    · rw [lim_pos e] at h; cases h
  · rintro rfl; exact lim_zero
theorem val_lim (n : Nat) : val (lim n) = n := by
  induction n using Nat.strongRecOn with
  | _ n ih =>
    by_cases h : n = 0
    · subst h; rw [lim_zero]; rfl
    · rw [lim_pos h, val, ih _ (by omega), Int.toNat_natCast]; omega
theorem ok_lim (n : Nat) : Ok (lim n) := by
  induction n using Nat.strongRecOn with
  | _ n ih =>
    by_cases h : n = 0
    · subst h; rw [lim_zero]; intro x hx; cases hx
    · rw [lim_pos h]
      intro x hx
      rcases List.mem_cons.1 hx with rfl | hx
      · omega
      · exact ih _ (by omega) x hx
theorem lim_inj {a b : Nat} (h : lim a = lim b) : a = b := by rw [← val_lim a, ← val_lim b, h]
theorem len_zero {n : Nat} : ((lim n).length : Int) = 0 ↔ n = 0 := by
  rw [← lim_eq_nil, ← List.length_eq_zero_iff]; omega
/-- The limb at place i, and where the limbs end. -/
theorem lim_get (n i : Nat) : (lim n).getD i 0 = ((n / 4294967296 ^ i % 4294967296 : Nat) : Int) := by
  induction i generalizing n with
  | zero =>
    by_cases h : n = 0
    · subst h; simp [lim_zero]
    · rw [lim_pos h]; simp
  | succ i ih =>
    by_cases h : n = 0
    · subst h; simp [lim_zero]
    · rw [lim_pos h, List.getD_cons_succ, ih, Nat.pow_succ, Nat.mul_comm, ← Nat.div_div_eq_div_mul]
theorem len_lim (n i : Nat) : i < (lim n).length ↔ n / 4294967296 ^ i ≠ 0 := by
  induction i generalizing n with
  | zero =>
    rw [Nat.pow_zero, Nat.div_one, ne_eq, ← lim_eq_nil, ← List.length_eq_zero_iff]; omega
  | succ i ih =>
    by_cases h : n = 0
    · subst h; simp [lim_zero]
    · rw [lim_pos h, List.length_cons, Nat.add_lt_add_iff_right, ih, Nat.pow_succ, Nat.mul_comm, ← Nat.div_div_eq_div_mul]
theorem len_le {n m : Nat} (h : n < 4294967296 ^ m) : (lim n).length ≤ m := by
  have h1 := len_lim n m
  have h2 : n / 4294967296 ^ m = 0 := Nat.div_eq_of_lt h
  rcases Nat.lt_or_ge m (lim n).length with h3 | h3
  · exact absurd h2 (h1.1 h3)
  · exact h3
theorem lt_of_len {n m : Nat} (h : (lim n).length ≤ m) : n < 4294967296 ^ m := by
  have h1 := len_lim n m
  rcases Nat.lt_or_ge n (4294967296 ^ m) with h2 | h2
  · exact h2
  · have : n / 4294967296 ^ m ≠ 0 := by
      have := (Nat.le_div_iff_mul_le (Nat.pow_pos (by omega))).2 (show 1 * 4294967296 ^ m ≤ n by omega)
      omega
    have := h1.2 this
    omega
theorem rd_lim (n : Nat) (i : Nat) : rd (lim n) (i : Int) = ((n / 4294967296 ^ i % 4294967296 : Nat) : Int) := by
  unfold rd; rw [Int.toNat_natCast]; exact lim_get n i
theorem len_i (n i : Nat) : (i : Int) < ((lim n).length : Int) ↔ n / 4294967296 ^ i ≠ 0 := by rw [Int.ofNat_lt]; exact len_lim n i
theorem pow_succ_div (n i : Nat) : n / 4294967296 ^ (i + 1) = n / 4294967296 ^ i / 4294967296 := by rw [Nat.pow_succ, Nat.div_div_eq_div_mul]


/-! ### Lists of limbs with zeros at their end -/
theorem val_append (a b : List Int) : val (a ++ b) = val a + 4294967296 ^ a.length * val b := by
  induction a with
  | nil => simp [val]
  | cons x xs ih =>
    have e : 4294967296 ^ xs.length * 4294967296 * val b = 4294967296 * (4294967296 ^ xs.length * val b) := by rw [Nat.mul_comm (4294967296 ^ xs.length), Nat.mul_assoc]
    rw [List.cons_append, val, val, ih, List.length_cons, Nat.pow_succ, e]; omega
theorem val_lt {l : List Int} (h : Ok l) : val l < 4294967296 ^ l.length := by
  induction l with
  | nil => simp [val]
  | cons x xs ih =>
    have hx := h x (by simp)
    have := ih (fun y hy => h y (by simp [hy]))
    rw [val, List.length_cons, Nat.pow_succ]
    omega
theorem ok_append {a b : List Int} (h : Ok a) (h' : Ok b) : Ok (a ++ b) := fun x hx => by
  rcases List.mem_append.1 hx with hx | hx
  · exact h x hx
  · exact h' x hx
theorem ok_nil : Ok [] := fun x hx => by cases hx
theorem ok_one {x : Int} (h0 : 0 ≤ x) (h1 : x < 4294967296) : Ok [x] := fun y hy => by
  rcases List.mem_singleton.1 hy with rfl
  exact ⟨h0, h1⟩
theorem ok_snoc {a : List Int} {x : Int} (h : Ok a) (h0 : 0 ≤ x) (h1 : x < 4294967296) : Ok (a ++ [x]) := ok_append h (ok_one h0 h1)
theorem val_snoc (a : List Int) (x : Int) : val (a ++ [x]) = val a + 4294967296 ^ a.length * x.toNat := by rw [val_append]; simp [val]
theorem val_zeros (n : Nat) : val (List.replicate n 0) = 0 := by
  induction n with
  | zero => rfl
  | succ n ih => rw [List.replicate_succ, val, ih]; rfl
theorem ok_zeros (n : Nat) : Ok (List.replicate n 0) := fun x hx => by
  rw [List.eq_of_mem_replicate hx]; omega
/-- Limbs whose last one is not 0 are a number's own. -/
theorem lim_val {l : List Int} (h : Ok l) (hl : ∀ x, l.getLast? = some x → x ≠ 0) : l = lim (val l) := by
  induction l with
  | nil => rw [val, lim_zero]
  | cons x xs ih =>
    have hx := h x (by simp)
    have hxs : Ok xs := fun y hy => h y (by simp [hy])
    have hnz : val (x :: xs) ≠ 0 := by
      cases xs with
      | nil =>
        have := hl x (by simp)
        rw [val, val]; omega
      | cons y ys =>
        have hi := ih hxs (fun z hz => hl z (by rw [List.getLast?_cons_cons]; exact hz))
        intro h0
        have h1 : val (y :: ys) = 0 := by rw [val] at h0; omega
        rw [h1, lim_zero] at hi
        cases hi
    rw [lim_pos hnz]
    have h1 : val (x :: xs) % 4294967296 = x.toNat := by rw [val]; omega
    have h2 : val (x :: xs) / 4294967296 = val xs := by rw [val]; omega
    rw [h1, h2, ← ih hxs (fun z hz => ?_)]
    · congr 1; omega
    · cases xs with
      | nil => cases hz
      | cons y ys => exact hl z (by rw [List.getLast?_cons_cons]; exact hz)
theorem val_set {l : List Int} {i : Nat} (h : i < l.length) (hl : Ok l) (v : Int) : val (l.set i v) + 4294967296 ^ i * (l.getD i 0).toNat = val l + 4294967296 ^ i * v.toNat := by
  induction l generalizing i with
  | nil => simp at h
  | cons x xs ih =>
    cases i with
    | zero => simp [val]; omega
    | succ i =>
      have := ih (i := i) (by simpa using h) (fun y hy => hl y (by simp [hy]))
      rw [List.set_cons_succ, val, val, List.getD_cons_succ, Nat.pow_succ]
      have e1 : 4294967296 ^ i * 4294967296 * (xs.getD i 0).toNat = 4294967296 * (4294967296 ^ i * (xs.getD i 0).toNat) := by rw [Nat.mul_comm (4294967296 ^ i), Nat.mul_assoc]
      have e2 : 4294967296 ^ i * 4294967296 * v.toNat = 4294967296 * (4294967296 ^ i * v.toNat) := by rw [Nat.mul_comm (4294967296 ^ i), Nat.mul_assoc]
      rw [e1, e2]
      omega
theorem ok_set {l : List Int} (h : Ok l) (i : Nat) {v : Int} (h0 : 0 ≤ v) (h1 : v < 4294967296) : Ok (l.set i v) := fun x hx => by
  rcases List.mem_or_eq_of_mem_set hx with hx | rfl
  · exact h x hx
  · exact ⟨h0, h1⟩
theorem ok_get {l : List Int} (h : Ok l) (i : Nat) : 0 ≤ l.getD i 0 ∧ l.getD i 0 < 4294967296 := by
  rcases Nat.lt_or_ge i l.length with hi | hi
  · rw [List.getD_eq_getElem?_getD, List.getElem?_eq_getElem hi]
    exact h _ (List.getElem_mem hi)
  · rw [List.getD_eq_getElem?_getD, List.getElem?_eq_none hi]; simp
/-- A list's value, parted at a place. -/
theorem val_split (l : List Int) (i : Nat) : val l = val (l.take i) + 4294967296 ^ (min i l.length) * val (l.drop i) := by
  have h := val_append (l.take i) (l.drop i)
  rw [List.take_append_drop, List.length_take] at h
  exact h
theorem val_drop {l : List Int} {i : Nat} (h : i < l.length) : val (l.drop i) = (l.getD i 0).toNat + 4294967296 * val (l.drop (i + 1)) := by
  rw [List.drop_eq_getElem_cons h, val, List.getD_eq_getElem?_getD, List.getElem?_eq_getElem h]; rfl
theorem val_drop_nil {l : List Int} {i : Nat} (h : l.length ≤ i) : val (l.drop i) = 0 := by rw [List.drop_eq_nil_of_le h]; rfl

/-! ### Decimal digits, the last ones first, as bytes -/
end Go.Proofs.YtghabdpbacgicaaGreatDoor.L32
namespace Go.Proofs.YtghabdpbacgicaaGreatDoor.L64
open Go.RowKit Go.Proofs.YtghabdpbacgicaaGreatDoorW.PrintWords
set_option linter.unusedVariables false

def lim (n : Nat) : List Int := if _h : n = 0 then [] else ((n % 18446744073709551616 : Nat) : Int) :: lim (n / 18446744073709551616)
termination_by n
decreasing_by omega
def val : List Int → Nat
  | [] => 0
  | x :: xs => x.toNat + 18446744073709551616 * val xs
def Ok (l : List Int) : Prop := ∀ x, x ∈ l → 0 ≤ x ∧ x < 18446744073709551616
theorem lim_zero : lim 0 = [] := by rw [lim]; simp
theorem lim_pos {n : Nat} (h : n ≠ 0) : lim n = ((n % 18446744073709551616 : Nat) : Int) :: lim (n / 18446744073709551616) := by rw [lim, dif_neg h]
theorem lim_eq_nil {n : Nat} : lim n = [] ↔ n = 0 := by
  constructor
  · intro h
    by_cases e : n = 0
    · exact e
    · rw [lim_pos e] at h; cases h
  · rintro rfl; exact lim_zero
theorem val_lim (n : Nat) : val (lim n) = n := by
  induction n using Nat.strongRecOn with
  | _ n ih =>
    by_cases h : n = 0
    · subst h; rw [lim_zero]; rfl
    · rw [lim_pos h, val, ih _ (by omega), Int.toNat_natCast]; omega
theorem ok_lim (n : Nat) : Ok (lim n) := by
  induction n using Nat.strongRecOn with
  | _ n ih =>
    by_cases h : n = 0
    · subst h; rw [lim_zero]; intro x hx; cases hx
    · rw [lim_pos h]
      intro x hx
      rcases List.mem_cons.1 hx with rfl | hx
      · omega
      · exact ih _ (by omega) x hx
theorem lim_inj {a b : Nat} (h : lim a = lim b) : a = b := by rw [← val_lim a, ← val_lim b, h]
theorem len_zero {n : Nat} : ((lim n).length : Int) = 0 ↔ n = 0 := by
  rw [← lim_eq_nil, ← List.length_eq_zero_iff]; omega
/-- The limb at place i, and where the limbs end. -/
theorem lim_get (n i : Nat) : (lim n).getD i 0 = ((n / 18446744073709551616 ^ i % 18446744073709551616 : Nat) : Int) := by
  induction i generalizing n with
  | zero =>
    by_cases h : n = 0
    · subst h; simp [lim_zero]
    · rw [lim_pos h]; simp
  | succ i ih =>
    by_cases h : n = 0
    · subst h; simp [lim_zero]
    · rw [lim_pos h, List.getD_cons_succ, ih, Nat.pow_succ, Nat.mul_comm, ← Nat.div_div_eq_div_mul]
theorem len_lim (n i : Nat) : i < (lim n).length ↔ n / 18446744073709551616 ^ i ≠ 0 := by
  induction i generalizing n with
  | zero =>
    rw [Nat.pow_zero, Nat.div_one, ne_eq, ← lim_eq_nil, ← List.length_eq_zero_iff]; omega
  | succ i ih =>
    by_cases h : n = 0
    · subst h; simp [lim_zero]
    · rw [lim_pos h, List.length_cons, Nat.add_lt_add_iff_right, ih, Nat.pow_succ, Nat.mul_comm, ← Nat.div_div_eq_div_mul]
theorem len_le {n m : Nat} (h : n < 18446744073709551616 ^ m) : (lim n).length ≤ m := by
  have h1 := len_lim n m
  have h2 : n / 18446744073709551616 ^ m = 0 := Nat.div_eq_of_lt h
  rcases Nat.lt_or_ge m (lim n).length with h3 | h3
  · exact absurd h2 (h1.1 h3)
  · exact h3
theorem lt_of_len {n m : Nat} (h : (lim n).length ≤ m) : n < 18446744073709551616 ^ m := by
  have h1 := len_lim n m
  rcases Nat.lt_or_ge n (18446744073709551616 ^ m) with h2 | h2
  · exact h2
  · have : n / 18446744073709551616 ^ m ≠ 0 := by
      have := (Nat.le_div_iff_mul_le (Nat.pow_pos (by omega))).2 (show 1 * 18446744073709551616 ^ m ≤ n by omega)
      omega
    have := h1.2 this
    omega
theorem rd_lim (n : Nat) (i : Nat) : rd (lim n) (i : Int) = ((n / 18446744073709551616 ^ i % 18446744073709551616 : Nat) : Int) := by
  unfold rd; rw [Int.toNat_natCast]; exact lim_get n i
theorem len_i (n i : Nat) : (i : Int) < ((lim n).length : Int) ↔ n / 18446744073709551616 ^ i ≠ 0 := by rw [Int.ofNat_lt]; exact len_lim n i
theorem pow_succ_div (n i : Nat) : n / 18446744073709551616 ^ (i + 1) = n / 18446744073709551616 ^ i / 18446744073709551616 := by rw [Nat.pow_succ, Nat.div_div_eq_div_mul]


/-! ### Lists of limbs with zeros at their end -/
theorem val_append (a b : List Int) : val (a ++ b) = val a + 18446744073709551616 ^ a.length * val b := by
  induction a with
  | nil => simp [val]
  | cons x xs ih =>
    have e : 18446744073709551616 ^ xs.length * 18446744073709551616 * val b = 18446744073709551616 * (18446744073709551616 ^ xs.length * val b) := by rw [Nat.mul_comm (18446744073709551616 ^ xs.length), Nat.mul_assoc]
    rw [List.cons_append, val, val, ih, List.length_cons, Nat.pow_succ, e]; omega
theorem val_lt {l : List Int} (h : Ok l) : val l < 18446744073709551616 ^ l.length := by
  induction l with
  | nil => simp [val]
  | cons x xs ih =>
    have hx := h x (by simp)
    have := ih (fun y hy => h y (by simp [hy]))
    rw [val, List.length_cons, Nat.pow_succ]
    omega
theorem ok_append {a b : List Int} (h : Ok a) (h' : Ok b) : Ok (a ++ b) := fun x hx => by
  rcases List.mem_append.1 hx with hx | hx
  · exact h x hx
  · exact h' x hx
theorem ok_nil : Ok [] := fun x hx => by cases hx
theorem ok_one {x : Int} (h0 : 0 ≤ x) (h1 : x < 18446744073709551616) : Ok [x] := fun y hy => by
  rcases List.mem_singleton.1 hy with rfl
  exact ⟨h0, h1⟩
theorem ok_snoc {a : List Int} {x : Int} (h : Ok a) (h0 : 0 ≤ x) (h1 : x < 18446744073709551616) : Ok (a ++ [x]) := ok_append h (ok_one h0 h1)
theorem val_snoc (a : List Int) (x : Int) : val (a ++ [x]) = val a + 18446744073709551616 ^ a.length * x.toNat := by rw [val_append]; simp [val]
theorem val_zeros (n : Nat) : val (List.replicate n 0) = 0 := by
  induction n with
  | zero => rfl
  | succ n ih => rw [List.replicate_succ, val, ih]; rfl
theorem ok_zeros (n : Nat) : Ok (List.replicate n 0) := fun x hx => by
  rw [List.eq_of_mem_replicate hx]; omega
/-- Limbs whose last one is not 0 are a number's own. -/
theorem lim_val {l : List Int} (h : Ok l) (hl : ∀ x, l.getLast? = some x → x ≠ 0) : l = lim (val l) := by
  induction l with
  | nil => rw [val, lim_zero]
  | cons x xs ih =>
    have hx := h x (by simp)
    have hxs : Ok xs := fun y hy => h y (by simp [hy])
    have hnz : val (x :: xs) ≠ 0 := by
      cases xs with
      | nil =>
        have := hl x (by simp)
        rw [val, val]; omega
      | cons y ys =>
        have hi := ih hxs (fun z hz => hl z (by rw [List.getLast?_cons_cons]; exact hz))
        intro h0
        have h1 : val (y :: ys) = 0 := by rw [val] at h0; omega
        rw [h1, lim_zero] at hi
        cases hi
    rw [lim_pos hnz]
    have h1 : val (x :: xs) % 18446744073709551616 = x.toNat := by rw [val]; omega
    have h2 : val (x :: xs) / 18446744073709551616 = val xs := by rw [val]; omega
    rw [h1, h2, ← ih hxs (fun z hz => ?_)]
    · congr 1; omega
    · cases xs with
      | nil => cases hz
      | cons y ys => exact hl z (by rw [List.getLast?_cons_cons]; exact hz)
theorem val_set {l : List Int} {i : Nat} (h : i < l.length) (hl : Ok l) (v : Int) : val (l.set i v) + 18446744073709551616 ^ i * (l.getD i 0).toNat = val l + 18446744073709551616 ^ i * v.toNat := by
  induction l generalizing i with
  | nil => simp at h
  | cons x xs ih =>
    cases i with
    | zero => simp [val]; omega
    | succ i =>
      have := ih (i := i) (by simpa using h) (fun y hy => hl y (by simp [hy]))
      rw [List.set_cons_succ, val, val, List.getD_cons_succ, Nat.pow_succ]
      have e1 : 18446744073709551616 ^ i * 18446744073709551616 * (xs.getD i 0).toNat = 18446744073709551616 * (18446744073709551616 ^ i * (xs.getD i 0).toNat) := by rw [Nat.mul_comm (18446744073709551616 ^ i), Nat.mul_assoc]
      have e2 : 18446744073709551616 ^ i * 18446744073709551616 * v.toNat = 18446744073709551616 * (18446744073709551616 ^ i * v.toNat) := by rw [Nat.mul_comm (18446744073709551616 ^ i), Nat.mul_assoc]
      rw [e1, e2]
      omega
theorem ok_set {l : List Int} (h : Ok l) (i : Nat) {v : Int} (h0 : 0 ≤ v) (h1 : v < 18446744073709551616) : Ok (l.set i v) := fun x hx => by
  rcases List.mem_or_eq_of_mem_set hx with hx | rfl
  · exact h x hx
  · exact ⟨h0, h1⟩
theorem ok_get {l : List Int} (h : Ok l) (i : Nat) : 0 ≤ l.getD i 0 ∧ l.getD i 0 < 18446744073709551616 := by
  rcases Nat.lt_or_ge i l.length with hi | hi
  · rw [List.getD_eq_getElem?_getD, List.getElem?_eq_getElem hi]
    exact h _ (List.getElem_mem hi)
  · rw [List.getD_eq_getElem?_getD, List.getElem?_eq_none hi]; simp
/-- A list's value, parted at a place. -/
theorem val_split (l : List Int) (i : Nat) : val l = val (l.take i) + 18446744073709551616 ^ (min i l.length) * val (l.drop i) := by
  have h := val_append (l.take i) (l.drop i)
  rw [List.take_append_drop, List.length_take] at h
  exact h
theorem val_drop {l : List Int} {i : Nat} (h : i < l.length) : val (l.drop i) = (l.getD i 0).toNat + 18446744073709551616 * val (l.drop (i + 1)) := by
  rw [List.drop_eq_getElem_cons h, val, List.getD_eq_getElem?_getD, List.getElem?_eq_getElem h]; rfl
theorem val_drop_nil {l : List Int} {i : Nat} (h : l.length ≤ i) : val (l.drop i) = 0 := by rw [List.drop_eq_nil_of_le h]; rfl

/-! ### Decimal digits, the last ones first, as bytes -/
end Go.Proofs.YtghabdpbacgicaaGreatDoor.L64
