/-
  PLAIN ARITHMETIC of numbers kept as limbs of nine decimal digits: 'lim n' is the number n so kept; what holds of single limbs, of trimming, of the count of limbs. No program in sight.
-/
import Derived.Test.YtghabdpbacgicaaGreatDoorV
namespace Go.Proofs.YtghabdpbacgicaaGreatDoor.Lm
open Go.RowKit Go.Proofs.YtghabdpbacgicaaGreatDoorW.PrintWords

/-! ### A count of rounds from which on a function answers -/
def Ev {α : Type} (g : Nat → Option α) (r : α) : Prop := ∃ k0, ∀ k, k0 ≤ k → g k = some r
theorem Ev.pure {α : Type} (r : α) : Ev (fun _ => some r) r := ⟨0, fun _ _ => rfl⟩
theorem Ev.of {α : Type} {o : Option α} {r : α} (h : o = some r) : Ev (fun _ => o) r := ⟨0, fun _ _ => h⟩
theorem Ev.bind {α β : Type} {g : Nat → Option α} {h : Nat → α → Option β} {a : α} {r : β} (h1 : Ev g a) (h2 : Ev (fun k => h k a) r) : Ev (fun k => (g k).bind (h k)) r := by
  obtain ⟨k1, e1⟩ := h1
  obtain ⟨k2, e2⟩ := h2
  refine ⟨max k1 k2, fun k hk => ?_⟩
  show (g k).bind (h k) = some r
  rw [e1 k (by omega), Option.bind_some]
  exact e2 k (by omega)
theorem Ev.step {α : Type} {g : Nat → Option α} {r : α} (h : Ev (fun k => g (k + 1)) r) : Ev g r := by
  obtain ⟨k0, e⟩ := h
  refine ⟨k0 + 1, fun k hk => ?_⟩
  obtain ⟨m, rfl⟩ : ∃ m, k = m + 1 := ⟨k - 1, by omega⟩
  exact e m (by omega)
theorem Ev.congr {α : Type} {g g' : Nat → Option α} {r : α} (h : Ev g r) (e : ∀ k, g' k = g k) : Ev g' r := by
  obtain ⟨k0, e0⟩ := h
  exact ⟨k0, fun k hk => (e k).trans (e0 k hk)⟩
theorem Ev.ex {α : Type} {g : Nat → Option α} {r : α} (h : Ev g r) : ∃ k, g k = some r := by
  obtain ⟨k0, e⟩ := h
  exact ⟨k0, e k0 (Nat.le_refl _)⟩
theorem Ev.det {α : Type} {g : Nat → Option α} {r s : α} (h : Ev g r) (h' : Ev g s) : r = s := by
  obtain ⟨k0, e⟩ := h
  obtain ⟨k1, e'⟩ := h'
  have := (e (max k0 k1) (by omega)).symm.trans (e' (max k0 k1) (by omega))
  exact Option.some.inj this
theorem Ev.pos {α : Type} {c : Prop} [Decidable c] {g h : Nat → Option α} {r : α} (hc : c) (e : Ev g r) : Ev (fun k => if c then g k else h k) r := by
  obtain ⟨k0, e⟩ := e
  exact ⟨k0, fun k hk => by show (if c then g k else h k) = some r; rw [if_pos hc]; exact e k hk⟩
theorem Ev.neg {α : Type} {c : Prop} [Decidable c] {g h : Nat → Option α} {r : α} (hc : ¬ c) (e : Ev h r) : Ev (fun k => if c then g k else h k) r := by
  obtain ⟨k0, e⟩ := e
  exact ⟨k0, fun k hk => by show (if c then g k else h k) = some r; rw [if_neg hc]; exact e k hk⟩

/-! ### Limbs -/
def lim (n : Nat) : List Int := if _h : n = 0 then [] else ((n % 1000000000 : Nat) : Int) :: lim (n / 1000000000)
termination_by n
decreasing_by omega
def val : List Int → Nat
  | [] => 0
  | x :: xs => x.toNat + 1000000000 * val xs
def Ok (l : List Int) : Prop := ∀ x, x ∈ l → 0 ≤ x ∧ x < 1000000000
theorem lim_zero : lim 0 = [] := by rw [lim]; simp
theorem lim_pos {n : Nat} (h : n ≠ 0) : lim n = ((n % 1000000000 : Nat) : Int) :: lim (n / 1000000000) := by rw [lim, dif_neg h]
theorem lim_eq_nil {n : Nat} : lim n = [] ↔ n = 0 := by
  constructor
  · intro h
    by_cases e : n = 0
    · exact e
    · rw [lim_pos e] at h; cases h
  · rintro rfl; exact lim_zero
theorem val_lim (n : Nat) : val (lim n) = n := by
  induction n using Nat.strongRecOn with
  | _ n ih =>
    by_cases h : n = 0
    · subst h; rw [lim_zero]; rfl
    · rw [lim_pos h, val, ih _ (by omega), Int.toNat_natCast]; omega
theorem ok_lim (n : Nat) : Ok (lim n) := by
  induction n using Nat.strongRecOn with
  | _ n ih =>
    by_cases h : n = 0
    · subst h; rw [lim_zero]; intro x hx; cases hx
    · rw [lim_pos h]
      intro x hx
      rcases List.mem_cons.1 hx with rfl | hx
      · omega
      · exact ih _ (by omega) x hx
theorem lim_inj {a b : Nat} (h : lim a = lim b) : a = b := by rw [← val_lim a, ← val_lim b, h]
theorem len_zero {n : Nat} : ((lim n).length : Int) = 0 ↔ n = 0 := by
  rw [← lim_eq_nil, ← List.length_eq_zero_iff]; omega
/-- The limb at place i, and where the limbs end. -/
theorem lim_get (n i : Nat) : (lim n).getD i 0 = ((n / 1000000000 ^ i % 1000000000 : Nat) : Int) := by
  induction i generalizing n with
  | zero =>
    by_cases h : n = 0
    · subst h; simp [lim_zero]
    · rw [lim_pos h]; simp
  | succ i ih =>
    by_cases h : n = 0
    · subst h; simp [lim_zero]
    · rw [lim_pos h, List.getD_cons_succ, ih, Nat.pow_succ, Nat.mul_comm, ← Nat.div_div_eq_div_mul]
theorem len_lim (n i : Nat) : i < (lim n).length ↔ n / 1000000000 ^ i ≠ 0 := by
  induction i generalizing n with
  | zero =>
    rw [Nat.pow_zero, Nat.div_one, ne_eq, ← lim_eq_nil, ← List.length_eq_zero_iff]; omega
  | succ i ih =>
    by_cases h : n = 0
    · subst h; simp [lim_zero]
    · rw [lim_pos h, List.length_cons, Nat.add_lt_add_iff_right, ih, Nat.pow_succ, Nat.mul_comm, ← Nat.div_div_eq_div_mul]
theorem len_le {n m : Nat} (h : n < 1000000000 ^ m) : (lim n).length ≤ m := by
  have h1 := len_lim n m
  have h2 : n / 1000000000 ^ m = 0 := Nat.div_eq_of_lt h
  rcases Nat.lt_or_ge m (lim n).length with h3 | h3
  · exact absurd h2 (h1.1 h3)
  · exact h3
theorem lt_of_len {n m : Nat} (h : (lim n).length ≤ m) : n < 1000000000 ^ m := by
  have h1 := len_lim n m
  rcases Nat.lt_or_ge n (1000000000 ^ m) with h2 | h2
  · exact h2
  · have : n / 1000000000 ^ m ≠ 0 := by
      have := (Nat.le_div_iff_mul_le (Nat.pow_pos (by omega))).2 (show 1 * 1000000000 ^ m ≤ n by omega)
      omega
    have := h1.2 this
    omega
theorem rd_lim (n : Nat) (i : Nat) : rd (lim n) (i : Int) = ((n / 1000000000 ^ i % 1000000000 : Nat) : Int) := by
  unfold rd; rw [Int.toNat_natCast]; exact lim_get n i
theorem len_i (n i : Nat) : (i : Int) < ((lim n).length : Int) ↔ n / 1000000000 ^ i ≠ 0 := by rw [Int.ofNat_lt]; exact len_lim n i
theorem pow_succ_div (n i : Nat) : n / 1000000000 ^ (i + 1) = n / 1000000000 ^ i / 1000000000 := by rw [Nat.pow_succ, Nat.div_div_eq_div_mul]
theorem w64 {i : Int} (h0 : -9223372036854775808 ≤ i) (h1 : i < 9223372036854775808) : wrap64 i = i := by unfold wrap64; omega
theorem wu64 {i : Int} (h0 : 0 ≤ i) (h1 : i < 18446744073709551616) : IntKind.u64.wrap i = i := by rw [IntKind.wrap_u64]; omega

theorem u64_bounds {a : Int} (h : (Lit.int .u64 a).wf = true) : 0 ≤ a ∧ a ≤ 18446744073709551615 := by simpa [Lit.wf, IntKind.min, IntKind.max, IntKind.signed, IntKind.bits] using h
theorem i64_bounds {a : Int} (h : (Lit.int .i64 a).wf = true) : -9223372036854775808 ≤ a ∧ a ≤ 9223372036854775807 := by simpa [Lit.wf, IntKind.min, IntKind.max, IntKind.signed, IntKind.bits] using h

/-! ### Lists of limbs with zeros at their end -/
theorem val_append (a b : List Int) : val (a ++ b) = val a + 1000000000 ^ a.length * val b := by
  induction a with
  | nil => simp [val]
  | cons x xs ih =>
    have e : 1000000000 ^ xs.length * 1000000000 * val b = 1000000000 * (1000000000 ^ xs.length * val b) := by rw [Nat.mul_comm (1000000000 ^ xs.length), Nat.mul_assoc]
    rw [List.cons_append, val, val, ih, List.length_cons, Nat.pow_succ, e]; omega
theorem val_lt {l : List Int} (h : Ok l) : val l < 1000000000 ^ l.length := by
  induction l with
  | nil => simp [val]
  | cons x xs ih =>
    have hx := h x (by simp)
    have := ih (fun y hy => h y (by simp [hy]))
    rw [val, List.length_cons, Nat.pow_succ]
    omega
theorem ok_append {a b : List Int} (h : Ok a) (h' : Ok b) : Ok (a ++ b) := fun x hx => by
  rcases List.mem_append.1 hx with hx | hx
  · exact h x hx
  · exact h' x hx
theorem ok_nil : Ok [] := fun x hx => by cases hx
theorem ok_one {x : Int} (h0 : 0 ≤ x) (h1 : x < 1000000000) : Ok [x] := fun y hy => by
  rcases List.mem_singleton.1 hy with rfl
  exact ⟨h0, h1⟩
theorem ok_snoc {a : List Int} {x : Int} (h : Ok a) (h0 : 0 ≤ x) (h1 : x < 1000000000) : Ok (a ++ [x]) := ok_append h (ok_one h0 h1)
theorem val_snoc (a : List Int) (x : Int) : val (a ++ [x]) = val a + 1000000000 ^ a.length * x.toNat := by rw [val_append]; simp [val]
theorem val_zeros (n : Nat) : val (List.replicate n 0) = 0 := by
  induction n with
  | zero => rfl
  | succ n ih => rw [List.replicate_succ, val, ih]; rfl
theorem ok_zeros (n : Nat) : Ok (List.replicate n 0) := fun x hx => by
  rw [List.eq_of_mem_replicate hx]; omega
/-- Limbs whose last one is not 0 are a number's own. -/
theorem lim_val {l : List Int} (h : Ok l) (hl : ∀ x, l.getLast? = some x → x ≠ 0) : l = lim (val l) := by
  induction l with
  | nil => rw [val, lim_zero]
  | cons x xs ih =>
    have hx := h x (by simp)
    have hxs : Ok xs := fun y hy => h y (by simp [hy])
    have hnz : val (x :: xs) ≠ 0 := by
      cases xs with
      | nil =>
        have := hl x (by simp)
        rw [val, val]; omega
      | cons y ys =>
        have hi := ih hxs (fun z hz => hl z (by rw [List.getLast?_cons_cons]; exact hz))
        intro h0
        have h1 : val (y :: ys) = 0 := by rw [val] at h0; omega
        rw [h1, lim_zero] at hi
        cases hi
    rw [lim_pos hnz]
    have h1 : val (x :: xs) % 1000000000 = x.toNat := by rw [val]; omega
    have h2 : val (x :: xs) / 1000000000 = val xs := by rw [val]; omega
    rw [h1, h2, ← ih hxs (fun z hz => ?_)]
    · congr 1; omega
    · cases xs with
      | nil => cases hz
      | cons y ys => exact hl z (by rw [List.getLast?_cons_cons]; exact hz)
theorem val_set {l : List Int} {i : Nat} (h : i < l.length) (hl : Ok l) (v : Int) : val (l.set i v) + 1000000000 ^ i * (l.getD i 0).toNat = val l + 1000000000 ^ i * v.toNat := by
  induction l generalizing i with
  | nil => simp at h
  | cons x xs ih =>
    cases i with
    | zero => simp [val]; omega
    | succ i =>
      have := ih (i := i) (by simpa using h) (fun y hy => hl y (by simp [hy]))
      rw [List.set_cons_succ, val, val, List.getD_cons_succ, Nat.pow_succ]
      have e1 : 1000000000 ^ i * 1000000000 * (xs.getD i 0).toNat = 1000000000 * (1000000000 ^ i * (xs.getD i 0).toNat) := by rw [Nat.mul_comm (1000000000 ^ i), Nat.mul_assoc]
      have e2 : 1000000000 ^ i * 1000000000 * v.toNat = 1000000000 * (1000000000 ^ i * v.toNat) := by rw [Nat.mul_comm (1000000000 ^ i), Nat.mul_assoc]
      rw [e1, e2]
      omega
theorem ok_set {l : List Int} (h : Ok l) (i : Nat) {v : Int} (h0 : 0 ≤ v) (h1 : v < 1000000000) : Ok (l.set i v) := fun x hx => by
  rcases List.mem_or_eq_of_mem_set hx with hx | rfl
  · exact h x hx
  · exact ⟨h0, h1⟩
theorem ok_get {l : List Int} (h : Ok l) (i : Nat) : 0 ≤ l.getD i 0 ∧ l.getD i 0 < 1000000000 := by
  rcases Nat.lt_or_ge i l.length with hi | hi
  · rw [List.getD_eq_getElem?_getD, List.getElem?_eq_getElem hi]
    exact h _ (List.getElem_mem hi)
  · rw [List.getD_eq_getElem?_getD, List.getElem?_eq_none hi]; simp
/-- A list's value, parted at a place. -/
theorem val_split (l : List Int) (i : Nat) : val l = val (l.take i) + 1000000000 ^ (min i l.length) * val (l.drop i) := by
  have h := val_append (l.take i) (l.drop i)
  rw [List.take_append_drop, List.length_take] at h
  exact h
theorem val_drop {l : List Int} {i : Nat} (h : i < l.length) : val (l.drop i) = (l.getD i 0).toNat + 1000000000 * val (l.drop (i + 1)) := by
  rw [List.drop_eq_getElem_cons h, val, List.getD_eq_getElem?_getD, List.getElem?_eq_getElem h]; rfl
theorem val_drop_nil {l : List Int} {i : Nat} (h : l.length ≤ i) : val (l.drop i) = 0 := by rw [List.drop_eq_nil_of_le h]; rfl

/-! ### Decimal digits, the last ones first, as bytes -/
def revDig (n : Nat) : List Int := if _h : n = 0 then [] else ((48 + n % 10 : Nat) : Int) :: revDig (n / 10)
termination_by n
decreasing_by omega
theorem revDig_zero : revDig 0 = [] := by rw [revDig]; simp
theorem revDig_pos {n : Nat} (h : n ≠ 0) : revDig n = ((48 + n % 10 : Nat) : Int) :: revDig (n / 10) := by rw [revDig, dif_neg h]
theorem revDig_len (n i : Nat) : i < (revDig n).length ↔ n / 10 ^ i ≠ 0 := by
  induction i generalizing n with
  | zero =>
    by_cases h : n = 0
    · subst h; simp [revDig_zero]
    · rw [revDig_pos h]; simp [h]
  | succ i ih =>
    by_cases h : n = 0
    · subst h; simp [revDig_zero]
    · rw [revDig_pos h, List.length_cons, Nat.add_lt_add_iff_right, ih, Nat.pow_succ, Nat.mul_comm, ← Nat.div_div_eq_div_mul]
/-- At most m digits, just if less than ten to the power of m. -/
theorem revDig_le (n m : Nat) : (revDig n).length ≤ m ↔ n < 10 ^ m := by
  have h1 := revDig_len n m
  have hp : 0 < 10 ^ m := Nat.pow_pos (by omega)
  constructor
  · intro h
    rcases Nat.lt_or_ge n (10 ^ m) with h2 | h2
    · exact h2
    · have : n / 10 ^ m ≠ 0 := by
        have := (Nat.le_div_iff_mul_le hp).2 (show 1 * 10 ^ m ≤ n by omega)
        omega
      have := h1.2 this
      omega
  · intro h
    have h2 : n / 10 ^ m = 0 := Nat.div_eq_of_lt h
    rcases Nat.lt_or_ge m (revDig n).length with h3 | h3
    · exact absurd h2 (h1.1 h3)
    · exact h3
theorem revDig_get (n i : Nat) (h : i < (revDig n).length) : (revDig n).getD i 0 = ((48 + n / 10 ^ i % 10 : Nat) : Int) := by
  induction i generalizing n with
  | zero =>
    by_cases e : n = 0
    · subst e; simp [revDig_zero] at h
    · rw [revDig_pos e]; simp
  | succ i ih =>
    by_cases e : n = 0
    · subst e; simp [revDig_zero] at h
    · rw [revDig_pos e, List.getD_cons_succ, ih, Nat.pow_succ, Nat.mul_comm, ← Nat.div_div_eq_div_mul]
      rw [revDig_pos e] at h
      simpa using h
theorem revDig_byte (n : Nat) : ∀ x, x ∈ revDig n → 48 ≤ x ∧ x ≤ 57 := by
  induction n using Nat.strongRecOn with
  | _ n ih =>
    by_cases h : n = 0
    · subst h; rw [revDig_zero]; intro x hx; cases hx
    · rw [revDig_pos h]
      intro x hx
      rcases List.mem_cons.1 hx with rfl | hx
      · omega
      · exact ih _ (by omega) x hx
end Go.Proofs.YtghabdpbacgicaaGreatDoor.Lm
