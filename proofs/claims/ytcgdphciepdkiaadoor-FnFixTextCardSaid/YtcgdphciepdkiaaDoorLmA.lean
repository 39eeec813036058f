/-
  WHAT THE REFERENCE's NUMBERS ANSWER: NatFrom, NatCmp, NatAdd, of numbers kept as limbs ('lim n').
-/
import Derived.Test.YtcgdphciepdkiaaDoorLm
import Derived.Test.YtcgdphciepdkiaaDoorSFrom
import Derived.Test.YtcgdphciepdkiaaDoorSCmp
import Derived.Test.YtcgdphciepdkiaaDoorSAdd
namespace Go.Proofs.YtcgdphciepdkiaaDoor.Lm
open Go.RowKit Go.Proofs.YtcgdphciepdkiaaDoorW.PrintWords Go.Proofs.YtcgdphciepdkiaaDoor.S
set_option linter.unusedVariables false

theorem snoc_lim {n : Nat} (h : n ≠ 0) (out : List Int) : out ++ lim n = (out ++ [((n % 1000000000 : Nat) : Int)]) ++ lim (n / 1000000000) := by rw [lim_pos h, List.append_assoc]; rfl

/-- One more, of a count: no wrap. (As a lemma, not as a hypothesis: omega tells two 'wrap64' apart by unfolding them.) -/
theorem w64s (i : Nat) (h : i < 9223372036854775807) : wrap64 ((i : Int) + 1) = ((i + 1 : Nat) : Int) := by rw [w64 (by omega) (by omega)]; omega
/-! ### NatFrom -/
theorem natFrom_loop (n : Nat) : ∀ out : List Int, n < 18446744073709551616 → out.length + (lim n).length < 35184372088832 → Ev (fun k => spec_NatFrom.l0 k (n : Int) out) (out ++ lim n) := by
  induction n using Nat.strongRecOn with
  | _ n ih =>
    intro out hn hl
    refine Ev.step ?_
    simp only [spec_NatFrom.l0]
    by_cases h : n = 0
    · subst h
      refine Ev.neg (by omega) ?_
      rw [lim_zero, List.append_nil]
      exact Ev.pure _
    · rw [lim_pos h, List.length_cons] at hl
      refine Ev.pos (by omega) (Ev.pos (by omega) ?_)
      have e1 : IntKind.u64.wrap (Int.tdiv (n : Int) 1000000000) = ((n / 1000000000 : Nat) : Int) := by
        rw [Int.tdiv_eq_ediv_of_nonneg (by omega), wu64 (by omega) (by omega)]; omega
      have e2 : (Int.tmod (n : Int) 1000000000) % 4294967296 = ((n % 1000000000 : Nat) : Int) := by
        rw [Int.tmod_eq_emod_of_nonneg (by omega)]; omega
      rw [e1, e2, snoc_lim h]
      exact ih (n / 1000000000) (by omega) _ (by omega) (by rw [List.length_append, List.length_singleton]; omega)
theorem natFrom (n : Nat) (hn : n < 18446744073709551616) : Ev (fun k => spec_NatFrom.f k (n : Int)) (lim n) := by
  have h := natFrom_loop n [] hn (by have := len_le (n := n) (m := 3) (by omega); simp; omega)
  rwa [List.nil_append] at h

/-! ### NatCmp -/
def cmp (a b : Nat) : Int := if a < b then -1 else if a = b then 0 else 1
theorem cmp_eq {a b : Nat} : cmp a b = 0 ↔ a = b := by unfold cmp; split <;> (try split) <;> omega
theorem cmp_lt {a b : Nat} : cmp a b < 0 ↔ a < b := by unfold cmp; split <;> (try split) <;> omega
theorem cmp_gt {a b : Nat} : cmp a b > 0 ↔ b < a := by unfold cmp; split <;> (try split) <;> omega
theorem natCmp_loop (a b i : Nat) (hi : i ≤ 9223372036854775807) (ha : ∀ j, j < i → (j : Int) < ((lim a).length : Int)) (hb : ∀ j, j < i → (j : Int) < ((lim b).length : Int)) (he : a / 1000000000 ^ i = b / 1000000000 ^ i) :
    Ev (fun k => spec_NatCmp.l0 k (lim a) (lim b) ((i : Int) - 1)) (cmp a b) := by
  induction i with
  | zero =>
    refine Ev.step ?_
    simp only [spec_NatCmp.l0]
    refine Ev.neg (by omega) ?_
    have : a = b := by simpa using he
    rw [cmp_eq.2 this]
    exact Ev.pure _
  | succ i ih =>
    refine Ev.step ?_
    simp only [spec_NatCmp.l0]
    have e : ((i + 1 : Nat) : Int) - 1 = (i : Int) := by omega
    rw [e, rd_lim, rd_lim]
    refine Ev.pos (by omega) (Ev.pos (by omega) (Ev.pos (ha i (by omega)) (Ev.pos (hb i (by omega)) ?_)))
    rw [pow_succ_div, pow_succ_div] at he
    have ea : a = 1000000000 ^ i * (a / 1000000000 ^ i) + a % 1000000000 ^ i := (Nat.div_add_mod a _).symm
    have eb : b = 1000000000 ^ i * (b / 1000000000 ^ i) + b % 1000000000 ^ i := (Nat.div_add_mod b _).symm
    have hp : 0 < 1000000000 ^ i := Nat.pow_pos (by omega)
    by_cases hc : a / 1000000000 ^ i % 1000000000 = b / 1000000000 ^ i % 1000000000
    · refine Ev.pos (by omega) ?_
      rw [w64 (by omega) (by omega)]
      exact ih (by omega) (fun j hj => ha j (by omega)) (fun j hj => hb j (by omega)) (by omega)
    · refine Ev.neg (by omega) ?_
      by_cases hlt : a / 1000000000 ^ i % 1000000000 < b / 1000000000 ^ i % 1000000000
      · refine Ev.pos (by omega) ?_
        have h1 : a / 1000000000 ^ i < b / 1000000000 ^ i := by omega
        have h2 : a < b := by
          have h3 := Nat.mul_le_mul_left (1000000000 ^ i) (show a / 1000000000 ^ i + 1 ≤ b / 1000000000 ^ i by omega)
          rw [Nat.mul_add, Nat.mul_one] at h3
          have := Nat.mod_lt a hp
          omega
        unfold cmp
        rw [if_pos h2]
        exact Ev.pure _
      · refine Ev.neg (by omega) ?_
        have h1 : b / 1000000000 ^ i < a / 1000000000 ^ i := by omega
        have h2 : b < a := by
          have h3 := Nat.mul_le_mul_left (1000000000 ^ i) (show b / 1000000000 ^ i + 1 ≤ a / 1000000000 ^ i by omega)
          rw [Nat.mul_add, Nat.mul_one] at h3
          have := Nat.mod_lt b hp
          omega
        unfold cmp
        rw [if_neg (by omega), if_neg (by omega)]
        exact Ev.pure _
theorem lt_of_len_lt {a b : Nat} (h : (lim a).length < (lim b).length) : a < b := by
  have h1 := lt_of_len (n := a) (Nat.le_refl _)
  have h2 := (len_lim b (lim a).length).1 h
  rcases Nat.lt_or_ge b (1000000000 ^ (lim a).length) with h3 | h3
  · exact absurd (Nat.div_eq_of_lt h3) h2
  · omega
theorem natCmp (a b : Nat) (ha : (lim a).length ≤ 9223372036854775807) : Ev (fun k => spec_NatCmp.f k (lim a) (lim b)) (cmp a b) := by
  unfold spec_NatCmp.f
  by_cases h : (lim a).length = (lim b).length
  · refine Ev.pos (by omega) ?_
    rw [w64 (by omega) (by omega)]
    refine natCmp_loop a b _ ha (fun j hj => by omega) (fun j hj => by omega) ?_
    have h1 := lt_of_len (n := a) (Nat.le_refl _)
    have h2 := lt_of_len (n := b) (Nat.le_refl _)
    rw [← h] at h2
    rw [Nat.div_eq_of_lt h1, Nat.div_eq_of_lt h2]
  · refine Ev.neg (by omega) ?_
    by_cases hlt : (lim a).length < (lim b).length
    · refine Ev.pos (by omega) ?_
      unfold cmp
      rw [if_pos (lt_of_len_lt hlt)]
      exact Ev.pure _
    · refine Ev.neg (by omega) ?_
      have := lt_of_len_lt (a := b) (b := a) (by omega)
      unfold cmp
      rw [if_neg (by omega), if_neg (by omega)]
      exact Ev.pure _

/-! ### NatAdd -/
theorem natAdd_loop (a b : Nat) (s : Nat) : ∀ (i c : Nat) (out : List Int), c ≤ 1 → c + a / 1000000000 ^ i + b / 1000000000 ^ i = s → i + (lim s).length < 35184372088832 → out.length = i →
    Ev (fun k => spec_NatAdd.l0 k (lim a) (lim b) out (c : Int) (i : Int)) (out ++ lim s) := by
  induction s using Nat.strongRecOn with
  | _ s ih =>
    intro i c out hc hs hl hi
    refine Ev.step ?_
    simp only [spec_NatAdd.l0]
    have ha := len_i a i
    have hb := len_i b i
    have ra := rd_lim a i
    have rb := rd_lim b i
    have sa := pow_succ_div a i
    have sb := pow_succ_div b i
    have ih' := fun (x : Nat) (hx : x < s) (out2 : List Int) (c2 : Nat) => ih x hx (i + 1) c2 out2
    rw [sa, sb] at ih'
    generalize a / 1000000000 ^ i = A at *
    generalize b / 1000000000 ^ i = B at *
    have next : ∀ {x y : Int} {z : Int}, x = ((s % 1000000000 : Nat) : Int) → y = ((s / 1000000000 - A / 1000000000 - B / 1000000000 : Nat) : Int) → z = (i : Int) →
        s ≠ 0 → Ev (fun k => spec_NatAdd.l0 k (lim a) (lim b) (out ++ [x]) y (wrap64 (z + 1))) (out ++ lim s) := by
      intro x y z hx hy hz hs0
      subst hx; subst hy; subst hz
      rw [lim_pos hs0, List.length_cons] at hl
      rw [w64 (by omega) (by omega), snoc_lim hs0]
      exact ih' (s / 1000000000) (by omega) _ _ (by omega) (by omega) (by omega) (by rw [List.length_append, List.length_singleton, hi])
    have hll : s ≠ 0 → out.length < 35184372088832 := by omega
    by_cases h1 : A ≠ 0
    · refine Ev.pos (ha.2 h1) (Ev.step ?_)
      simp only [spec_NatAdd.j1]
      have hs0 : s ≠ 0 := by omega
      refine Ev.pos trivial (Ev.pos (ha.2 h1) (Ev.pos (by omega) ?_))
      by_cases h2 : B ≠ 0
      · refine Ev.pos (hb.2 h2) (Ev.pos (hll hs0) ?_)
        rw [ra, rb]
        exact next (by omega) (by omega) rfl hs0
      · refine Ev.neg (fun h => h2 (hb.1 h)) (Ev.pos (hll hs0) ?_)
        rw [ra]
        exact next (by omega) (by omega) rfl hs0
    · refine Ev.neg (fun h => h1 (ha.1 h)) ?_
      by_cases h2 : B ≠ 0
      · refine Ev.pos (hb.2 h2) (Ev.step ?_)
        simp only [spec_NatAdd.j1]
        have hs0 : s ≠ 0 := by omega
        refine Ev.pos trivial (Ev.neg (fun h => h1 (ha.1 h)) (Ev.pos (hb.2 h2) (Ev.pos (by omega) (Ev.pos (hll hs0) ?_))))
        rw [rb]
        exact next (by omega) (by omega) rfl hs0
      · refine Ev.neg (fun h => h2 (hb.1 h)) (Ev.step ?_)
        simp only [spec_NatAdd.j1]
        by_cases hc0 : c = 0
        · refine Ev.neg (by simp; omega) ?_
          have : s = 0 := by omega
          rw [this, lim_zero, List.append_nil]
          exact Ev.pure _
        · have hs0 : s ≠ 0 := by omega
          refine Ev.pos (by simp; omega) (Ev.neg (fun h => h1 (ha.1 h)) (Ev.neg (fun h => h2 (hb.1 h)) (Ev.pos (hll hs0) ?_)))
          refine next ?_ ?_ rfl hs0
          · rw [Int.tmod_eq_emod_of_nonneg (by omega)]; omega
          · rw [Int.tdiv_eq_ediv_of_nonneg (by omega)]; omega
theorem natAdd (a b : Nat) (h : (lim (a + b)).length < 35184372088832) : Ev (fun k => spec_NatAdd.f k (lim a) (lim b)) (lim (a + b)) := by
  have := natAdd_loop a b (a + b) 0 0 [] (by omega) (by simp) (by omega) rfl
  rw [List.nil_append] at this
  exact this
end Go.Proofs.YtcgdphciepdkiaaDoor.Lm
