/-
  WHAT THE REFERENCE's NUMBERS ANSWER: NatCmp, of numbers kept as limbs ('lim n').
-/
import Derived.Test.YtghabdpbacgicaaGreatDoorLm
import Derived.Test.YtghabdpbacgicaaGreatDoorSCmp
namespace Go.Proofs.YtghabdpbacgicaaGreatDoor.Lm
open Go.RowKit Go.Proofs.YtghabdpbacgicaaGreatDoorW.PrintWords Go.Proofs.YtghabdpbacgicaaGreatDoor.S
set_option linter.unusedVariables false

theorem snoc_lim {n : Nat} (h : n ≠ 0) (out : List Int) : out ++ lim n = (out ++ [((n % 1000000000 : Nat) : Int)]) ++ lim (n / 1000000000) := by rw [lim_pos h, List.append_assoc]; rfl

/-- One more, of a count: no wrap. (As a lemma, not as a hypothesis: omega tells two 'wrap64' apart by unfolding them.) -/
theorem w64s (i : Nat) (h : i < 9223372036854775807) : wrap64 ((i : Int) + 1) = ((i + 1 : Nat) : Int) := by rw [w64 (by omega) (by omega)]; omega
/-! ### NatCmp -/
def cmp (a b : Nat) : Int := if a < b then -1 else if a = b then 0 else 1
theorem cmp_eq {a b : Nat} : cmp a b = 0 ↔ a = b := by unfold cmp; split <;> (try split) <;> omega
theorem cmp_lt {a b : Nat} : cmp a b < 0 ↔ a < b := by unfold cmp; split <;> (try split) <;> omega
theorem cmp_gt {a b : Nat} : cmp a b > 0 ↔ b < a := by unfold cmp; split <;> (try split) <;> omega
theorem natCmp_loop (a b i : Nat) (hi : i ≤ 9223372036854775807) (ha : ∀ j, j < i → (j : Int) < ((lim a).length : Int)) (hb : ∀ j, j < i → (j : Int) < ((lim b).length : Int)) (he : a / 1000000000 ^ i = b / 1000000000 ^ i) :
    Ev (fun k => spec_NatCmp.l0 k (lim a) (lim b) ((i : Int) - 1)) (cmp a b) := by
  induction i with
  | zero =>
    refine Ev.step ?_
    simp only [spec_NatCmp.l0]
    refine Ev.neg (by omega) ?_
    have : a = b := by simpa using he
    rw [cmp_eq.2 this]
    exact Ev.pure _
  | succ i ih =>
    refine Ev.step ?_
    simp only [spec_NatCmp.l0]
    have e : ((i + 1 : Nat) : Int) - 1 = (i : Int) := by omega
    rw [e, rd_lim, rd_lim]
    refine Ev.pos (by omega) (Ev.pos (by omega) (Ev.pos (ha i (by omega)) (Ev.pos (hb i (by omega)) ?_)))
    rw [pow_succ_div, pow_succ_div] at he
    have ea : a = 1000000000 ^ i * (a / 1000000000 ^ i) + a % 1000000000 ^ i := (Nat.div_add_mod a _).symm
    have eb : b = 1000000000 ^ i * (b / 1000000000 ^ i) + b % 1000000000 ^ i := (Nat.div_add_mod b _).symm
    have hp : 0 < 1000000000 ^ i := Nat.pow_pos (by omega)
    by_cases hc : a / 1000000000 ^ i % 1000000000 = b / 1000000000 ^ i % 1000000000
    · refine Ev.pos (by omega) ?_
      rw [w64 (by omega) (by omega)]
      exact ih (by omega) (fun j hj => ha j (by omega)) (fun j hj => hb j (by omega)) (by omega)
    · refine Ev.neg (by omega) ?_
      by_cases hlt : a / 1000000000 ^ i % 1000000000 < b / 1000000000 ^ i % 1000000000
      · refine Ev.pos (by omega) ?_
        have h1 : a / 1000000000 ^ i < b / 1000000000 ^ i := by omega
        have h2 : a < b := by
          have h3 := Nat.mul_le_mul_left (1000000000 ^ i) (show a / 1000000000 ^ i + 1 ≤ b / 1000000000 ^ i by omega)
          rw [Nat.mul_add, Nat.mul_one] at h3
          have := Nat.mod_lt a hp
          omega
        unfold cmp
        rw [if_pos h2]
        exact Ev.pure _
      · refine Ev.neg (by omega) ?_
        have h1 : b / 1000000000 ^ i < a / 1000000000 ^ i := by omega
        have h2 : b < a := by
          have h3 := Nat.mul_le_mul_left (1000000000 ^ i) (show b / 1000000000 ^ i + 1 ≤ a / 1000000000 ^ i by omega)
          rw [Nat.mul_add, Nat.mul_one] at h3
          have := Nat.mod_lt b hp
          omega
        unfold cmp
        rw [if_neg (by omega), if_neg (by omega)]
        exact Ev.pure _
theorem lt_of_len_lt {a b : Nat} (h : (lim a).length < (lim b).length) : a < b := by
  have h1 := lt_of_len (n := a) (Nat.le_refl _)
  have h2 := (len_lim b (lim a).length).1 h
  rcases Nat.lt_or_ge b (1000000000 ^ (lim a).length) with h3 | h3
  · exact absurd (Nat.div_eq_of_lt h3) h2
  · omega
theorem natCmp (a b : Nat) (ha : (lim a).length ≤ 9223372036854775807) : Ev (fun k => spec_NatCmp.f k (lim a) (lim b)) (cmp a b) := by
  unfold spec_NatCmp.f
  by_cases h : (lim a).length = (lim b).length
  · refine Ev.pos (by omega) ?_
    rw [w64 (by omega) (by omega)]
    refine natCmp_loop a b _ ha (fun j hj => by omega) (fun j hj => by omega) ?_
    have h1 := lt_of_len (n := a) (Nat.le_refl _)
    have h2 := lt_of_len (n := b) (Nat.le_refl _)
    rw [← h] at h2
    rw [Nat.div_eq_of_lt h1, Nat.div_eq_of_lt h2]
  · refine Ev.neg (by omega) ?_
    by_cases hlt : (lim a).length < (lim b).length
    · refine Ev.pos (by omega) ?_
      unfold cmp
      rw [if_pos (lt_of_len_lt hlt)]
      exact Ev.pure _
    · refine Ev.neg (by omega) ?_
      have := lt_of_len_lt (a := b) (b := a) (by omega)
      unfold cmp
      rw [if_neg (by omega), if_neg (by omega)]
      exact Ev.pure _

end Go.Proofs.YtghabdpbacgicaaGreatDoor.Lm
