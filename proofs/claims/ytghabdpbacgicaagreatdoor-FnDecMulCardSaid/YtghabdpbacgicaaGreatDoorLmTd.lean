/-
  WHAT THE REFERENCE SAYS OF TEXTS AND FRACTIONS.
-/
import Derived.Test.YtghabdpbacgicaaGreatDoorLmOf
import Derived.Test.YtghabdpbacgicaaGreatDoorSWSt
import Derived.Test.YtghabdpbacgicaaGreatDoorSDFr
import Derived.Test.YtghabdpbacgicaaGreatDoorSWCmp
import Derived.Test.YtghabdpbacgicaaGreatDoorSWMul
import Derived.WideShapes
namespace Go.Proofs.YtghabdpbacgicaaGreatDoor.Lm
open Go.RowKit Go.Proofs.YtghabdpbacgicaaGreatDoorW.PrintWords Go.Proofs.YtghabdpbacgicaaGreatDoorW.PrintMore Go.Proofs.YtghabdpbacgicaaGreatDoor.S
set_option linter.unusedVariables false

/-- The text of a whole number. -/
def text (b : Bool) (n : Nat) : ByteArray := if b = true then (⟨#[45]⟩ : ByteArray) ++ decimal n else decimal n
theorem decimal_size (n : Nat) : (decimal n).size ≤ 9 * (lim n).length + 1 := by
  unfold decimal
  split
  · exact Nat.le_trans (show _ ≤ 1 by decide) (by omega)
  · rw [strOfNums_size, List.length_reverse]
    have : (revDig n).length ≤ 9 * (lim n).length := (revDig_le n _).2 (by rw [Nat.pow_mul]; exact lt_of_len (Nat.le_refl _))
    omega
theorem wholeStr (b : Bool) (n : Nat) (hn : (lim n).length ≤ 238609300) : Ev (fun k => spec_Whole_String.f k b (lim n)) (text b n) := by
  have hsz := decimal_size n
  cases b with
  | true =>
    have h : Ev (fun k => (spec_Nat_String.f k (lim n)).bind fun t145 => if 1 + t145.size ≤ 9223372036854775807 then some ((⟨#[45]⟩ : ByteArray) ++ t145) else none) (text true n) := (natString n (by omega)).bind (Ev.pos (by omega) (Ev.pure _))
    exact Ev.congr h (fun k => by unfold spec_Whole_String.f; simp)
  | false => exact Ev.congr ((natString n (by omega)).bind (Ev.pure _)) (fun k => by unfold spec_Whole_String.f; simp)
theorem bytes_eq {a b : ByteArray} (h : a.toList = b.toList) : a = b := by
  rw [ByteArray.toList_eq, ByteArray.toList_eq] at h
  exact Go.WideShapes.bytes_inj h
theorem pow_len {n d m : Nat} (h : n < 10 ^ d) (hd : d ≤ 9 * m) : (lim n).length ≤ m := len_le (Nat.lt_of_lt_of_le h (by rw [show (1000000000 : Nat) = 10 ^ 9 from rfl, ← Nat.pow_mul]; exact Nat.pow_le_pow_right (by omega) hd))
theorem len400 {n : Nat} (h : ndig n ≤ 400) : (lim n).length ≤ 45 := pow_len (ndig_le.1 h) (by omega)
theorem len_pow10 (e : Nat) (h : e ≤ 400) : (lim (10 ^ e)).length ≤ 45 := pow_len (Nat.pow_lt_pow_right (by omega) (Nat.lt_succ_self e)) (by omega)
theorem len_prod {a b x y : Nat} (ha : (lim a).length ≤ x) (hb : (lim b).length ≤ y) : (lim (a * b)).length ≤ x + y := len_le (by rw [Nat.pow_add]; exact Nat.mul_lt_mul'' (lt_of_len ha) (lt_of_len hb))
theorem frac_some (b : Bool) (n : Nat) (e : Int) (hn : ndig n ≤ 400) (h0 : -400 ≤ e) (h1 : e ≤ 400) : ∃ b' N D, (lim N).length ≤ 90 ∧ (lim D).length ≤ 45 ∧ Ev (fun k => spec_Dec_Frac.f k b (lim n) e) (b', lim N, lim D) := by
  by_cases he : e ≥ 0
  · obtain ⟨m, rfl⟩ : ∃ m : Nat, e = m := ⟨e.toNat, by omega⟩
    have h45 := len400 hn
    have h46 := len_pow10 m (by omega)
    refine ⟨sg b (n * 10 ^ m), n * 10 ^ m, 1, len_prod h45 h46, len_le (by decide), ?_⟩
    have h1' : spec_one.f = some (lim 1) := by unfold spec_one.f; rw [lim_pos (by decide), lim_zero]; rfl
    have h2 : Ev (fun k => spec_one.f.bind fun t => some (sg b (n * 10 ^ m), lim (n * 10 ^ m), t)) (sg b (n * 10 ^ m), lim (n * 10 ^ m), lim 1) := (Ev.of h1').bind (Ev.pure _)
    have h3 : Ev (fun k => (spec_Pow10.f k (m : Int)).bind fun t217 => (spec_NatMul.f k (lim n) t217).bind fun t220 => (spec_wholeOf.f b t220).bind fun bt223 => spec_one.f.bind fun t227 => some (bt223.1, bt223.2, t227)) (sg b (n * 10 ^ m), lim (n * 10 ^ m), lim 1) := (pow10 m (by omega)).bind ((natMul n (10 ^ m) (by omega)).bind ((Ev.of (wholeOf b (n * 10 ^ m))).bind h2))
    exact Ev.congr h3 (fun k => by unfold spec_Dec_Frac.f; rw [if_pos he])
  · obtain ⟨m, rfl⟩ : ∃ m : Nat, e = -(m : Int) := ⟨(-e).toNat, by omega⟩
    refine ⟨b, n, 10 ^ m, Nat.le_trans (len400 hn) (by omega), len_pow10 m (by omega), ?_⟩
    have hw : wrap64 (- -(m : Int)) = (m : Int) := by rw [w64 (by omega) (by omega)]; omega
    have h3 : Ev (fun k => (spec_Pow10.f k (m : Int)).bind fun t230 => some (b, lim n, t230)) (b, lim n, lim (10 ^ m)) := (pow10 m (by omega)).bind (Ev.pure _)
    exact Ev.congr h3 (fun k => by unfold spec_Dec_Frac.f; rw [if_neg he, hw])
theorem cmp_self (a : Nat) : cmp a a = 0 := cmp_eq.2 rfl
theorem wholeCmp_self (b : Bool) (n : Nat) (h : (lim n).length ≤ 1000) : Ev (fun k => spec_Whole_Cmp.f k b (lim n) b (lim n)) 0 := by
  have hc := natCmp n n (by omega)
  rw [cmp_self] at hc
  refine Ev.congr (Ev.neg (c := (b != b) = true) (g := fun _ => none) (by simp) (Ev.step (g := fun k => spec_Whole_Cmp.j0 k false b (lim n) b (lim n)) ?_)) (fun k => by unfold spec_Whole_Cmp.f; simp)
  simp only [spec_Whole_Cmp.j0]
  refine Ev.neg (by simp) (Ev.neg (by simp) ?_)
  by_cases hb : b = true
  · exact Ev.pos hb (hc.bind (Ev.pure _))
  · exact Ev.neg hb (hc.bind (Ev.pure _))
end Go.Proofs.YtghabdpbacgicaaGreatDoor.Lm
