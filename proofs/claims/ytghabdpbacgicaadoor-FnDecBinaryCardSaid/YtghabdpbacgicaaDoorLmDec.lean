/-
  WHAT THE REFERENCE SAYS OF A DECIMAL: OfDec, OfAny, Frac, SameDec, Worth.
-/
import Derived.Test.YtghabdpbacgicaaDoorLmOf
import Derived.Test.YtghabdpbacgicaaDoorSWor
import Derived.WideShapes
namespace Go.Proofs.YtghabdpbacgicaaDoor.Lm
open Go.RowKit Go.Proofs.YtghabdpbacgicaaDoorW.PrintWords Go.Proofs.YtghabdpbacgicaaDoorW.PrintMore Go.Proofs.YtghabdpbacgicaaDoor.S
set_option linter.unusedVariables false

/-- The text of a whole number. -/
def text (b : Bool) (n : Nat) : ByteArray := if b = true then (⟨#[45]⟩ : ByteArray) ++ decimal n else decimal n
theorem decimal_size (n : Nat) : (decimal n).size ≤ 9 * (lim n).length + 1 := by
  unfold decimal
  split
  · exact Nat.le_trans (show _ ≤ 1 by decide) (by omega)
  · rw [strOfNums_size, List.length_reverse]
    have : (revDig n).length ≤ 9 * (lim n).length := (revDig_le n _).2 (by rw [Nat.pow_mul]; exact lt_of_len (Nat.le_refl _))
    omega
theorem wholeStr (b : Bool) (n : Nat) (hn : (lim n).length ≤ 238609300) : Ev (fun k => spec_Whole_String.f k b (lim n)) (text b n) := by
  have hsz := decimal_size n
  cases b with
  | true =>
    have h : Ev (fun k => (spec_Nat_String.f k (lim n)).bind fun t145 => if 1 + t145.size ≤ 9223372036854775807 then some ((⟨#[45]⟩ : ByteArray) ++ t145) else none) (text true n) := (natString n (by omega)).bind (Ev.pos (by omega) (Ev.pure _))
    exact Ev.congr h (fun k => by unfold spec_Whole_String.f; simp)
  | false => exact Ev.congr ((natString n (by omega)).bind (Ev.pure _)) (fun k => by unfold spec_Whole_String.f; simp)
theorem bytes_eq {a b : ByteArray} (h : a.toList = b.toList) : a = b := by
  rw [ByteArray.toList_eq, ByteArray.toList_eq] at h
  exact Go.WideShapes.bytes_inj h
theorem ofDec_some (s : ByteArray) (e : Int) (hs : s.size ≤ 2147483647) : ∃ b n ok, (lim n).length ≤ 238609300 ∧ Ev (fun k => spec_OfDec.f k s e) (sg b n, lim n, e, ok) ∧
    (ok = true → Ev (fun k => spec_ParseWhole.f k s) (sg b n, lim n, true) ∧ s = text (sg b n) n ∧ ndig n ≤ 400 ∧ -400 ≤ e ∧ e ≤ 400) := by
  obtain ⟨b, n, ok, hl, he⟩ := parse_some s hs
  have go : ∀ ok', Ev (fun k => spec_OfDec.f k s e) (sg b n, lim n, e, ok') → (ok' = true → ok = true ∧ s = text (sg b n) n ∧ ndig n ≤ 400 ∧ -400 ≤ e ∧ e ≤ 400) → ∃ b n ok, (lim n).length ≤ 238609300 ∧ Ev (fun k => spec_OfDec.f k s e) (sg b n, lim n, e, ok) ∧
    (ok = true → Ev (fun k => spec_ParseWhole.f k s) (sg b n, lim n, true) ∧ s = text (sg b n) n ∧ ndig n ≤ 400 ∧ -400 ≤ e ∧ e ≤ 400) := fun ok' h h' => ⟨b, n, ok', hl, h, fun hk => by
      obtain ⟨rfl, h2⟩ := h' hk
      exact ⟨he, h2⟩⟩
  cases ok with
  | false => exact go false (he.bind (Ev.neg (by simp) (Ev.pure _))) (fun h => by cases h)
  | true =>
    by_cases ht : (text (sg b n) n).toList = s.toList
    · by_cases h4 : (ndig n : Int) ≤ 400
      · by_cases h5 : e ≥ -400
        · refine go (decide (e ≤ 400)) (he.bind (Ev.pos (by simp) ((wholeStr (sg b n) n hl).bind (Ev.pos ht ((natDigits n (by omega)).bind (Ev.pos h4 (Ev.pos h5 (Ev.pure _)))))))) (fun h => ⟨rfl, (bytes_eq ht).symm, (by omega), h5, of_decide_eq_true h⟩)
        · exact go false (he.bind (Ev.pos (by simp) ((wholeStr (sg b n) n hl).bind (Ev.pos ht ((natDigits n (by omega)).bind (Ev.pos h4 (Ev.neg h5 (Ev.pure _)))))))) (fun h => by cases h)
      · exact go false (he.bind (Ev.pos (by simp) ((wholeStr (sg b n) n hl).bind (Ev.pos ht ((natDigits n (by omega)).bind (Ev.neg h4 (Ev.pure _))))))) (fun h => by cases h)
    · exact go false (he.bind (Ev.pos (by simp) ((wholeStr (sg b n) n hl).bind (Ev.neg ht (Ev.pure _))))) (fun h => by cases h)
theorem pow_len {n d m : Nat} (h : n < 10 ^ d) (hd : d ≤ 9 * m) : (lim n).length ≤ m := len_le (Nat.lt_of_lt_of_le h (by rw [show (1000000000 : Nat) = 10 ^ 9 from rfl, ← Nat.pow_mul]; exact Nat.pow_le_pow_right (by omega) hd))
theorem len400 {n : Nat} (h : ndig n ≤ 400) : (lim n).length ≤ 45 := pow_len (ndig_le.1 h) (by omega)
theorem len_pow10 (e : Nat) (h : e ≤ 400) : (lim (10 ^ e)).length ≤ 45 := pow_len (Nat.pow_lt_pow_right (by omega) (Nat.lt_succ_self e)) (by omega)
theorem len_prod {a b x y : Nat} (ha : (lim a).length ≤ x) (hb : (lim b).length ≤ y) : (lim (a * b)).length ≤ x + y := len_le (by rw [Nat.pow_add]; exact Nat.mul_lt_mul'' (lt_of_len ha) (lt_of_len hb))
theorem frac_some (b : Bool) (n : Nat) (e : Int) (hn : ndig n ≤ 400) (h0 : -400 ≤ e) (h1 : e ≤ 400) : ∃ b' N D, (lim N).length ≤ 90 ∧ (lim D).length ≤ 45 ∧ Ev (fun k => spec_Dec_Frac.f k b (lim n) e) (b', lim N, lim D) := by
  by_cases he : e ≥ 0
  · obtain ⟨m, rfl⟩ : ∃ m : Nat, e = m := ⟨e.toNat, by omega⟩
    have h45 := len400 hn
    have h46 := len_pow10 m (by omega)
    refine ⟨sg b (n * 10 ^ m), n * 10 ^ m, 1, len_prod h45 h46, len_le (by decide), ?_⟩
    have h1' : spec_one.f = some (lim 1) := by unfold spec_one.f; rw [lim_pos (by decide), lim_zero]; rfl
    have h2 : Ev (fun k => spec_one.f.bind fun t => some (sg b (n * 10 ^ m), lim (n * 10 ^ m), t)) (sg b (n * 10 ^ m), lim (n * 10 ^ m), lim 1) := (Ev.of h1').bind (Ev.pure _)
    have h3 : Ev (fun k => (spec_Pow10.f k (m : Int)).bind fun t217 => (spec_NatMul.f k (lim n) t217).bind fun t220 => (spec_wholeOf.f b t220).bind fun bt223 => spec_one.f.bind fun t227 => some (bt223.1, bt223.2, t227)) (sg b (n * 10 ^ m), lim (n * 10 ^ m), lim 1) := (pow10 m (by omega)).bind ((natMul n (10 ^ m) (by omega)).bind ((Ev.of (wholeOf b (n * 10 ^ m))).bind h2))
    exact Ev.congr h3 (fun k => by unfold spec_Dec_Frac.f; rw [if_pos he])
  · obtain ⟨m, rfl⟩ : ∃ m : Nat, e = -(m : Int) := ⟨(-e).toNat, by omega⟩
    refine ⟨b, n, 10 ^ m, Nat.le_trans (len400 hn) (by omega), len_pow10 m (by omega), ?_⟩
    have hw : wrap64 (- -(m : Int)) = (m : Int) := by rw [w64 (by omega) (by omega)]; omega
    have h3 : Ev (fun k => (spec_Pow10.f k (m : Int)).bind fun t230 => some (b, lim n, t230)) (b, lim n, lim (10 ^ m)) := (pow10 m (by omega)).bind (Ev.pure _)
    exact Ev.congr h3 (fun k => by unfold spec_Dec_Frac.f; rw [if_neg he, hw])
theorem cmp_self (a : Nat) : cmp a a = 0 := cmp_eq.2 rfl
theorem wholeCmp_self (b : Bool) (n : Nat) (h : (lim n).length ≤ 1000) : Ev (fun k => spec_Whole_Cmp.f k b (lim n) b (lim n)) 0 := by
  have hc := natCmp n n (by omega)
  rw [cmp_self] at hc
  refine Ev.congr (Ev.neg (c := (b != b) = true) (g := fun _ => none) (by simp) (Ev.step (g := fun k => spec_Whole_Cmp.j0 k false b (lim n) b (lim n)) ?_)) (fun k => by unfold spec_Whole_Cmp.f; simp)
  simp only [spec_Whole_Cmp.j0]
  refine Ev.neg (by simp) (Ev.neg (by simp) ?_)
  by_cases hb : b = true
  · exact Ev.pos hb (hc.bind (Ev.pure _))
  · exact Ev.neg hb (hc.bind (Ev.pure _))
theorem same_self (b : Bool) (n : Nat) (e : Int) (hn : ndig n ≤ 400) (h0 : -400 ≤ e) (h1 : e ≤ 400) : Ev (fun k => spec_SameDec.f k b (lim n) e b (lim n) e) true := by
  obtain ⟨b', N, D, hN, hD, hf⟩ := frac_some b n e hn h0 h1
  have hm : Ev (fun k => spec_Whole_Mul.f k b' (lim N) false (lim D)) (sg (b' != false) (N * D), lim (N * D)) := (natMul N D (by omega)).bind ((Ev.of (wholeOf (b' != false) (N * D))).bind (Ev.pure _))
  have hc : Ev (fun k => spec_Frac_Cmp.f k b' (lim N) (lim D) b' (lim N) (lim D)) 0 := hm.bind (hm.bind ((wholeCmp_self _ _ (Nat.le_trans (len_prod hN hD) (by omega))).bind (Ev.pure _)))
  exact hf.bind (hf.bind (hc.bind (Ev.pure _)))
theorem worth_self (s : ByteArray) (b : Bool) (n : Nat) (e : Int) (hn : ndig n ≤ 400) (h0 : -400 ≤ e) (h1 : e ≤ 400) (hs : s = text b n) (hp : Ev (fun k => spec_ParseWhole.f k s) (b, lim n, true)) : Ev (fun k => spec_Worth.f k s e b (lim n) e) true := by
  have hl := len400 hn
  have hsz : s.size ≤ 2001 := by
    rw [hs]
    have := decimal_size n
    unfold text
    split
    · rw [ByteArray.size_append]
      exact Nat.le_trans (Nat.add_le_add_left this 1) (by omega)
    · omega
  have hany : Ev (fun k => spec_OfAny.f k s e) (b, lim n, e, true) := by
    have hj : Ev (fun k => spec_OfAny.j0 k false s e) (b, lim n, e, true) := by
      refine Ev.step ?_
      simp only [spec_OfAny.j0]
      refine Ev.neg (by simp) (hp.bind (Ev.pos (by simp) ((wholeStr b n (by omega)).bind ?_)))
      rw [hs]
      simp only [beq_self_eq_true]
      exact Ev.pure _
    exact Ev.congr hj (fun k => by unfold spec_OfAny.f; rw [if_neg (by omega), if_neg (by omega), show decide (e > 2000) = false from decide_eq_false (by omega)])
  exact hany.bind (Ev.pos (by simp) ((same_self b n e hn h0 h1).bind (Ev.pure _)))
end Go.Proofs.YtghabdpbacgicaaDoor.Lm
