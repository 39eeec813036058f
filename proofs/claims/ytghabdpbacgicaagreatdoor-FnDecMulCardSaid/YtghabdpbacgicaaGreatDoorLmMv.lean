/-
  WHAT THE REFERENCE SAYS of decimals fitted, as fractions, and of results.
-/
import Derived.Test.YtghabdpbacgicaaGreatDoorLmMu
import Derived.Test.YtghabdpbacgicaaGreatDoorSFit
import Derived.Test.YtghabdpbacgicaaGreatDoorSFOf
import Derived.Test.YtghabdpbacgicaaGreatDoorSFMl
import Derived.Test.YtghabdpbacgicaaGreatDoorSSay
namespace Go.Proofs.YtghabdpbacgicaaGreatDoor.Lm
open Go.RowKit Go.Proofs.YtghabdpbacgicaaGreatDoorW.PrintWords Go.Proofs.YtghabdpbacgicaaGreatDoorW.PrintMore Go.Proofs.YtghabdpbacgicaaGreatDoor.S
set_option linter.unusedVariables false

theorem revDig_snoc (n d : Nat) (hd : d < 10) (h : n * 10 + d ≠ 0) : (revDig (n * 10 + d)).reverse = (revDig n).reverse ++ [((48 + d : Nat) : Int)] := by
  rw [revDig_pos h, show (n * 10 + d) % 10 = d by omega, show (n * 10 + d) / 10 = n by omega, List.reverse_cons]
theorem revDig_nil {n : Nat} : (revDig n).length = 0 ↔ n = 0 := by
  constructor
  · intro h
    rcases Nat.eq_zero_or_pos n with h0 | h0
    · exact h0
    · rw [revDig_pos (by omega)] at h; simp at h
  · intro h; subst h; rw [revDig_zero]; rfl
theorem fit_end (s : ByteArray) (e : Int) (n : Nat) (hn : ndig n ≤ 60) (hs : n = 0 ∨ 0 < s.size) (i : Int) : ∃ b, (b = true → n ≠ 0) ∧ Ev (fun k => spec_DecFit.j1 k 60 60 (revDig n).reverse i false s e) (text b n, Int.tmod e 61) := by
  have h61 : wrap64 (60 + 1) = 61 := by rw [w64 (by omega) (by omega)]; rfl
  have hn' : (revDig n).length ≤ 60 := hn
  by_cases h0 : n = 0
  · refine ⟨false, (fun h => by cases h), Ev.step ?_⟩
    simp only [spec_DecFit.j1]
    rw [h61, List.length_reverse]
    have := revDig_nil.2 h0
    subst h0
    exact Ev.neg (by decide) (Ev.neg (by decide) (Ev.pos (by omega) (Ev.pure _)))
  · have hp : (revDig n).length ≠ 0 := fun h => h0 (revDig_nil.1 h)
    have hd : decimal n = strOfNums (revDig n).reverse := by unfold decimal; rw [if_neg h0]
    have hsz : (decimal n).size = (revDig n).length := by rw [hd, strOfNums_size, List.length_reverse]
    by_cases hb : bt s 0 = 45
    · refine ⟨true, (fun _ => h0), Ev.step ?_⟩
      simp only [spec_DecFit.j1]
      rw [h61, List.length_reverse, ← hd]
      have ht : text true n = (⟨#[45]⟩ : ByteArray) ++ decimal n := if_pos rfl
      rw [ht]
      exact Ev.neg (by decide) (Ev.neg (by decide) (Ev.neg (by omega) (Ev.pos (by omega) (Ev.pos hb (Ev.pos (by omega) (Ev.pure _))))))
    · refine ⟨false, (fun h => by cases h), Ev.step ?_⟩
      simp only [spec_DecFit.j1]
      rw [h61, List.length_reverse, ← hd]
      have ht : text false n = decimal n := if_neg (by simp)
      rw [ht]
      exact Ev.neg (by decide) (Ev.neg (by decide) (Ev.neg (by omega) (Ev.pos (by omega) (Ev.neg hb (Ev.pure _)))))
theorem fit_loop (s : ByteArray) (hs : s.size ≤ 2147483647) (e : Int) (d : Nat) : ∀ (i n : Nat), i + d = s.size → ndig n ≤ 60 → (n = 0 ∨ 0 < s.size) →
    ∃ b n', (b = true → n' ≠ 0) ∧ ndig n' ≤ 60 ∧ Ev (fun k => spec_DecFit.l0 k 60 60 (revDig n).reverse (i : Int) s e) (text b n', Int.tmod e 61) := by
  induction d with
  | zero =>
    intro i n hi hn hne
    obtain ⟨b, hb, he⟩ := fit_end s e n hn hne (i : Int)
    refine ⟨b, n, hb, hn, Ev.step ?_⟩
    simp only [spec_DecFit.l0]
    exact Ev.neg (by omega) he
  | succ d ih =>
    intro i n hi hn hne
    have hn' : (revDig n).length ≤ 60 := hn
    by_cases hl : (revDig n).length < 60
    · have hw : wrap64 ((i : Int) + 1) = ((i + 1 : Nat) : Int) := w64s i (by omega)
      have hlt : decide ((((revDig n).reverse.length : Nat) : Int) < 60) = true := decide_eq_true (by rw [List.length_reverse]; omega)
      have skip : ∀ (G : Nat → Option (ByteArray × Int)), True := fun _ => trivial
      obtain ⟨b0, m0, hb0, hm0, he0⟩ := ih (i + 1) n (by omega) hn (.inr (by omega))
      by_cases h48 : bt s (i : Int) ≥ 48
      · by_cases h57 : bt s (i : Int) ≤ 57
        · obtain ⟨c, hc⟩ : ∃ c : Nat, bt s (i : Int) = 48 + c := ⟨(bt s i - 48).toNat, by omega⟩
          have app : n * 10 + c ≠ 0 → ∃ b n', (b = true → n' ≠ 0) ∧ ndig n' ≤ 60 ∧ Ev (fun k => spec_DecFit.l0 k 60 60 ((revDig n).reverse ++ [bt s (i : Int)]) (wrap64 ((i : Int) + 1)) s e) (text b n', Int.tmod e 61) := fun hx => by
            have hr := revDig_snoc n c (by omega) hx
            have hnd : ndig (n * 10 + c) ≤ 60 := by
              have := congrArg List.length hr
              rw [List.length_reverse, List.length_append, List.length_reverse] at this
              show (revDig (n * 10 + c)).length ≤ 60
              simp at this
              omega
            obtain ⟨b, n', hb, hm, he⟩ := ih (i + 1) (n * 10 + c) (by omega) hnd (.inr (by omega))
            rw [hr] at he
            refine ⟨b, n', hb, hm, ?_⟩
            rw [hw, hc]
            exact he
          by_cases hp : (((revDig n).reverse.length : Nat) : Int) > 0
          · obtain ⟨b, n', hb, hm, he⟩ := app (by
              rw [List.length_reverse] at hp
              intro h0
              have : n = 0 := by omega
              have := revDig_nil.2 this
              omega)
            refine ⟨b, n', hb, hm, Ev.step ?_⟩
            simp only [spec_DecFit.l0]
            rw [hlt]
            refine Ev.pos (by omega) (Ev.step ?_)
            simp only [spec_DecFit.j1]
            exact Ev.pos (by simp) (Ev.pos (by omega) (Ev.pos (by omega) (Ev.pos h48 (Ev.pos h57 (Ev.pos hp (Ev.pos (by rw [List.length_reverse]; omega) he))))))
          · by_cases hc0 : bt s (i : Int) = 48
            · refine ⟨b0, m0, hb0, hm0, Ev.step ?_⟩
              simp only [spec_DecFit.l0]
              rw [hlt]
              refine Ev.pos (by omega) (Ev.step ?_)
              simp only [spec_DecFit.j1]
              rw [hw]
              exact Ev.pos (by simp) (Ev.pos (by omega) (Ev.pos (by omega) (Ev.pos h48 (Ev.pos h57 (Ev.neg hp (Ev.pos hc0 he0))))))
            · obtain ⟨b, n', hb, hm, he⟩ := app (by omega)
              refine ⟨b, n', hb, hm, Ev.step ?_⟩
              simp only [spec_DecFit.l0]
              rw [hlt]
              refine Ev.pos (by omega) (Ev.step ?_)
              simp only [spec_DecFit.j1]
              exact Ev.pos (by simp) (Ev.pos (by omega) (Ev.pos (by omega) (Ev.pos h48 (Ev.pos h57 (Ev.neg hp (Ev.neg hc0 (Ev.pos (by rw [List.length_reverse]; omega) he)))))))
        · refine ⟨b0, m0, hb0, hm0, Ev.step ?_⟩
          simp only [spec_DecFit.l0]
          rw [hlt]
          refine Ev.pos (by omega) (Ev.step ?_)
          simp only [spec_DecFit.j1]
          rw [hw]
          exact Ev.pos (by simp) (Ev.pos (by omega) (Ev.pos (by omega) (Ev.pos h48 (Ev.neg h57 he0))))
      · refine ⟨b0, m0, hb0, hm0, Ev.step ?_⟩
        simp only [spec_DecFit.l0]
        rw [hlt]
        refine Ev.pos (by omega) (Ev.step ?_)
        simp only [spec_DecFit.j1]
        rw [hw]
        exact Ev.pos (by simp) (Ev.pos (by omega) (Ev.pos (by omega) (Ev.neg h48 he0)))
    · obtain ⟨b, hb, he⟩ := fit_end s e n hn hne (i : Int)
      refine ⟨b, n, hb, hn, Ev.step ?_⟩
      simp only [spec_DecFit.l0]
      rw [show decide ((((revDig n).reverse.length : Nat) : Int) < 60) = false from decide_eq_false (by rw [List.length_reverse]; omega)]
      exact Ev.pos (by omega) he
/-- A decimal fitted: digits and a sign, and the exponent's rest. -/
theorem fit_some (s : ByteArray) (hs : s.size ≤ 2147483647) (e : Int) : ∃ b n, (b = true → n ≠ 0) ∧ ndig n ≤ 60 ∧ Ev (fun k => spec_DecFit.f k s e 60 60) (text b n, Int.tmod e 61) := by
  obtain ⟨b, n, hb, hn, he⟩ := fit_loop s hs e s.size 0 0 (by omega) (by unfold ndig; rw [revDig_zero]; exact Nat.zero_le _) (.inl rfl)
  rw [revDig_zero] at he
  exact ⟨b, n, hb, hn, he⟩
/-- The fraction of a decimal. -/
theorem frac_is (b : Bool) (n : Nat) (e : Int) (hb : b = true → n ≠ 0) (hn : ndig n ≤ 390) (h0 : -400 ≤ e) (h1 : e ≤ 400) : Ev (fun k => spec_Dec_Frac.f k b (lim n) e) (b, lim (n * 10 ^ e.toNat), lim (10 ^ (-e).toNat)) := by
  have h45 := len400 (n := n) (by omega)
  by_cases he : e ≥ 0
  · obtain ⟨m, rfl⟩ : ∃ m : Nat, e = m := ⟨e.toNat, by omega⟩
    rw [Int.toNat_natCast, show (-(m : Int)).toNat = 0 by omega, Nat.pow_zero]
    have h46 := len_pow10 m (by omega)
    have h1' : spec_one.f = some (lim 1) := by unfold spec_one.f; rw [lim_pos (by decide), lim_zero]; rfl
    have hw := wholeOf b (n * 10 ^ m)
    have hsg : sg b (n * 10 ^ m) = b := by
      cases b with
      | false => exact sg_false _
      | true => exact sg_pos (Nat.mul_ne_zero (hb rfl) (Nat.pos_iff_ne_zero.1 (Nat.pow_pos (by omega)))) _
    rw [hsg] at hw
    have h2 : Ev (fun k => spec_one.f.bind fun t => some (b, lim (n * 10 ^ m), t)) (b, lim (n * 10 ^ m), lim 1) := (Ev.of h1').bind (Ev.pure _)
    have h3 : Ev (fun k => (spec_Pow10.f k (m : Int)).bind fun t217 => (spec_NatMul.f k (lim n) t217).bind fun t220 => (spec_wholeOf.f b t220).bind fun bt223 => spec_one.f.bind fun t227 => some (bt223.1, bt223.2, t227)) (b, lim (n * 10 ^ m), lim 1) := (pow10 m (by omega)).bind ((natMul n (10 ^ m) (by omega)).bind ((Ev.of hw).bind h2))
    exact Ev.congr h3 (fun k => by unfold spec_Dec_Frac.f; rw [if_pos he])
  · obtain ⟨m, rfl⟩ : ∃ m : Nat, e = -(m : Int) := ⟨(-e).toNat, by omega⟩
    have hw : wrap64 (- -(m : Int)) = (m : Int) := by rw [w64 (by omega) (by omega)]; omega
    have h3 : Ev (fun k => (spec_Pow10.f k (m : Int)).bind fun t230 => some (b, lim n, t230)) (b, lim n, lim (10 ^ m)) := (pow10 m (by omega)).bind (Ev.pure _)
    rw [show (-(m : Int)).toNat = 0 by omega, Nat.pow_zero, Nat.mul_one, show (- -(m : Int)).toNat = m by omega]
    exact Ev.congr h3 (fun k => by unfold spec_Dec_Frac.f; rw [if_neg he, hw])
theorem wholeIn_is (b : Bool) (n : Nat) (hb : b = true → n ≠ 0) (hn : ndig n ≤ 390) : Ev (fun k => spec_WholeIn.f k (text b n)) (b, lim n) :=
  (parse_text b n hb hn).bind (Ev.pos (by simp) (Ev.pure _))
theorem decIn_is (b : Bool) (n : Nat) (e : Int) (hb : b = true → n ≠ 0) (hn : ndig n ≤ 390) : Ev (fun k => spec_DecIn.f k (text b n) e) (b, lim n, e) :=
  (wholeIn_is b n hb hn).bind (Ev.pure _)
theorem fracOf_is (b : Bool) (n : Nat) (e : Int) (hb : b = true → n ≠ 0) (hn : ndig n ≤ 390) (h0 : -400 ≤ e) (h1 : e ≤ 400) : Ev (fun k => spec_FracOf.f k (text b n) e) (b, lim (n * 10 ^ e.toNat), lim (10 ^ (-e).toNat)) :=
  (decIn_is b n e hb hn).bind ((frac_is b n e hb hn h0 h1).bind (Ev.pure _))
theorem wholeMul_is (b1 b2 : Bool) (n m : Nat) (h : (lim n).length + (lim m).length ≤ 70368744177664) : Ev (fun k => spec_Whole_Mul.f k b1 (lim n) b2 (lim m)) (sg (b1 != b2) (n * m), lim (n * m)) :=
  (natMul n m h).bind ((Ev.of (wholeOf (b1 != b2) (n * m))).bind (Ev.pure _))
theorem fracMul_is (b1 b2 : Bool) (n1 d1 n2 d2 : Nat) (h : (lim n1).length + (lim n2).length ≤ 70368744177664) (h' : (lim d1).length + (lim d2).length ≤ 70368744177664) : Ev (fun k => spec_Frac_Mul.f k b1 (lim n1) (lim d1) b2 (lim n2) (lim d2)) (sg (b1 != b2) (n1 * n2), lim (n1 * n2), lim (d1 * d2)) :=
  (wholeMul_is b1 b2 n1 n2 h).bind ((natMul d1 d2 h').bind (Ev.pure _))
/-- A decimal in proper form says the fraction that it is. -/
theorem says_is (b : Bool) (n : Nat) (e : Int) (hb : b = true → n ≠ 0) (hn : ndig n ≤ 390) (h0 : -400 ≤ e) (h1 : e ≤ 400) (b3 : Bool) (N3 D3 : Nat) (hb3 : b3 = true → N3 ≠ 0) (hD3 : D3 ≠ 0) (hN3 : (lim N3).length ≤ 400) (hD3l : (lim D3).length ≤ 400) (hbb : n ≠ 0 → b = b3) (hv : n * 10 ^ e.toNat * D3 = N3 * 10 ^ (-e).toNat) :
    Ev (fun k => spec_Says.f k (text b n) e b3 (lim N3) (lim D3)) true := by
  have h45 := len400 (n := n) (by omega)
  have hl1 : (lim (n * 10 ^ e.toNat)).length ≤ 90 := len_prod h45 (len_pow10 _ (by omega))
  have hl2 : (lim (10 ^ (-e).toNat)).length ≤ 45 := len_pow10 _ (by omega)
  have hs : Ev (fun k => spec_Sound.f k (text b n) e) true := by
    have h : Ev (fun k => spec_Sound.f k (text b n) e) (decide (e < 3000)) := (parse_text b n hb hn).bind (Ev.pos (by simp) ((wholeStr b n (by omega)).bind (Ev.pos rfl (Ev.pos (by omega) (Ev.pure _)))))
    rw [decide_eq_true (by omega : e < 3000)] at h
    exact h
  have hm1 := wholeMul_is b false (n * 10 ^ e.toNat) D3 (by omega)
  have hm2 := wholeMul_is b3 false N3 (10 ^ (-e).toNat) (by omega)
  rw [← hv] at hm2
  have hsg : sg (b3 != false) (n * 10 ^ e.toNat * D3) = sg (b != false) (n * 10 ^ e.toNat * D3) := by
    by_cases h : n = 0
    · subst h
      rw [Nat.zero_mul, Nat.zero_mul, sg_zero, sg_zero]
    · rw [hbb h]
  rw [hsg] at hm2
  have hc : Ev (fun k => spec_Frac_Cmp.f k b (lim (n * 10 ^ e.toNat)) (lim (10 ^ (-e).toNat)) b3 (lim N3) (lim D3)) 0 := hm1.bind (hm2.bind ((wholeCmp_self _ _ (Nat.le_trans (len_prod hl1 hD3l) (by omega))).bind (Ev.pure _)))
  exact hs.bind (Ev.pos (by simp) ((decIn_is b n e hb hn).bind ((frac_is b n e hb hn h0 h1).bind (hc.bind (Ev.pure _)))))
end Go.Proofs.YtghabdpbacgicaaGreatDoor.Lm
