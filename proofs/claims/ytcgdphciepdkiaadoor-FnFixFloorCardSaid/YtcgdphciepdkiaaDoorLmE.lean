/-
  WHAT THE REFERENCE's NUMBERS ANSWER, further: NatDiv.
-/
import Derived.Test.YtcgdphciepdkiaaDoorLmD
namespace Go.Proofs.YtcgdphciepdkiaaDoor.Lm
open Go.RowKit Go.Proofs.YtcgdphciepdkiaaDoorW.PrintWords Go.Proofs.YtcgdphciepdkiaaDoor.S
set_option linter.unusedVariables false

theorem div_l1 (R Y : Nat) (hY : 0 < Y) (hl : (lim R).length < 35184372088831) (hlY : (lim Y).length < 35184372088831) (x4 x8 x9 : List Int) (j : Nat) (hj : j < x4.length) (hj2 : j < 9223372036854775807) (res : List Int × List Int)
    (cont : Ev (fun k => spec_NatDiv.l0 k (x4.set j ((R / Y : Nat) : Int)) (lim (R % Y)) x8 x9 (lim Y) ((j : Int) - 1)) res) (e : Nat) : ∀ g : Nat, g = R / Y + e → g < 1000000000 →
    Ev (fun k => spec_NatDiv.l1 k x4 (lim R) x8 x9 (lim Y) (j : Int) (g : Int) (lim (Y * g))) res := by
  have hRY := Nat.div_add_mod R Y
  have hmlt := Nat.mod_lt R hY
  generalize R / Y = q at *
  induction e with
  | zero =>
    intro g hg hgB
    refine Ev.step ?_
    simp only [spec_NatDiv.l1]
    have hle : Y * g ≤ R := by rw [hg, Nat.add_zero]; omega
    have hlp := len_mono hle
    refine Ev.bind (natCmp (Y * g) R (by omega)) ?_
    refine Ev.neg (fun h => by have := cmp_gt.1 h; omega) ?_
    refine Ev.bind (natSub R (Y * g) hle (by omega)) ?_
    refine Ev.pos (by omega) (Ev.pos (by omega) ?_)
    have e1 : R - Y * g = R % Y := by rw [hg, Nat.add_zero]; omega
    have e2 : ((g : Int)) % 4294967296 = (q : Int) := by omega
    rw [e1, e2, Int.toNat_natCast, w64n' j hj2]
    exact cont
  | succ e ih =>
    intro g hg hgB
    refine Ev.step ?_
    simp only [spec_NatDiv.l1]
    have hlp := len_mul Y g
    have hg1 := len_one hgB
    refine Ev.bind (natCmp (Y * g) R (by omega)) ?_
    have hgt : R < Y * g := by
      have h1 : Y * (q + 1) ≤ Y * g := Nat.mul_le_mul_left _ (by omega)
      rw [Nat.mul_add, Nat.mul_one] at h1
      omega
    refine Ev.pos (cmp_gt.2 hgt) ?_
    have hYg : Y ≤ Y * g := Nat.le_mul_of_pos_right _ (by omega)
    refine Ev.bind (natSub (Y * g) Y hYg (by omega)) ?_
    have e1 : Y * g - Y = Y * (g - 1) := by rw [Nat.mul_sub, Nat.mul_one]
    have e2 : IntKind.u64.wrap ((g : Int) - 1) = ((g - 1 : Nat) : Int) := by rw [wu64 (by omega) (by omega)]; omega
    rw [e1, e2]
    exact ih (g - 1) (by omega) (by omega)
theorem div_l0 (X Y by' : Nat) (hY : 0 < Y) (hb : 0 < by') (hb2 : by' < 1000000000) (N : Nat) (hN : N = (lim X).length) (hN2 : N < 1000000000) (hlY : (lim Y).length < 1000000000) (i : Nat) : ∀ (q : List Int), i ≤ N → q.length = N → Ok q →
    val q = 1000000000 ^ i * (X / 1000000000 ^ i / Y) → (∀ p, p < i → q.getD p 0 = 0) →
    Ev (fun k => spec_NatDiv.l0 k q (lim (X / 1000000000 ^ i % Y)) (lim by') (lim X) (lim Y) ((i : Int) - 1)) (lim (X / Y), lim (X % Y / by')) := by
  induction i with
  | zero =>
    intro q hi hlen hok hv hz
    refine Ev.step ?_
    simp only [spec_NatDiv.l0]
    refine Ev.neg (by omega) ?_
    rw [Nat.pow_zero, Nat.div_one, Nat.one_mul] at *
    have hl1 : 0 < (lim by').length := by
      rcases Nat.eq_zero_or_pos (lim by').length with h | h
      · have := lim_eq_nil.1 (List.length_eq_zero_iff.1 h); omega
      · exact h
    refine Ev.pos (by omega) ?_
    have e0 : rd (lim by') 0 = (by' : Int) := by
      have := rd_lim by' 0
      rw [Nat.pow_zero, Nat.div_one, Nat.mod_eq_of_lt hb2] at this
      exact this
    rw [e0]
    have hml := len_mono (Nat.le_of_lt (Nat.mod_lt X hY))
    refine Ev.bind (natShort (X % Y) by' hb (by omega) (by omega)) ?_
    have ht := natTrim q hok (by omega)
    rw [hv] at ht
    refine Ev.bind ht (Ev.pure _)
  | succ j ih =>
    intro q hi hlen hok hv hz
    refine Ev.step ?_
    simp only [spec_NatDiv.l0]
    rw [show ((j + 1 : Nat) : Int) - 1 = (j : Int) by omega, rd_lim]
    have hstep := div_step X j
    have hd : X / 1000000000 ^ j % 1000000000 < 1000000000 := Nat.mod_lt _ (by omega)
    obtain ⟨r, hr⟩ : ∃ r, r = X / 1000000000 ^ (j + 1) % Y := ⟨_, rfl⟩
    rw [← hr]
    have hrY : r < Y := by rw [hr]; exact Nat.mod_lt _ hY
    have hrl := len_mono (Nat.le_of_lt hrY)
    refine Ev.pos (by omega) (Ev.pos (by omega) (Ev.pos (by omega) ?_))
    refine Ev.bind (Ev.of rfl) ?_
    have hlen2 : ([((X / 1000000000 ^ j % 1000000000 : Nat) : Int)] ++ lim r).length = 1 + (lim r).length := by rw [List.length_append, List.length_singleton]
    refine Ev.pos (by rw [List.length_singleton]; omega) ?_
    have ht := natTrim ([((X / 1000000000 ^ j % 1000000000 : Nat) : Int)] ++ lim r) (ok_append (ok_one (by omega) (by omega)) (ok_lim r)) (by rw [hlen2]; omega)
    have hval : val ([((X / 1000000000 ^ j % 1000000000 : Nat) : Int)] ++ lim r) = X / 1000000000 ^ j % 1000000000 + 1000000000 * r := by
      rw [List.singleton_append, val, val_lim, Int.toNat_natCast]
    rw [hval] at ht
    refine Ev.bind ht ?_
    obtain ⟨R, hR⟩ : ∃ R, R = X / 1000000000 ^ j % 1000000000 + 1000000000 * r := ⟨_, rfl⟩
    rw [← hR]
    have hRB : R < Y * 1000000000 := by
      have := Nat.mul_le_mul_right 1000000000 (show r + 1 ≤ Y by omega)
      omega
    obtain ⟨g, hg, hg1, hg2⟩ := natGuess R Y hY hRB (by omega)
    refine Ev.bind (Ev.of hg) ?_
    refine Ev.bind (natFrom g (by omega)) ?_
    have hgl := len_one hg2
    refine Ev.bind (natMul Y g (by omega)) ?_
    have hRl : (lim R).length ≤ (lim Y).length + 1 := by
      have h1 := len_mono (Nat.le_of_lt hRB)
      have h2 := len_mul Y 1000000000
      have h3 : (lim 1000000000).length ≤ 2 := len_le (by omega)
      have h4 : R < 1000000000 ^ ((lim Y).length + 1) := by
        rw [Nat.pow_succ]
        refine Nat.lt_of_lt_of_le hRB (Nat.mul_le_mul_right _ (Nat.le_of_lt (lt_of_len (Nat.le_refl _))))
      exact len_le h4
    have hq : R / Y < 1000000000 := (Nat.div_lt_iff_lt_mul hY).2 (by rw [Nat.mul_comm]; exact hRB)
    -- the arithmetic of a step
    obtain ⟨A, hA⟩ : ∃ A, A = X / 1000000000 ^ j := ⟨_, rfl⟩
    obtain ⟨H, hH⟩ : ∃ H, H = X / 1000000000 ^ (j + 1) := ⟨_, rfl⟩
    rw [← hA] at hstep hR hd
    rw [← hH] at hstep hr
    have hHd := Nat.div_add_mod H Y
    have eA : A = R + Y * (1000000000 * (H / Y)) := by
      have e6 : Y * (1000000000 * (H / Y)) = 1000000000 * (Y * (H / Y)) := Nat.mul_left_comm _ _ _
      rw [e6]; omega
    have hqA : A / Y = 1000000000 * (H / Y) + R / Y ∧ A % Y = R % Y := by
      constructor
      · conv => lhs; rw [eA]
        rw [Nat.add_mul_div_left _ _ hY]; omega
      · conv => lhs; rw [eA]
        rw [Nat.add_mul_mod_self_left]
    refine div_l1 R Y hY (by omega) (by omega) q _ _ j (by omega) (by omega) _ ?_ (g - R / Y) g (by omega) hg2
    rw [← hqA.2]
    have ih' := ih (q.set j ((R / Y : Nat) : Int)) (by omega) (by rw [List.length_set]; exact hlen) (ok_set hok _ (Int.natCast_nonneg _) (Int.ofNat_lt.2 hq)) ?_ (fun p hp => ?_)
    · rw [← hA] at ih'
      exact ih'
    · have hs := val_set (l := q) (i := j) (by omega) hok ((R / Y : Nat) : Int)
      rw [hz j (by omega), Int.toNat_zero, Int.toNat_natCast, Nat.mul_zero, Nat.add_zero] at hs
      rw [← hH] at hv
      rw [hs, hv, ← hA, hqA.1, Nat.mul_add, Nat.pow_succ, Nat.mul_assoc]
    · rw [List.getD_eq_getElem?_getD, List.getElem?_set, if_neg (by omega), ← List.getD_eq_getElem?_getD]
      exact hz p (by omega)
theorem natDiv (a b : Nat) (hb : 0 < b) (hl : (lim a).length + (lim b).length < 100000000) : Ev (fun k => spec_NatDiv.f k (lim a) (lim b)) (lim (a / b), lim (a % b)) := by
  unfold spec_NatDiv.f
  refine Ev.bind (natCmp a b (by omega)) ?_
  by_cases h1 : a < b
  · refine Ev.pos (cmp_lt.2 h1) (Ev.bind (Ev.of rfl) (Ev.pos (by rw [List.length_nil]; omega) ?_))
    rw [Nat.div_eq_of_lt h1, Nat.mod_eq_of_lt h1, lim_zero, List.nil_append]
    exact Ev.pure _
  refine Ev.neg (fun h => h1 (cmp_lt.1 h)) ?_
  have hlb : 0 < (lim b).length := by
    rcases Nat.eq_zero_or_pos (lim b).length with h | h
    · have := lim_eq_nil.1 (List.length_eq_zero_iff.1 h); omega
    · exact h
  by_cases h2 : (lim b).length = 1
  · refine Ev.pos (by omega) (Ev.pos (by omega) ?_)
    have hb9 : b < 1000000000 ^ 1 := lt_of_len (by omega)
    have e0 : rd (lim b) 0 = (b : Int) := by
      have := rd_lim b 0
      rw [Nat.pow_zero, Nat.div_one, Nat.mod_eq_of_lt (by omega)] at this
      exact this
    rw [e0]
    refine Ev.bind (natShort a b hb (by omega) (by omega)) ?_
    have hm := Nat.mod_lt a hb
    have e1 : IntKind.u64.wrap ((a % b : Nat) : Int) = ((a % b : Nat) : Int) := by
      generalize a % b = m at *
      exact wu64 (by omega) (by omega)
    simp only [e1]
    exact Ev.bind (natFrom (a % b) (by omega)) (Ev.pure _)
  refine Ev.neg (by omega) ?_
  obtain ⟨n, hn⟩ : ∃ n, (lim b).length = n + 1 := ⟨(lim b).length - 1, by omega⟩
  rw [hn, w64p n (by omega), rd_lim]
  have hp : 0 < 1000000000 ^ n := Nat.pow_pos (by omega)
  have hblt : b < 1000000000 ^ (n + 1) := lt_of_len (by omega)
  have hbn := (len_lim b n).1 (by omega)
  have htlt : b / 1000000000 ^ n < 1000000000 := (Nat.div_lt_iff_lt_mul hp).2 (by rw [Nat.pow_succ, Nat.mul_comm] at hblt; exact hblt)
  rw [Nat.mod_eq_of_lt htlt]
  generalize b / 1000000000 ^ n = t at *
  have ew : IntKind.u64.wrap ((IntKind.u64.wrap (t : Int)) + 1) = ((t + 1 : Nat) : Int) := by
    rw [wu64 (i := (t : Int)) (by omega) (by omega), wu64 (by omega) (by omega)]; omega
  rw [ew]
  refine Ev.pos (by omega) (Ev.pos (by omega) (Ev.neg (by omega) ?_))
  obtain ⟨d, hd⟩ : ∃ d, d = 1000000000 / (t + 1) := ⟨_, rfl⟩
  have hd0 : 0 < d := by rw [hd]; exact Nat.div_pos (by omega) (by omega)
  have hd1 : d ≤ 500000000 := by
    rw [hd]
    refine Nat.le_trans (Nat.div_le_div_left (show 2 ≤ t + 1 by omega) (by omega)) (by omega)
  have ed : [(IntKind.u64.wrap (Int.tdiv 1000000000 ((t + 1 : Nat) : Int))) % 4294967296] = lim d := by
    have h3 : Int.tdiv 1000000000 ((t + 1 : Nat) : Int) = (d : Int) := by
      rw [hd, Int.tdiv_eq_ediv_of_nonneg (by omega), Int.natCast_ediv]; rfl
    rw [h3, wu64 (by omega) (by omega), lim_pos (by omega), show d / 1000000000 = 0 by omega, lim_zero]
    congr 1
    omega
  rw [ed]
  refine Ev.bind (Ev.of rfl) ?_
  have hdl := len_one (show d < 1000000000 by omega)
  refine Ev.bind (natMul a d (by omega)) (Ev.bind (natMul b d (by omega)) ?_)
  have hal := len_mul a d
  have hbl := len_mul b d
  refine Ev.pos (by omega) (Ev.pos (by omega) ?_)
  rw [Int.toNat_natCast]
  have hY : 0 < b * d := Nat.mul_pos hb hd0
  have hw : wrap64 (((lim (a * d)).length : Int) - 1) = ((lim (a * d)).length : Int) - 1 := w64n' _ (by omega)
  rw [hw]
  have h0 : a * d / 1000000000 ^ (lim (a * d)).length = 0 := Nat.div_eq_of_lt (lt_of_len (Nat.le_refl _))
  have hmain := div_l0 (a * d) (b * d) d hY hd0 (by omega) _ rfl (by omega) (by omega) (lim (a * d)).length (List.replicate (lim (a * d)).length 0) (Nat.le_refl _) (by rw [List.length_replicate]) (ok_zeros _)
    (by rw [h0, Nat.zero_div, Nat.mul_zero, val_zeros]) (fun p hp => by rw [List.getD_eq_getElem?_getD, List.getElem?_replicate]; split <;> rfl)
  rw [h0, Nat.zero_mod, lim_zero, Nat.mul_div_mul_right _ _ hd0, Nat.mul_mod_mul_right, Nat.mul_div_cancel _ hd0] at hmain
  exact hmain
end Go.Proofs.YtcgdphciepdkiaaDoor.Lm
