/-
  THE THIN PACKAGE's digits: of a number's words, its text.
-/
import Derived.Test.YtghabdpbacgicaaGreatDoorLmWh
import Derived.Test.YtghabdpbacgicaaGreatDoorGDi
namespace Go.Proofs.YtghabdpbacgicaaGreatDoor.Lm
open Go.RowKit Go.Proofs.YtghabdpbacgicaaGreatDoorW.PrintWords Go.Proofs.YtghabdpbacgicaaGreatDoorW.PrintMore Go.Proofs.YtghabdpbacgicaaGreatDoor.S
set_option linter.unusedVariables false

theorem di_rev (x : List Int) (hL : x.length < 9223372036854775807) (d : Nat) : ∀ (t : Nat) (y : List Int), d = x.length - 2 * t → 2 * t ≤ x.length + 1 → y.length = x.length →
    (∀ p, p < x.length → y.getD p 0 = if p < t ∨ x.length - t ≤ p then x.getD (x.length - 1 - p) 0 else x.getD p 0) →
    Ev (fun k => impl_digits.l5 k y (t : Int) ((x.length : Int) - 1 - (t : Int))) (strOfNums x.reverse) := by
  induction d using Nat.strongRecOn with
  | _ d ih =>
    intro t y hd ht hy hp
    refine Ev.step ?_
    simp only [impl_digits.l5]
    by_cases h : 2 * t + 1 < x.length
    · obtain ⟨j, hj⟩ : ∃ j : Nat, (x.length : Int) - 1 - (t : Int) = (j : Int) := ⟨x.length - 1 - t, by omega⟩
      have hj' : j = x.length - 1 - t := by omega
      rw [hj]
      refine Ev.pos (by omega) (Ev.pos (by omega) (Ev.pos (by omega) (Ev.pos (by omega) (Ev.pos (by omega) ?_))))
      have e1 : wrap64 ((t : Int) + 1) = ((t + 1 : Nat) : Int) := by rw [w64 (by omega) (by omega)]; omega
      have e2 : wrap64 ((j : Int) - 1) = (x.length : Int) - 1 - ((t + 1 : Nat) : Int) := by rw [w64 (by omega) (by omega)]; omega
      rw [e1, e2, Int.toNat_natCast, Int.toNat_natCast]
      refine ih (x.length - 2 * (t + 1)) (by omega) (t + 1) _ rfl (by omega) (by simp [hy]) (fun p hpl => ?_)
      have r1 : rd y (j : Int) = x.getD j 0 := by
        unfold rd; rw [Int.toNat_natCast, hp j (by omega), if_neg (by omega)]
      have r2 : rd y (t : Int) = x.getD t 0 := by
        unfold rd; rw [Int.toNat_natCast, hp t (by omega), if_neg (by omega)]
      rw [r1, r2]
      have hpp := hp p hpl
      rw [List.getD_eq_getElem?_getD, List.getElem?_set, List.getElem?_set]
      by_cases c1 : j = p
      · subst c1
        rw [if_pos rfl, if_pos (by rw [List.length_set]; omega), if_pos (by omega)]
        rw [show x.length - 1 - j = t by omega]; rfl
      · rw [if_neg c1]
        by_cases c2 : t = p
        · subst c2
          rw [if_pos rfl, if_pos (by omega), if_pos (by omega), show x.length - 1 - t = j by omega]; rfl
        · rw [if_neg c2, ← List.getD_eq_getElem?_getD, hpp]
          by_cases c3 : p < t ∨ x.length - t ≤ p
          · rw [if_pos c3, if_pos (by omega)]
          · rw [if_neg c3, if_neg (by omega)]
    · refine Ev.neg (by omega) ?_
      have : y = x.reverse := by
        apply List.ext_getElem (by simp [hy])
        intro p h1 h2
        have h3 := hp p (by omega)
        rw [List.getD_eq_getElem?_getD, List.getElem?_eq_getElem h1] at h3
        rw [List.getElem_reverse]
        have h4 : y[p] = x.getD (x.length - 1 - p) 0 := by
          show (some y[p]).getD 0 = _
          rw [h3]
          by_cases c3 : p < t ∨ x.length - t ≤ p
          · rw [if_pos c3]
          · rw [if_neg c3, show x.length - 1 - p = p by omega]
        rw [h4, List.getD_eq_getElem?_getD, List.getElem?_eq_getElem (by omega)]; rfl
      rw [this]
      exact Ev.pure _
theorem di_j6 (x : List Int) (h0 : 0 < x.length) (hL : x.length < 9223372036854775807) : Ev (fun k => impl_digits.j6 k x) (strOfNums x.reverse) := by
  refine Ev.step ?_
  simp only [impl_digits.j6]
  rw [w64 (by omega) (by omega)]
  have := di_rev x hL _ 0 x rfl (by omega) rfl (fun p hp => by rw [if_neg (by omega)])
  simpa using this
theorem str_app (a b : List Int) : strOfNums (a ++ b) = strOfNums a ++ strOfNums b := by
  apply bytes_eq
  rw [ByteArray.toList_eq, ByteArray.toList_eq, ByteArray.data_append]
  unfold strOfNums
  simp
/-- Where no word is left. -/
theorem di_end (l0 : List Int) (b : Bool) (n : Nat) (hb : b = true → n ≠ 0) (hl : b = decide (0 < l0.length)) (hn : ndig n ≤ 10000) : Ev (fun k => impl_digits.l1 k l0 [] (revDig n)) (text b n) := by
  have hn' : (revDig n).length ≤ 10000 := hn
  refine Ev.step ?_
  simp only [impl_digits.l1]
  refine Ev.neg (by simp) ?_
  by_cases h0 : n = 0
  · subst h0
    rw [revDig_zero]
    have : b = false := by cases b with
      | true => exact absurd rfl (hb rfl)
      | false => rfl
    subst this
    exact Ev.pos rfl (Ev.pure _)
  · have hp : 0 < (revDig n).length := by rw [revDig_pos h0]; simp
    refine Ev.neg (by omega) ?_
    have hd : decimal n = strOfNums (revDig n).reverse := by unfold decimal; rw [if_neg h0]
    cases b with
    | true =>
      have h1 : 0 < l0.length := by simpa using hl
      have h := di_j6 (revDig n ++ [45]) (by rw [List.length_append]; omega) (by rw [List.length_append]; simp; omega)
      rw [List.reverse_append, str_app] at h
      have ht : text true n = (⟨#[45]⟩ : ByteArray) ++ decimal n := if_pos rfl
      rw [ht, hd]
      exact Ev.pos h1 (Ev.pos (by omega) h)
    | false =>
      have h1 : ¬ 0 < l0.length := by simpa using hl
      have ht : text false n = decimal n := if_neg (by simp)
      rw [ht, hd]
      exact Ev.neg h1 (di_j6 (revDig n) hp (by omega))
theorem digit_u (x : Nat) (hx : x < 1000000000) : (IntKind.u64.wrap (48 + (Int.tmod (x : Int) 10))) % 256 = ((48 + x % 10 : Nat) : Int) := by
  rw [Int.tmod_eq_emod_of_nonneg (by omega), wu64 (by omega) (by omega)]
  omega
theorem digit_d (x : Nat) (hx : x < 1000000000) : IntKind.u64.wrap (Int.tdiv (x : Int) 10) = ((x / 10 : Nat) : Int) := by
  rw [Int.tdiv_eq_ediv_of_nonneg (by omega), wu64 (by omega) (by omega)]
  omega
/-- Nine digits, or as many as there are. -/
theorem di_l4 (l0 : List Int) (s : ByteArray) (n i : Nat) (hn : ndig n ≤ 10000) (a : List Int) (ha : a = L32.lim (n / 1000000000 ^ (i + 1)))
    (K : Ev (fun k => impl_digits.l1 k l0 a ((revDig n).take (9 * (i + 1)))) s) (d : Nat) :
    ∀ q x, q + d = 9 → x = n / 1000000000 ^ i % 1000000000 / 10 ^ q → Ev (fun k => impl_digits.l4 k l0 a ((revDig n).take (9 * i + q)) (x : Int) (q : Int)) s := by
  have hn' : (revDig n).length ≤ 10000 := hn
  have hz : (a.length : Int) > 0 ↔ n / 1000000000 ^ (i + 1) ≠ 0 := by
    have := L32.len_zero (n := n / 1000000000 ^ (i + 1))
    rw [← ha] at this
    omega
  induction d with
  | zero =>
    intro q x hq hx
    obtain rfl : q = 9 := hq
    refine Ev.step ?_
    simp only [impl_digits.l4]
    exact Ev.neg (by omega) K
  | succ d ih =>
    intro q x hq hx
    have e9 : (1000000000 : Nat) = 10 ^ q * 10 ^ (d + 1) := by rw [← Nat.pow_add, show q + (d + 1) = 9 by omega]
    have hd : n / 10 ^ (9 * i + q) = n / 1000000000 ^ i / 10 ^ q := by
      rw [Nat.pow_add, ← Nat.div_div_eq_div_mul, Nat.pow_mul]
    have hx10 : x % 10 = n / 10 ^ (9 * i + q) % 10 := by
      rw [hd, hx]
      rw [show n / 1000000000 ^ i % 1000000000 = n / 1000000000 ^ i % (10 ^ q * 10 ^ (d + 1)) by rw [← e9], Nat.mod_mul_right_div_self, Nat.pow_succ, Nat.mul_comm (10 ^ d), Nat.mod_mul_right_mod]
    have hxs : x < 1000000000 := by
      rw [hx]; exact Nat.lt_of_le_of_lt (Nat.div_le_self _ _) (Nat.mod_lt _ (by omega))
    have hol : ((revDig n).take (9 * i + q)).length < 140737488355328 := Nat.lt_of_le_of_lt (Nat.le_trans (List.length_take_le' _ _) hn') (by omega)
    have hz1 : n / 10 ^ (9 * i + q) ≠ 0 ↔ 9 * i + q < (revDig n).length := (revDig_len n (9 * i + q)).symm
    have go : n / 10 ^ (9 * i + q) ≠ 0 → Ev (fun k => impl_digits.l4 k l0 a ((revDig n).take (9 * i + q) ++ [(IntKind.u64.wrap (48 + (Int.tmod (x : Int) 10))) % 256]) (IntKind.u64.wrap (Int.tdiv (x : Int) 10)) (wrap64 ((q : Int) + 1))) s := by
      intro hne
      have hlt := hz1.1 hne
      have h := ih (q + 1) (x / 10) (by omega) (by rw [hx, Nat.div_div_eq_div_mul, Nat.pow_succ])
      have g := revDig_get n _ hlt
      rw [List.getD_eq_getElem?_getD, List.getElem?_eq_getElem hlt, Option.getD_some] at g
      rw [show 9 * i + (q + 1) = 9 * i + q + 1 by omega, List.take_succ_eq_append_getElem hlt, g, ← hx10] at h
      rw [digit_u x hxs, digit_d x hxs, w64s q (by omega)]
      exact h
    refine Ev.step ?_
    simp only [impl_digits.l4]
    refine Ev.pos (by omega) ?_
    by_cases hx0 : x = 0
    · refine Ev.pos (by omega) ?_
      by_cases ha0 : n / 1000000000 ^ (i + 1) = 0
      · refine Ev.neg (fun h => hz.1 h ha0) ?_
        have hall : (revDig n).length ≤ 9 * i + q := by
          rcases Nat.lt_or_ge (9 * i + q) (revDig n).length with h | h
          · have h5 := hz1.2 h
            rw [hd] at h5
            rw [pow_succ_div] at ha0
            have h6 : n / 1000000000 ^ i < 1000000000 := by
              rcases Nat.lt_or_ge (n / 1000000000 ^ i) 1000000000 with h7 | h7
              · exact h7
              · have := Nat.div_pos h7 (by omega); omega
            rw [Nat.mod_eq_of_lt h6] at hx
            omega
          · exact h
        rw [List.take_of_length_le hall, ← List.take_of_length_le (l := revDig n) (i := 9 * (i + 1)) (by omega)]
        exact K
      · refine Ev.pos (hz.2 ha0) (Ev.pos hol (go ?_))
        rw [hd]
        intro h0
        apply ha0
        rw [pow_succ_div, show n / 1000000000 ^ i / 1000000000 = n / 1000000000 ^ i / (10 ^ q * 10 ^ (d + 1)) by rw [← e9], ← Nat.div_div_eq_div_mul, h0, Nat.zero_div]
    · refine Ev.neg (by omega) (Ev.pos hol (go ?_))
      rw [hd]
      intro h0
      have h4 := Nat.div_le_div_right (c := 10 ^ q) (Nat.mod_le (n / 1000000000 ^ i) 1000000000)
      omega
/-- The words without the zeros at their end. -/
theorem di_l3 (l0 out : List Int) (x : Int) (s : ByteArray) (m : Nat) (K : Ev (fun k => impl_digits.j4 k l0 (L32.lim m) out x) s) (d : Nat) :
    ∀ a : List Int, a.length = d → d ≤ 100000 → L32.Ok a → L32.val a = m → Ev (fun k => impl_digits.l3 k l0 a out x) s := by
  induction d with
  | zero =>
    intro a ha hd hok hv
    obtain rfl : a = [] := List.length_eq_zero_iff.1 ha
    refine Ev.step ?_
    simp only [impl_digits.l3]
    have : m = 0 := hv.symm
    rw [this, L32.lim_zero] at K
    exact Ev.neg (by simp) K
  | succ d ih =>
    intro a ha hd hok hv
    refine Ev.step ?_
    simp only [impl_digits.l3]
    rw [ha, show wrap64 (((d + 1 : Nat) : Int) - 1) = (d : Int) by rw [w64 (by omega) (by omega)]; omega, rd_nat]
    refine Ev.pos (by omega) (Ev.pos (by omega) (Ev.pos (by omega) ?_))
    have hsp := L32.val_split a d
    have hdr : L32.val (a.drop d) = (a.getD d 0).toNat := by
      rw [L32.val_drop (by omega), L32.val_drop_nil (by omega)]; rfl
    rw [hdr] at hsp
    by_cases h0 : a.getD d 0 = 0
    · refine Ev.pos h0 (Ev.pos (by omega) ?_)
      rw [Int.toNat_natCast]
      rw [h0, Int.toNat_zero, Nat.mul_zero, Nat.add_zero] at hsp
      exact ih (a.take d) (by rw [List.length_take]; omega) (by omega) (fun y hy => hok y (List.mem_of_mem_take hy)) (by rw [← hsp]; exact hv)
    · refine Ev.neg h0 ?_
      have := L32.lim_val hok (fun y hy => by
        rw [List.getLast?_eq_getElem?, ha, Nat.add_sub_cancel] at hy
        rw [List.getD_eq_getElem?_getD, hy] at h0
        exact h0)
      rw [this, hv]
      exact K
theorem or_word (r w : Nat) (hr : r < 1000000000) (hw : w < 4294967296) : Go.bits .or .u64 (IntKind.u64.wrap ((r : Int) * 4294967296)) (w : Int) = ((w + 4294967296 * r : Nat) : Int) := by
  rw [u64_32 r (by omega)]
  exact or_w' w r hw (by omega)
theorem di_step (H w q r : Nat) (hH : 1000000000 * q + r = H) (hr : r < 1000000000) : (w + 4294967296 * H) / 1000000000 = (w + 4294967296 * r) / 1000000000 + 4294967296 * q ∧ (w + 4294967296 * H) % 1000000000 = (w + 4294967296 * r) % 1000000000 := by
  subst hH
  omega
theorem val_set0 (l : List Int) (v : Int) (j : Nat) : j < l.length → L32.val ((l.set j v).drop j) = v.toNat + 4294967296 * L32.val (l.drop (j + 1)) := by
  intro h
  rw [List.drop_eq_getElem_cons (by rw [List.length_set]; exact h), List.getElem_set_self, List.drop_set_of_lt (Nat.lt_succ_self j)]; rfl
/-- One round of division by a billion. -/
theorem di_l2 (l0 out : List Int) (s : ByteArray) (a : List Int) (hok : L32.Ok a) (hl : a.length ≤ 100000)
    (K : ∀ c : List Int, c.length = a.length → L32.Ok c → L32.val c = L32.val a / 1000000000 → Ev (fun k => impl_digits.l3 k l0 c out ((L32.val a % 1000000000 : Nat) : Int)) s) (d : Nat) :
    ∀ c : List Int, d ≤ a.length → c.length = a.length → L32.Ok c → c.take d = a.take d → L32.val (c.drop d) = L32.val (a.drop d) / 1000000000 →
      Ev (fun k => impl_digits.l2 k l0 c out ((L32.val (a.drop d) % 1000000000 : Nat) : Int) ((d : Int) - 1)) s := by
  induction d with
  | zero =>
    intro c hd hc hokc ht hv
    refine Ev.step ?_
    simp only [impl_digits.l2]
    rw [List.drop_zero, List.drop_zero] at hv
    have h := K c hc hokc hv
    rw [List.drop_zero]
    exact Ev.neg (by omega) h
  | succ d ih =>
    intro c hd hc hokc ht hv
    have hcd : c.getD d 0 = a.getD d 0 := by
      rw [List.getD_eq_getElem?_getD, List.getD_eq_getElem?_getD]
      have h1 : (c.take (d + 1))[d]? = c[d]? := List.getElem?_take_of_lt (Nat.lt_succ_self d)
      have h2 : (a.take (d + 1))[d]? = a[d]? := List.getElem?_take_of_lt (Nat.lt_succ_self d)
      rw [← h1, ← h2, ht]
    have hag := L32.ok_get hok d
    obtain ⟨w, hw⟩ : ∃ w : Nat, a.getD d 0 = (w : Int) := ⟨(a.getD d 0).toNat, by omega⟩
    have hwl : w < 4294967296 := by omega
    have hva := L32.val_drop (l := a) (i := d) (by omega)
    rw [hw, Int.toNat_natCast] at hva
    rw [hw] at hcd
    obtain ⟨H, hH⟩ : ∃ H, L32.val (a.drop (d + 1)) = H := ⟨_, rfl⟩
    rw [hH] at hva hv ⊢
    obtain ⟨hs1, hs2⟩ := di_step H w (H / 1000000000) (H % 1000000000) (Nat.div_add_mod H 1000000000) (Nat.mod_lt _ (by omega))
    have hr : H % 1000000000 < 1000000000 := Nat.mod_lt _ (by omega)
    refine Ev.step ?_
    simp only [impl_digits.l2]
    rw [show (((d + 1 : Nat) : Int) - 1) = (d : Int) by omega, rd_nat, hcd, or_word _ w hr hwl]
    have hq : (w + 4294967296 * (H % 1000000000)) / 1000000000 < 4294967296 := by clear ih K hs1 hs2 hva hv; omega
    rw [show IntKind.u64.wrap (Int.tdiv ((w + 4294967296 * (H % 1000000000) : Nat) : Int) 1000000000) = (((w + 4294967296 * (H % 1000000000)) / 1000000000 : Nat) : Int) by
        generalize w + 4294967296 * (H % 1000000000) = y at hq ⊢
        rw [Int.tdiv_eq_ediv_of_nonneg (by omega), wu64 (by omega) (by omega)]; omega,
      show Int.tmod ((w + 4294967296 * (H % 1000000000) : Nat) : Int) 1000000000 = (((w + 4294967296 * (H % 1000000000)) % 1000000000 : Nat) : Int) by
        generalize w + 4294967296 * (H % 1000000000) = y at hq ⊢
        rw [Int.tmod_eq_emod_of_nonneg (by omega)]; omega, ← hs2, ← hva, w64 (by omega) (by omega), Int.toNat_natCast]
    refine Ev.pos (by omega) (Ev.pos (by omega) (Ev.pos (by omega) (ih _ (by omega) (by rw [List.length_set]; exact hc) (L32.ok_set hokc d (by omega) (by omega)) ?_ ?_)))
    · rw [List.take_set_of_le (Nat.le_refl d)]
      have h1 := congrArg (List.take d) ht
      rw [List.take_take, List.take_take, Nat.min_eq_left (Nat.le_succ d)] at h1
      exact h1
    · rw [val_set0 _ _ _ (by omega), hv, Int.toNat_natCast, hva, hs1]
/-- All rounds. -/
theorem di_l1 (l0 : List Int) (b : Bool) (n : Nat) (hb : b = true → n ≠ 0) (hl : b = decide (0 < l0.length)) (hn : ndig n ≤ 10000) (m : Nat) : ∀ (i : Nat) (a : List Int), m = n / 1000000000 ^ i → L32.Ok a → L32.val a = m → a.length ≤ 100000 → (0 < a.length → m ≠ 0) →
    Ev (fun k => impl_digits.l1 k l0 a ((revDig n).take (9 * i))) (text b n) := by
  induction m using Nat.strongRecOn with
  | _ m ih =>
    intro i a hm hok hv ha h0
    by_cases hz : 0 < a.length
    · have hm0 := h0 hz
      have hlt : m / 1000000000 < m := Nat.div_lt_self (by omega) (by omega)
      have K := ih (m / 1000000000) hlt (i + 1) (L32.lim (m / 1000000000)) (by rw [hm, pow_succ_div]) (L32.ok_lim _) (L32.val_lim _)
      refine Ev.step ?_
      simp only [impl_digits.l1]
      refine Ev.pos (by omega) ?_
      rw [w64 (by omega) (by omega)]
      have hlen : (L32.lim (m / 1000000000)).length ≤ 100000 := by
        refine Nat.le_trans (L32.len_le (m := a.length) ?_) ha
        have := L32.val_lt hok
        rw [hv] at this
        omega
      have hK := K hlen (fun h => by
        have := L32.len_zero (n := m / 1000000000)
        omega)
      have h := di_l2 l0 ((revDig n).take (9 * i)) (text b n) a hok ha (fun c hc hokc hvc => by
        refine di_l3 l0 _ _ _ (m / 1000000000) ?_ c.length c rfl (by omega) hokc (by rw [hvc, hv])
        refine Ev.step ?_
        simp only [impl_digits.j4]
        have h4 := di_l4 l0 (text b n) n i hn (L32.lim (m / 1000000000)) (by rw [hm, pow_succ_div]) hK 9 0 (m % 1000000000) (Nat.zero_add _) (by rw [hm, Nat.pow_zero, Nat.div_one])
        rw [hv]
        exact h4) a.length a (Nat.le_refl _) rfl hok rfl (by rw [List.drop_length]; rfl)
      rw [List.drop_length, show ((L32.val [] % 1000000000 : Nat) : Int) = 0 from rfl] at h
      exact h
    · have ha0 : a = [] := List.length_eq_zero_iff.1 (by omega)
      subst ha0
      have hm1 : m = 0 := hv.symm
      have hall : (revDig n).length ≤ 9 * i := by
        rcases Nat.lt_or_ge (9 * i) (revDig n).length with h | h
        · have := (revDig_len n (9 * i)).1 h
          rw [Nat.pow_mul] at this
          exact absurd (hm.symm.trans hm1) this
        · exact h
      rw [List.take_of_length_le hall]
      exact di_end l0 b n hb hl hn
theorem halves (t : Nat) : t % 4294967296 + 4294967296 * (t / 4294967296) = t := Nat.mod_add_div t 4294967296
/-- The thin package's digits. -/
theorem digits_some (l0 : List Int) (b : Bool) (n : Nat) (hb : b = true → n ≠ 0) (hl : b = decide (0 < l0.length)) (hn : ndig n ≤ 10000) (hL : (L64.lim n).length ≤ 1000) : Ev (fun k => impl_digits.f k l0 (L64.lim n)) (text b n) := by
  obtain ⟨L, hLL⟩ : ∃ L, (L64.lim n).length = L := ⟨_, rfl⟩
  have loop : ∀ d i (a : List Int), i + d = L → L32.Ok a → a.length = 2 * i → L32.val a = n % 18446744073709551616 ^ i → Ev (fun k => impl_digits.l0 k l0 a (L64.lim n) (L : Int) (i : Int)) (text b n) := by
    intro d
    induction d with
    | zero =>
      intro i a hi hok ha hv
      obtain rfl : i = L := hi
      refine Ev.step ?_
      simp only [impl_digits.l0]
      have hlt : n < 18446744073709551616 ^ i := L64.lt_of_len (by omega)
      rw [Nat.mod_eq_of_lt hlt] at hv
      have h := di_l1 l0 b n hb hl hn n 0 a (by rw [Nat.pow_zero, Nat.div_one]) hok hv (by omega) (fun h h0 => by
        have := L64.len_zero (n := n)
        omega)
      exact Ev.neg (by omega) h
    | succ d ih =>
      intro i a hi hok ha hv
      have ht : n / 18446744073709551616 ^ i % 18446744073709551616 < 18446744073709551616 := Nat.mod_lt _ (by omega)
      have hps := Nat.mod_pow_succ (b := 18446744073709551616) (k := i) (x := n)
      refine Ev.step ?_
      simp only [impl_digits.l0]
      rw [L64.rd_lim]
      generalize n / 18446744073709551616 ^ i % 18446744073709551616 = t at ht hps ⊢
      have h := ih (i + 1) (a ++ [((t % 4294967296 : Nat) : Int), ((t / 4294967296 : Nat) : Int)]) (by omega)
        (L32.ok_append hok (fun x hx => by
          rcases List.mem_cons.1 hx with rfl | hx
          · omega
          · rcases List.mem_cons.1 hx with rfl | hx
            · omega
            · cases hx)) (by rw [List.length_append]; simp; omega)
        (by
          rw [L32.val_append, hv, ha, hps, Nat.pow_mul]
          show _ + _ * ((t % 4294967296 : Nat) + 4294967296 * ((t / 4294967296 : Nat) + 4294967296 * 0)) = _
          rw [Nat.mul_zero, Nat.add_zero, halves])
      rw [and32 t ht, show (t : Int) / 4294967296 = ((t / 4294967296 : Nat) : Int) by omega, w64s i (by omega)]
      exact Ev.pos (by omega) (Ev.pos (by omega) (Ev.pos (by omega) (Ev.pos (by simp; omega) h)))
  have h := loop L 0 [] (Nat.zero_add _) L32.ok_nil rfl (by rw [Nat.pow_zero, Nat.mod_one]; rfl)
  exact Ev.congr h (fun k => by unfold impl_digits.f; rw [hLL]; rfl)
end Go.Proofs.YtghabdpbacgicaaGreatDoor.Lm
