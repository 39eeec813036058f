/-
  WHAT THE REFERENCE's NUMBERS ANSWER, further: natTrim, NatMul, Pow10.
-/
import Derived.Test.YtghabdpbacgicaaGreatDoorLmA0
import Derived.Test.YtghabdpbacgicaaGreatDoorSMul
import Derived.Test.YtghabdpbacgicaaGreatDoorSPow
namespace Go.Proofs.YtghabdpbacgicaaGreatDoor.Lm
open Go.RowKit Go.Proofs.YtghabdpbacgicaaGreatDoorW.PrintWords Go.Proofs.YtghabdpbacgicaaGreatDoor.S
set_option linter.unusedVariables false

theorem rd_nat (l : List Int) (i : Nat) : rd l (i : Int) = l.getD i 0 := by unfold rd; rw [Int.toNat_natCast]
/-- One less, of a count above 0: no wrap. -/
theorem w64p (i : Nat) (h : i < 9223372036854775807) : wrap64 (((i + 1 : Nat) : Int) - 1) = (i : Int) := by rw [w64 (by omega) (by omega)]; omega
theorem w64n' (i : Nat) (h : i < 9223372036854775807) : wrap64 ((i : Int) - 1) = (i : Int) - 1 := w64 (by omega) (by omega)
theorem w64n (i : Nat) (h : i < 9223372036854775807) : wrap64 (i : Int) = (i : Int) := w64 (by omega) (by omega)
theorem w64a (i j : Nat) (h : i + j < 9223372036854775807) : wrap64 ((i : Int) + (j : Int)) = ((i + j : Nat) : Int) := by rw [w64 (by omega) (by omega)]; omega

/-! ### natTrim -/
theorem natTrim_len (n : Nat) : ∀ l : List Int, l.length = n → Ok l → n < 9223372036854775807 → Ev (fun k => spec_natTrim.l0 k l) (lim (val l)) := by
  induction n with
  | zero =>
    intro l hl _ _
    obtain rfl := List.eq_nil_of_length_eq_zero hl
    refine Ev.step ?_
    simp only [spec_natTrim.l0]
    refine Ev.neg (by simp) ?_
    rw [val, lim_zero]
    exact Ev.pure _
  | succ n ih =>
    intro l hl hok hn
    refine Ev.step ?_
    simp only [spec_natTrim.l0]
    rw [hl, w64p n (by omega), rd_nat]
    refine Ev.pos (by omega) (Ev.pos (by omega) (Ev.pos (by omega) ?_))
    have hlt : n < l.length := by omega
    have e : l.getD n 0 = l[n] := by rw [List.getD_eq_getElem?_getD, List.getElem?_eq_getElem hlt]; rfl
    have hsplit : l = l.take n ++ [l[n]] := by rw [← List.take_succ_eq_append_getElem hlt, List.take_of_length_le (by omega)]
    by_cases h0 : l.getD n 0 = 0
    · refine Ev.pos h0 (Ev.pos (by omega) ?_)
      rw [Int.toNat_natCast]
      have hv : val l = val (l.take n) := by
        conv => lhs; rw [hsplit]
        rw [val_snoc, ← e, h0]; simp
      rw [hv]
      exact ih _ (by rw [List.length_take]; omega) (fun x hx => hok x (List.mem_of_mem_take hx)) (by omega)
    · refine Ev.neg h0 ?_
      rw [← lim_val hok (fun x hx => ?_)]
      · exact Ev.pure _
      · rw [hsplit, List.getLast?_append, List.getLast?_singleton] at hx
        have : l[n] = x := by simpa using hx
        rw [← this, ← e]; exact h0
theorem natTrim (l : List Int) (hok : Ok l) (hn : l.length < 9223372036854775807) : Ev (fun k => spec_natTrim.f k l) (lim (val l)) := natTrim_len _ l rfl hok hn

/-! ### NatMul -/
theorem getD_zero {l : List Int} (hok : Ok l) {m : Nat} (h : val l < 1000000000 ^ m) : ∀ p, m ≤ p → l.getD p 0 = 0 := by
  intro p hp
  rcases Nat.lt_or_ge p l.length with hl | hl
  · have h1 := val_split l p
    rw [Nat.min_eq_left (by omega), val_drop hl] at h1
    have h2 := ok_get hok p
    have h3 : 1000000000 ^ m ≤ 1000000000 ^ p := Nat.pow_le_pow_right (by omega) hp
    rcases Nat.eq_zero_or_pos (l.getD p 0).toNat with h4 | h4
    · omega
    · have h5 := Nat.mul_le_mul_left (1000000000 ^ p) (show 1 ≤ (l.getD p 0).toNat + 1000000000 * val (l.drop (p + 1)) by omega)
      omega
  · rw [List.getD_eq_getElem?_getD, List.getElem?_eq_none hl]; rfl
theorem mul_inner (a b i : Nat) (ai : Nat) (ha : ai < 1000000000) (L : Nat) (hL : L = (lim b).length) (N : Nat) (hN : N < 9223372036854775807)
    (hi : i + L < N) (r : List Int) (la : List Int) (V : Nat)
    (K : ∀ (out : List Int) (c : Nat), out.length = N → Ok out → c < 1000000000 → val out + 1000000000 ^ (i + L) * c = V + 1000000000 ^ i * (ai * b) → (∀ p, i + L ≤ p → out.getD p 0 = 0) →
      Ev (fun k => spec_NatMul.l0 k (lim b) (out.set (i + L) (c : Int)) la (la.length : Int) ((i + 1 : Nat) : Int)) r)
    (d : Nat) : ∀ (j : Nat) (out : List Int) (c : Nat), j + d = L → out.length = N → Ok out → c < 1000000000 → val out + 1000000000 ^ (i + j) * c = V + 1000000000 ^ i * (ai * (b % 1000000000 ^ j)) → (∀ p, i + L ≤ p → out.getD p 0 = 0) →
    Ev (fun k => spec_NatMul.l1 k (lim b) out (i : Int) (ai : Int) (c : Int) la (la.length : Int) (i : Int) (lim b) (L : Int) (j : Int)) r := by
  have hii : i < 9223372036854775807 := by omega
  induction d with
  | zero =>
    intro j out c hj hlen hok hc hv hz
    refine Ev.step ?_
    simp only [spec_NatMul.l1]
    refine Ev.neg (by omega) ?_
    rw [← hL, w64a i L (by omega), w64s i hii]
    refine Ev.pos (by omega) (Ev.pos (by omega) ?_)
    rw [Int.toNat_natCast, show (c : Int) % 4294967296 = (c : Int) by omega]
    refine K out c hlen hok hc ?_ hz
    obtain rfl : j = L := by omega
    rw [hv, Nat.mod_eq_of_lt (lt_of_len (by omega))]
  | succ d ih =>
    intro j out c hj hlen hok hc hv hz
    refine Ev.step ?_
    simp only [spec_NatMul.l1]
    rw [w64a i j (by omega), rd_nat, rd_lim, Int.toNat_natCast]
    refine Ev.pos (by omega) (Ev.pos (by omega) (Ev.pos (by omega) (Ev.pos (by omega) (Ev.pos (by omega) ?_))))
    have hg := ok_get hok (i + j)
    obtain ⟨o, ho⟩ := Int.eq_ofNat_of_zero_le hg.1
    have hset := val_set (l := out) (i := i + j) (by omega) hok
    rw [ho, Int.toNat_natCast] at hset
    have ho1 : o < 1000000000 := by omega
    rw [ho]
    obtain ⟨bj, hbj⟩ : ∃ bj, bj = b / 1000000000 ^ j % 1000000000 := ⟨_, rfl⟩
    have hbj1 : bj < 1000000000 := by rw [hbj]; exact Nat.mod_lt _ (by omega)
    rw [← hbj]
    have hmod : b % 1000000000 ^ (j + 1) = b % 1000000000 ^ j + 1000000000 ^ j * bj := by rw [hbj]; exact Nat.mod_pow_succ
    have hp : ai * bj ≤ 999999999 * 999999999 := Nat.mul_le_mul (by omega) (by omega)
    obtain ⟨pr, hpr⟩ : ∃ pr, pr = ai * bj := ⟨_, rfl⟩
    rw [← hpr] at hp
    have e1 : IntKind.u64.wrap (IntKind.u64.wrap (ai : Int) * IntKind.u64.wrap (bj : Int)) = (pr : Int) := by
      rw [wu64 (i := (ai : Int)) (by omega) (by omega), wu64 (i := (bj : Int)) (by omega) (by omega), ← Int.natCast_mul, ← hpr, wu64 (by omega) (by omega)]
    have e2 : IntKind.u64.wrap (IntKind.u64.wrap (o : Int) + (pr : Int)) = ((o + pr : Nat) : Int) := by
      rw [wu64 (i := (o : Int)) (by omega) (by omega), wu64 (by omega) (by omega)]; omega
    have e3 : IntKind.u64.wrap ((c : Int) + ((o + pr : Nat) : Int)) = ((c + (o + pr) : Nat) : Int) := by rw [wu64 (by omega) (by omega)]; omega
    rw [e1, e2, e3]
    obtain ⟨t, ht⟩ : ∃ t, t = c + (o + pr) := ⟨_, rfl⟩
    rw [← ht]
    have e4 : (Int.tmod (t : Int) 1000000000) % 4294967296 = ((t % 1000000000 : Nat) : Int) := by rw [Int.tmod_eq_emod_of_nonneg (by omega)]; omega
    have e5 : IntKind.u64.wrap (Int.tdiv (t : Int) 1000000000) = ((t / 1000000000 : Nat) : Int) := by rw [Int.tdiv_eq_ediv_of_nonneg (by omega), wu64 (by omega) (by omega)]; omega
    rw [e4, e5, w64s j (by omega)]
    refine ih (j + 1) _ _ (by omega) (by rw [List.length_set]; exact hlen) (ok_set hok _ (by omega) (by omega)) (by omega) ?_ (fun p hp => ?_)
    · have hs := hset ((t % 1000000000 : Nat) : Int)
      rw [Int.toNat_natCast] at hs
      have hdm := Nat.div_add_mod t 1000000000
      rw [hmod, show i + (j + 1) = i + j + 1 by omega, Nat.pow_succ]
      have hP : 1000000000 ^ (i + j) = 1000000000 ^ i * 1000000000 ^ j := Nat.pow_add ..
      clear ih K e1 e2 e3 e4 e5 hset hz ho hok hlen
      generalize 1000000000 ^ (i + j) = P at *
      generalize 1000000000 ^ i = PI at *
      generalize 1000000000 ^ j = PJ at *
      generalize b % PJ = bm at *
      generalize t % 1000000000 = tm at *
      generalize t / 1000000000 = td at *
      generalize val (out.set (i + j) (tm : Int)) = v2 at *
      generalize val out = v1 at *
      subst hP
      subst ht
      subst hpr
      grind
    · rw [List.getD_eq_getElem?_getD, List.getElem?_set, if_neg (by omega), ← List.getD_eq_getElem?_getD]
      exact hz p hp
theorem mul_outer (a b : Nat) (L M N : Nat) (hL : L = (lim b).length) (hM : M = (lim a).length) (hN : N = M + L) (hN1 : N < 9223372036854775806) (d : Nat) : ∀ (i : Nat) (out : List Int), i + d = M → out.length = N → Ok out → val out = (a % 1000000000 ^ i) * b →
    Ev (fun k => spec_NatMul.l0 k (lim b) out (lim a) ((lim a).length : Int) (i : Int)) (lim (a * b)) := by
  induction d with
  | zero =>
    intro i out hi hlen hok hv
    refine Ev.step ?_
    simp only [spec_NatMul.l0]
    refine Ev.neg (by omega) ?_
    have e : a % 1000000000 ^ i = a := Nat.mod_eq_of_lt (lt_of_len (by omega))
    rw [e] at hv
    rw [← hv]
    exact Ev.bind (natTrim out hok (by omega)) (Ev.pure _)
  | succ d ih =>
    intro i out hi hlen hok hv
    refine Ev.step ?_
    simp only [spec_NatMul.l0]
    refine Ev.pos (by omega) (Ev.pos (by omega) (Ev.pos (by omega) ?_))
    rw [rd_lim, ← hL]
    have hb : b < 1000000000 ^ L := lt_of_len (by omega)
    have hai : a / 1000000000 ^ i % 1000000000 < 1000000000 := Nat.mod_lt _ (by omega)
    have hmod : a % 1000000000 ^ (i + 1) = a % 1000000000 ^ i + 1000000000 ^ i * (a / 1000000000 ^ i % 1000000000) := Nat.mod_pow_succ
    have hval : val out < 1000000000 ^ (i + L) := by
      rw [hv, Nat.pow_add]
      rcases Nat.eq_zero_or_pos b with h0 | h0
      · rw [h0, Nat.mul_zero]; exact Nat.mul_pos (Nat.pow_pos (by omega)) (Nat.pow_pos (by omega))
      · exact Nat.lt_of_lt_of_le (Nat.mul_lt_mul_of_pos_right (Nat.mod_lt _ (Nat.pow_pos (by omega))) h0) (Nat.mul_le_mul_left _ (by omega))
    refine mul_inner a b i _ hai L hL N (by omega) (by omega) _ (lim a) (val out) ?_ L 0 out 0 (by omega) hlen hok (by omega) (by simp [Nat.mod_one]) (getD_zero hok hval)
    intro out2 c hlen2 hok2 hc hv2 hz2
    refine ih (i + 1) _ (by omega) (by rw [List.length_set]; exact hlen2) (ok_set hok2 _ (by omega) (by omega)) ?_
    have hs := val_set (l := out2) (i := i + L) (by omega) hok2 (c : Int)
    rw [hz2 (i + L) (Nat.le_refl _), Int.toNat_natCast, Int.toNat_zero, Nat.mul_zero, Nat.add_zero] at hs
    rw [hs, hv2, hv, hmod, Nat.add_mul, Nat.mul_assoc]
theorem natMul (a b : Nat) (h : (lim a).length + (lim b).length ≤ 70368744177664) : Ev (fun k => spec_NatMul.f k (lim a) (lim b)) (lim (a * b)) := by
  unfold spec_NatMul.f
  rw [w64a _ _ (by omega), Int.toNat_natCast]
  refine Ev.pos (by omega) (Ev.pos h ?_)
  refine mul_outer a b _ _ _ rfl rfl rfl (by omega) (lim a).length 0 _ (by omega) (by rw [List.length_replicate]) (ok_zeros _) ?_
  rw [val_zeros, Nat.pow_zero, Nat.mod_one, Nat.zero_mul]

/-! ### Pow10 -/
theorem pow10_loop (n : Nat) (hn : n ≤ 1000000) (out : List Int) (hout : out = List.replicate (n / 9 + 1) 0) (d : Nat) : ∀ i : Nat, i + d = n % 9 → Ev (fun k => spec_Pow10.l0 k (n : Int) out ((10 ^ i : Nat) : Int) (i : Int)) (lim (10 ^ n)) := by
  induction d with
  | zero =>
    intro i hi
    refine Ev.step ?_
    simp only [spec_Pow10.l0]
    have e0 : Int.tmod (n : Int) 9 = ((n % 9 : Nat) : Int) := by rw [Int.tmod_eq_emod_of_nonneg (by omega)]; omega
    have e1 : Int.tdiv (n : Int) 9 = ((n / 9 : Nat) : Int) := by rw [Int.tdiv_eq_ediv_of_nonneg (by omega)]; omega
    rw [e0, e1, w64n _ (by omega), Int.toNat_natCast]
    have hl : out.length = n / 9 + 1 := by rw [hout, List.length_replicate]
    refine Ev.neg (by omega) (Ev.pos (by omega) (Ev.pos (by omega) ?_))
    have hlt : 10 ^ i < 1000000000 := by
      have : 10 ^ i ≤ 10 ^ 8 := Nat.pow_le_pow_right (by omega) (by omega)
      omega
    have hpos : 0 < 10 ^ i := Nat.pow_pos (by omega)
    have hok : Ok out := by rw [hout]; exact ok_zeros _
    have hs := val_set (l := out) (i := n / 9) (by omega) hok ((10 ^ i : Nat) : Int)
    have hz : out.getD (n / 9) 0 = 0 := getD_zero hok (m := 0) (by rw [hout, val_zeros]; exact Nat.one_pos) _ (Nat.zero_le _)
    rw [hz, Int.toNat_natCast, Int.toNat_zero, Nat.mul_zero, Nat.add_zero, show val out = 0 by rw [hout, val_zeros], Nat.zero_add] at hs
    have hp : 1000000000 ^ (n / 9) * 10 ^ i = 10 ^ n := by
      rw [show (1000000000 : Nat) = 10 ^ 9 by rfl, ← Nat.pow_mul, ← Nat.pow_add]
      congr 1; omega
    have hf : out.set (n / 9) ((10 ^ i : Nat) : Int) = lim (10 ^ n) := by
      rw [← hp, ← hs]
      refine lim_val (ok_set hok _ (by omega) (by omega)) (fun x hx => ?_)
      have hx' : (out.set (n / 9) ((10 ^ i : Nat) : Int))[n / 9]? = some x := by
        rw [← hx, List.getLast?_eq_getElem?, List.length_set, hl]; rfl
      rw [List.getElem?_set, if_pos rfl, if_pos (by omega)] at hx'
      have := Option.some.inj hx'
      omega
    rw [hf]
    exact Ev.pure _
  | succ d ih =>
    intro i hi
    refine Ev.step ?_
    simp only [spec_Pow10.l0]
    have e0 : Int.tmod (n : Int) 9 = ((n % 9 : Nat) : Int) := by rw [Int.tmod_eq_emod_of_nonneg (by omega)]; omega
    rw [e0]
    have hlt : 10 ^ i ≤ 10 ^ 8 := Nat.pow_le_pow_right (by omega) (by omega)
    have e2 : (((10 ^ i : Nat) : Int) * 10) % 4294967296 = ((10 ^ (i + 1) : Nat) : Int) := by rw [Nat.pow_succ]; omega
    rw [e2, w64s i (by omega)]
    exact Ev.pos (by omega) (ih (i + 1) (by omega))
theorem pow10 (n : Nat) (hn : n ≤ 1000000) : Ev (fun k => spec_Pow10.f k (n : Int)) (lim (10 ^ n)) := by
  unfold spec_Pow10.f
  have e1 : Int.tdiv (n : Int) 9 = ((n / 9 : Nat) : Int) := by rw [Int.tdiv_eq_ediv_of_nonneg (by omega)]; omega
  rw [e1, w64n _ (by omega), w64s _ (by omega), Int.toNat_natCast]
  exact Ev.neg (by omega) (Ev.pos (by omega) (Ev.pos (by omega) (pow10_loop n hn _ rfl (n % 9) 0 (by omega))))
end Go.Proofs.YtghabdpbacgicaaGreatDoor.Lm
