/-
  WHAT THE REFERENCE SAYS of the texts of whole numbers: NatOf, ParseWhole.
-/
import Derived.Test.YtghabdpbacgicaaGreatDoorLmWh
namespace Go.Proofs.YtghabdpbacgicaaGreatDoor.Lm
open Go.RowKit Go.Proofs.YtghabdpbacgicaaGreatDoorW.PrintWords Go.Proofs.YtghabdpbacgicaaGreatDoorW.PrintMore Go.Proofs.YtghabdpbacgicaaGreatDoor.S
set_option linter.unusedVariables false

theorem dig_step (m t : Nat) : m / 10 % 10 ^ t * 10 + m % 10 = m % 10 ^ (t + 1) := by
  rw [Nat.pow_succ, Nat.mul_comm (10 ^ t) 10, Nat.mod_mul]
  omega
theorem natD_in (s : ByteArray) (n N : Nat) (hd : Digs s n N) (hN : N ≤ 400) (x4 : List Int) (hx : x4.length < 35184372088832) (en i0 : Nat) (hen : en ≤ N) (h9 : en - i0 ≤ 9) (r : List Int × Bool)
    (next : Ev (fun k => spec_NatOf.l0 k s (x4 ++ [((n / 10 ^ (N - en) % 10 ^ (en - i0) : Nat) : Int)]) (wrap64 ((en : Int) - 9))) r) (d : Nat) :
    ∀ i, i + d = en → i0 ≤ i → Ev (fun k => spec_NatOf.l1 k s x4 (en : Int) ((n / 10 ^ (N - i) % 10 ^ (i - i0) : Nat) : Int) (i : Int)) r := by
  obtain ⟨hsz, hlt, hbt⟩ := hd
  induction d with
  | zero =>
    intro i hi h0
    obtain rfl : i = en := hi
    refine Ev.step ?_
    simp only [spec_NatOf.l1]
    exact Ev.neg (by omega) (Ev.pos hx next)
  | succ d ih =>
    intro i hi h0
    have h := ih (i + 1) (by omega) (by omega)
    have hb := hbt i (by omega)
    have e0 : n / 10 ^ (N - i) = n / 10 ^ (N - (i + 1)) / 10 := by
      rw [Nat.div_div_eq_div_mul, show 10 ^ (N - (i + 1)) * 10 = 10 ^ (N - i) from by rw [← Nat.pow_succ]; congr 1; omega]
    rw [show N - 1 - i = N - (i + 1) by omega] at hb
    have hx8 : n / 10 ^ (N - i) % 10 ^ (i - i0) < 10 ^ 8 := Nat.lt_of_lt_of_le (Nat.mod_lt _ (Nat.pow_pos (by omega))) (Nat.pow_le_pow_right (by omega) (by omega))
    rw [show i + 1 - i0 = i - i0 + 1 by omega, ← dig_step, ← e0] at h
    have hc9 : n / 10 ^ (N - (i + 1)) % 10 < 10 := Nat.mod_lt _ (by omega)
    generalize n / 10 ^ (N - i) % 10 ^ (i - i0) = x at hx8 h ⊢
    generalize n / 10 ^ (N - (i + 1)) % 10 = c at hb h hc9
    refine Ev.step ?_
    simp only [spec_NatOf.l1]
    have e1 : ((((x : Int) * 10) % 4294967296) + ((bt s (i : Int) - 48) % 256)) % 4294967296 = ((x * 10 + c : Nat) : Int) := by rw [hb]; omega
    refine Ev.pos (by omega) (Ev.pos (by omega) (Ev.pos (by omega) (Ev.neg (by omega) (Ev.neg (by omega) ?_))))
    rw [e1, w64s i (by omega)]
    exact h
theorem natD_out (s : ByteArray) (n N : Nat) (hd : Digs s n N) (hN0 : 0 < N) (hN : N ≤ 400) (d : Nat) : ∀ (j : Nat) (x4 : List Int), 9 * j + d = N + 9 → x4.length = j → Ok x4 → val x4 = n % 10 ^ (9 * j) →
    Ev (fun k => spec_NatOf.l0 k s x4 ((N : Int) - 9 * (j : Int))) (lim n, true) := by
  have hsz := hd.1
  have hne : (s.toList != ([] : List UInt8)) = true := by
    rw [bne_iff_ne]
    intro h
    rw [ByteArray.toList_eq] at h
    have := data_length s
    rw [h, hsz] at this
    simp at this
    omega
  induction d using Nat.strongRecOn with
  | _ d ih =>
    intro j x4 hj hl hok hv
    refine Ev.step ?_
    simp only [spec_NatOf.l0]
    by_cases hp : 9 * j < N
    · have hpw : (1000000000 : Nat) ^ j = 10 ^ (9 * j) := by rw [show (1000000000 : Nat) = 10 ^ 9 from rfl, ← Nat.pow_mul]
      obtain ⟨en, hen⟩ : ∃ en, en = N - 9 * j := ⟨_, rfl⟩
      have e1 : (N : Int) - 9 * (j : Int) = (en : Int) := by omega
      have e2 : mx 0 (wrap64 ((en : Int) - 9)) = ((en - 9 : Nat) : Int) := by rw [w64 (by omega) (by omega)]; unfold mx; split <;> omega
      have e3 : wrap64 ((en : Int) - 9) = (N : Int) - 9 * ((j + 1 : Nat) : Int) := by rw [w64 (by omega) (by omega)]; omega
      have hNe : N - en = 9 * j := by omega
      have hy : n / 10 ^ (9 * j) % 10 ^ (en - (en - 9)) = n / 10 ^ (9 * j) % 10 ^ 9 := by
        by_cases h9 : 9 ≤ en
        · rw [show en - (en - 9) = 9 by omega]
        · have hlt : n / 10 ^ (9 * j) < 10 ^ en := Nat.div_lt_of_lt_mul (by rw [← Nat.pow_add, show 9 * j + en = N by omega]; exact hd.2.1)
          rw [show en - (en - 9) = en by omega, Nat.mod_eq_of_lt hlt, Nat.mod_eq_of_lt (Nat.lt_of_lt_of_le hlt (Nat.pow_le_pow_right (by omega) (by omega)))]
      have hylt : n / 10 ^ (9 * j) % 10 ^ 9 < 1000000000 := Nat.mod_lt _ (by decide)
      have hK := ih (d - 9) (by omega) (j + 1) (x4 ++ [((n / 10 ^ (9 * j) % 10 ^ 9 : Nat) : Int)]) (by omega) (by rw [List.length_append, hl]; rfl) (ok_snoc hok (Int.natCast_nonneg _) (by omega))
        (by rw [val_snoc, hv, hl, Int.toNat_natCast, hpw, show 9 * (j + 1) = 9 * j + 9 by omega, Nat.pow_add, Nat.mod_mul])
      rw [← e3, ← hy] at hK
      have h := natD_in s n N hd hN x4 (by omega) en (en - 9) (by omega) (by omega) (lim n, true) (by rw [hNe]; exact hK) (en - (en - 9)) (en - 9) (by omega) (Nat.le_refl _)
      rw [Nat.sub_self, Nat.pow_zero, Nat.mod_one] at h
      rw [e1, e2]
      exact Ev.pos (by omega) h
    · have hlt : n < 10 ^ (9 * j) := Nat.lt_of_lt_of_le hd.2.1 (Nat.pow_le_pow_right (by omega) (by omega))
      rw [Nat.mod_eq_of_lt hlt] at hv
      have ht := natTrim x4 hok (by omega)
      rw [hv] at ht
      rw [hne]
      exact Ev.neg (by omega) (ht.bind (Ev.pure _))
theorem natOf_digs (s : ByteArray) (n N : Nat) (hd : Digs s n N) (hN0 : 0 < N) (hN : N ≤ 400) : Ev (fun k => spec_NatOf.f k s) (lim n, true) := by
  have h := natD_out s n N hd hN0 hN (N + 9) 0 [] (by omega) rfl ok_nil (by rw [Nat.mul_zero, Nat.pow_zero, Nat.mod_one]; rfl)
  refine Ev.congr h (fun k => ?_)
  unfold spec_NatOf.f
  rw [hd.1]
  congr 1
theorem toList_ne {s : ByteArray} (h : 0 < s.size) : ¬ s.toList = ([] : List UInt8) := fun e => by
  rw [ByteArray.toList_eq] at e
  have := data_length s
  rw [e] at this
  simp at this
  omega
/-- The text of a whole number is read as that number. -/
theorem parse_text (b : Bool) (n : Nat) (hb : b = true → n ≠ 0) (hn : ndig n ≤ 390) : Ev (fun k => spec_ParseWhole.f k (text b n)) (b, lim n, true) := by
  obtain ⟨N, hN0, hN1, hd, hz⟩ := digs_decimal n
  have hsz := hd.1
  have hq := natOf_digs (decimal n) n N hd hN0 (by omega)
  cases b with
  | true =>
    have ht : text true n = (⟨#[45]⟩ : ByteArray) ++ decimal n := if_pos rfl
    have hs : (text true n).size = 1 + N := by rw [ht, ByteArray.size_append, hsz]; rfl
    have h45 : bt (text true n) 0 = 45 := by rw [ht, text_bt]
    have hne := toList_ne (s := text true n) (by omega)
    have hj1 : Ev (fun k => spec_ParseWhole.j1 k (text true n) true true) (true, lim n, true) := by
      refine Ev.step ?_
      simp only [spec_ParseWhole.j1]
      refine Ev.pos (by simp) (Ev.pos (by omega) ?_)
      have he : (text true n).extract 1 (text true n).size = decimal n := by rw [ht, text_extract]
      rw [he]
      have hw := wholeOf true n
      rw [sg_pos (hb rfl)] at hw
      exact hq.bind ((Ev.of hw).bind (Ev.pure _))
    have hj0 : Ev (fun k => spec_ParseWhole.j0 k (text true n) true) (true, lim n, true) := by
      refine Ev.step ?_
      simp only [spec_ParseWhole.j0]
      exact Ev.neg hne (Ev.pos (by omega) (Ev.pos h45 hj1))
    refine Ev.congr (Ev.neg (g := fun k => spec_ParseWhole.j0 k (text true n) false) hne (Ev.pos (c := 0 < ((text true n).size : Int)) (h := fun _ => none) (by omega) hj0)) (fun k => ?_)
    unfold spec_ParseWhole.f
    rw [h45]
    rfl
  | false =>
    have ht : text false n = decimal n := if_neg (by simp)
    have hb0 := hd.2.2 0 hN0
    have e0 : (((0 : Nat) : Int)) = 0 := rfl
    rw [e0] at hb0
    have hne := toList_ne (s := decimal n) (by omega)
    have h45 : ¬ bt (decimal n) 0 = 45 := by omega
    have h45b : (bt (decimal n) 0 == 45) = false := beq_eq_false_iff_ne.2 h45
    have h43 : (bt (decimal n) 0 == 43) = false := beq_eq_false_iff_ne.2 (by omega)
    rw [ht]
    have hj1 : Ev (fun k => spec_ParseWhole.j1 k (decimal n) false false) (false, lim n, true) := by
      refine Ev.step ?_
      simp only [spec_ParseWhole.j1]
      exact Ev.neg (by decide) (hq.bind ((Ev.of (wholeOf false n)).bind (Ev.pure _)))
    have hj0 : Ev (fun k => spec_ParseWhole.j0 k (decimal n) false) (false, lim n, true) := by
      refine Ev.step ?_
      simp only [spec_ParseWhole.j0]
      rw [h43]
      exact Ev.neg hne (Ev.pos (by omega) (Ev.neg h45 hj1))
    refine Ev.congr (Ev.neg (g := fun k => spec_ParseWhole.j0 k (decimal n) false) hne (Ev.pos (c := 0 < ((decimal n).size : Int)) (h := fun _ => none) (by omega) hj0)) (fun k => ?_)
    unfold spec_ParseWhole.f
    rw [h45b]
end Go.Proofs.YtghabdpbacgicaaGreatDoor.Lm
