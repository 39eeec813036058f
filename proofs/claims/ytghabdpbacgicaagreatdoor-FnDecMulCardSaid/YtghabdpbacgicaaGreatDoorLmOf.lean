/-
  WHAT THE REFERENCE SAYS OF A TEXT: NatOf, ParseWhole, Whole_String, OfDec.
-/
import Derived.Test.YtghabdpbacgicaaGreatDoorLmStr
import Derived.Test.YtghabdpbacgicaaGreatDoorLmB
import Derived.Test.YtghabdpbacgicaaGreatDoorLmW
import Derived.Test.YtghabdpbacgicaaGreatDoorSNOf
import Derived.Test.YtghabdpbacgicaaGreatDoorSPWh
namespace Go.Proofs.YtghabdpbacgicaaGreatDoor.Lm
open Go.RowKit Go.Proofs.YtghabdpbacgicaaGreatDoorW.PrintWords Go.Proofs.YtghabdpbacgicaaGreatDoorW.PrintMore Go.Proofs.YtghabdpbacgicaaGreatDoor.S
set_option linter.unusedVariables false

theorem natOf_in (s : ByteArray) (x4 : List Int) (en : Nat) (hen : en ≤ s.size) (hs : s.size ≤ 2147483647) (hx : x4.length < 35184372088832) (P : List Int × Bool → Prop) (hP : P ([], false))
    (next : ∀ y : Nat, y < 1000000000 → ∃ r, P r ∧ Ev (fun k => spec_NatOf.l0 k s (x4 ++ [(y : Int)]) (wrap64 ((en : Int) - 9))) r) (d : Nat) :
    ∀ i j x6 : Nat, i + d = en → j + d ≤ 9 → x6 < 10 ^ j → ∃ r, P r ∧ Ev (fun k => spec_NatOf.l1 k s x4 (en : Int) (x6 : Int) (i : Int)) r := by
  induction d with
  | zero =>
    intro i j x6 hi hj hx6
    obtain ⟨r, hr, he⟩ := next x6 (Nat.lt_of_lt_of_le hx6 (Nat.pow_le_pow_right (by omega) (show j ≤ 9 by omega)))
    refine ⟨r, hr, Ev.step ?_⟩
    simp only [spec_NatOf.l1]
    exact Ev.neg (by omega) (Ev.pos hx he)
  | succ d ih =>
    intro i j x6 hi hj hx6
    by_cases h1 : bt s (i : Int) < 48
    · refine ⟨_, hP, Ev.step ?_⟩
      simp only [spec_NatOf.l1]
      exact Ev.pos (by omega) (Ev.pos (by omega) (Ev.pos (by omega) (Ev.pos h1 (Ev.pure _))))
    · by_cases h2 : bt s (i : Int) > 57
      · refine ⟨_, hP, Ev.step ?_⟩
        simp only [spec_NatOf.l1]
        exact Ev.pos (by omega) (Ev.pos (by omega) (Ev.pos (by omega) (Ev.neg h1 (Ev.pos h2 (Ev.pure _)))))
      · obtain ⟨c, hc⟩ : ∃ c : Nat, bt s (i : Int) = 48 + c := ⟨(bt s i - 48).toNat, by omega⟩
        have hx8 : x6 < 10 ^ 8 := Nat.lt_of_lt_of_le hx6 (Nat.pow_le_pow_right (by omega) (show j ≤ 8 by omega))
        obtain ⟨r, hr, he⟩ := ih (i + 1) (j + 1) (x6 * 10 + c) (by omega) (by omega) (by rw [Nat.pow_succ]; omega)
        refine ⟨r, hr, Ev.step ?_⟩
        simp only [spec_NatOf.l1]
        refine Ev.pos (by omega) (Ev.pos (by omega) (Ev.pos (by omega) (Ev.neg h1 (Ev.neg h2 ?_))))
        have e1 : ((((x6 : Int) * 10) % 4294967296) + ((bt s (i : Int) - 48) % 256)) % 4294967296 = ((x6 * 10 + c : Nat) : Int) := by rw [hc] at h2 ⊢; omega
        rw [e1, w64s i (by omega)]
        exact he
theorem natOf_out (s : ByteArray) (hs : s.size ≤ 2147483647) (m : Nat) : ∀ (x5 : Int) (x4 : List Int), x5 ≤ 9 * (m : Int) → x5 ≤ s.size → -9 ≤ x5 → Ok x4 → x4.length + m ≤ 238609300 →
    ∃ r : List Int × Bool, (∃ n ok, r = (lim n, ok) ∧ (lim n).length ≤ 238609300) ∧ Ev (fun k => spec_NatOf.l0 k s x4 x5) r := by
  induction m with
  | zero =>
    intro x5 x4 h0 hsz h9 hok hl
    refine ⟨(lim (val x4), (s.toList != ([] : List UInt8))), ⟨val x4, _, rfl, Nat.le_trans (len_le (val_lt hok)) (by omega)⟩, Ev.step ?_⟩
    simp only [spec_NatOf.l0]
    exact Ev.neg (by omega) ((natTrim x4 hok (by omega)).bind (Ev.pure _))
  | succ m ih =>
    intro x5 x4 h0 hsz h9 hok hl
    by_cases hp : x5 > 0
    · obtain ⟨en, rfl⟩ : ∃ en : Nat, x5 = en := ⟨x5.toNat, by omega⟩
      have e2 : mx 0 (wrap64 ((en : Int) - 9)) = ((en - 9 : Nat) : Int) := by rw [w64 (by omega) (by omega)]; unfold mx; split <;> omega
      obtain ⟨r, hr, he⟩ := natOf_in s x4 en (by omega) hs (by omega) (fun r => ∃ n ok, r = (lim n, ok) ∧ (lim n).length ≤ 238609300) ⟨0, false, by rw [lim_zero], by rw [lim_zero]; simp⟩ (fun y hy => by
        rw [w64 (by omega) (by omega)]
        exact ih _ _ (by omega) (by omega) (by omega) (ok_snoc hok (by omega) (by omega)) (by simp; omega)) (en - (en - 9)) (en - 9) 0 0 (by omega) (by omega) (by simp)
      refine ⟨r, hr, Ev.step ?_⟩
      simp only [spec_NatOf.l0]
      rw [e2]
      exact Ev.pos hp he
    · refine ⟨(lim (val x4), (s.toList != ([] : List UInt8))), ⟨val x4, _, rfl, Nat.le_trans (len_le (val_lt hok)) (by omega)⟩, Ev.step ?_⟩
      simp only [spec_NatOf.l0]
      exact Ev.neg hp ((natTrim x4 hok (by omega)).bind (Ev.pure _))
theorem natOf_some (s : ByteArray) (hs : s.size ≤ 2147483647) : ∃ n ok, (lim n).length ≤ 238609300 ∧ Ev (fun k => spec_NatOf.f k s) (lim n, ok) := by
  obtain ⟨r, ⟨n, ok, rfl, hl⟩, he⟩ := natOf_out s hs 238609300 (s.size : Int) [] (by omega) (by omega) (by omega) ok_nil (by simp)
  exact ⟨n, ok, hl, he⟩
theorem extract_size1 (s : ByteArray) : (s.extract 1 s.size).size ≤ s.size := by rw [ByteArray.size_extract]; omega
theorem parse_some (s : ByteArray) (hs : s.size ≤ 2147483647) : ∃ b n ok, (lim n).length ≤ 238609300 ∧ Ev (fun k => spec_ParseWhole.f k s) (sg b n, lim n, ok) := by
  have hj1 : ∀ b x, (x = true → 1 ≤ s.size) → ∃ n ok, (lim n).length ≤ 238609300 ∧ Ev (fun k => spec_ParseWhole.j1 k s b x) (sg b n, lim n, ok) := fun b x hx => by
    cases x with
    | true =>
      obtain ⟨n, ok, hl, he⟩ := natOf_some (s.extract 1 s.size) (Nat.le_trans (extract_size1 s) hs)
      refine ⟨n, ok, hl, Ev.step ?_⟩
      simp only [spec_ParseWhole.j1]
      have := hx rfl
      exact Ev.pos (by simp) (Ev.pos (by omega) (he.bind ((Ev.of (wholeOf b n)).bind (Ev.pure _))))
    | false =>
      obtain ⟨n, ok, hl, he⟩ := natOf_some s hs
      refine ⟨n, ok, hl, Ev.step ?_⟩
      simp only [spec_ParseWhole.j1]
      exact Ev.neg (by decide) (he.bind ((Ev.of (wholeOf b n)).bind (Ev.pure _)))
  have hj0 : ∀ b, ∃ n ok, (lim n).length ≤ 238609300 ∧ Ev (fun k => spec_ParseWhole.j0 k s b) (sg b n, lim n, ok) := fun b => by
    by_cases h0 : s.toList = ([] : List UInt8)
    · obtain ⟨n, ok, hl, he⟩ := hj1 b false (fun h => by cases h)
      refine ⟨n, ok, hl, Ev.step ?_⟩
      simp only [spec_ParseWhole.j0]
      exact Ev.pos h0 he
    · have hp : 0 < (s.size : Int) := by
        have : s.size ≠ 0 := fun e => h0 (by rw [ByteArray.toList_eq]; exact List.length_eq_zero_iff.1 ((data_length s).trans e))
        omega
      by_cases h1 : bt s 0 = 45
      · obtain ⟨n, ok, hl, he⟩ := hj1 b true (fun _ => by omega)
        refine ⟨n, ok, hl, Ev.step ?_⟩
        simp only [spec_ParseWhole.j0]
        exact Ev.neg h0 (Ev.pos hp (Ev.pos h1 he))
      · obtain ⟨n, ok, hl, he⟩ := hj1 b (bt s 0 == 43) (fun _ => by omega)
        refine ⟨n, ok, hl, Ev.step ?_⟩
        simp only [spec_ParseWhole.j0]
        exact Ev.neg h0 (Ev.pos hp (Ev.neg h1 he))
  by_cases h0 : s.toList = ([] : List UInt8)
  · obtain ⟨n, ok, hl, he⟩ := hj0 false
    exact ⟨false, n, ok, hl, Ev.congr (Ev.pos h0 he) (fun k => rfl)⟩
  · have hp : 0 < (s.size : Int) := by
      have : s.size ≠ 0 := fun e => h0 (by rw [ByteArray.toList_eq]; exact List.length_eq_zero_iff.1 ((data_length s).trans e))
      omega
    obtain ⟨n, ok, hl, he⟩ := hj0 (bt s 0 == 45)
    exact ⟨_, n, ok, hl, Ev.congr (Ev.neg h0 (Ev.pos hp he)) (fun k => rfl)⟩
end Go.Proofs.YtghabdpbacgicaaGreatDoor.Lm
