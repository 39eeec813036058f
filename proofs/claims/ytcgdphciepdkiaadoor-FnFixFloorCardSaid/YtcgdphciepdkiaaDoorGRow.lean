/-
  WHAT THE THIN PACKAGE's FixRound and FixFloor ANSWER, of a decimal of at most 19 digits and a scale from 0 to 19.
-/
import Derived.Test.YtcgdphciepdkiaaDoorGFRound
import Derived.Test.YtcgdphciepdkiaaDoorGFFloor
import Derived.Test.YtcgdphciepdkiaaDoorLmG
namespace Go.Proofs.YtcgdphciepdkiaaDoor.G
open Go.RowKit Go.Proofs.YtcgdphciepdkiaaDoorW.PrintWords Go.Proofs.YtcgdphciepdkiaaDoor.Lm
set_option linter.unusedVariables false

theorem sgI (b : Bool) (n : Nat) : (b && !decide ((n : Int) = 0)) = sg b n := by
  unfold sg; congr 1
  rw [Bool.eq_iff_iff]; simp
theorem decOf_sg (b : Bool) (m : Nat) (k : Int) : decOf b (m : Int) k = decG (sg b m) k (m : Int) := by rw [← sgI]
theorem makes_sg (b : Bool) (n s : Nat) (w : World) (hn : n < 10 ^ 19) (hs : s ≤ 19) : Makes b (n : Int) (s : Int) (sg b n) (s : Int) (n : Int) .nilIface w := by
  have h := makes_ok b (n : Int) (s : Int) w (by omega) (by omega) (by omega)
  rw [sgI] at h; exact h
set_option maxRecDepth 100000 in
theorem fixRound_ans (b : Bool) (n s : Nat) (k : Int) (w : World) (hn : n < 10 ^ 19) (hs : s ≤ 19) (ht : Tab w) :
    ∃ (r1 : Bool) (r2 r3 : Int), (∀ w0, Below w.heap.size w w0 → Calls Tryd.prog 18 #[fixI b n s, .int .i64 k] w0 fun e w' => e = .returned (.tuple #[fixI r1 r2 r3, .int .i64 0]) ∧ Below w0.heap.size w0 w') ∧
      Lm.Ev (fun r => S.laws_gvTo.f r b (n : Int) (s : Int) r1 r2 r3 0 k 5) true := by
  by_cases h : mx k 0 < (s : Int)
  · by_cases hk0 : 0 ≤ k
    · obtain ⟨kk, rfl⟩ := Int.eq_ofNat_of_zero_le hk0
      have hkk : mx (kk : Int) 0 = (kk : Int) := by unfold mx; rw [if_neg (by omega)]
      rw [hkk] at h
      have hk : kk < s := by omega
      obtain ⟨m, hm⟩ : ∃ m, m = heN n (10 ^ (s - kk)) := ⟨_, rfl⟩
      have e : heM n (10 ^ (s - kk)) = m := by rw [hm]; rfl
      have hg := gvTo_half b n s kk (kk : Int) hn hs hkk hk
      rw [e] at hg
      refine ⟨_, _, _, fun w0 hb0 => ?_, hg⟩
      refine fixRound_ok b n s kk w0 (sg b n) s n (sg (sg b n) m) kk m (by omega) (by omega) (makes_sg b n s w0 hn hs) (fun w1 hb1 => ?_)
      rw [← decOf_sg (sg b n) m (kk : Int)]
      exact round_down (sg b n) s n kk w1 hs hk m (fun w2 hb2 => by rw [hm]; exact rshHE_at n s kk w2 hn hs hk (((ht.below hb0).below hb1).below hb2))
    · have hkk : mx k 0 = ((0 : Nat) : Int) := by unfold mx; rw [if_pos (by omega)]; rfl
      rw [hkk] at h
      have hk : 0 < s := by omega
      obtain ⟨m, hm⟩ : ∃ m, m = heN n (10 ^ (s - 0)) := ⟨_, rfl⟩
      have e : heM n (10 ^ (s - 0)) = m := by rw [hm]; rfl
      have hg := gvTo_half b n s 0 k hn hs hkk hk
      have hz : ((0 : Nat) : Int) = 0 := rfl
      rw [e, hz] at hg
      refine ⟨_, _, _, fun w0 hb0 => ?_, hg⟩
      refine fixRound_ok b n s k w0 (sg b n) s n (sg (sg b n) m) 0 m (by omega) (by omega) (makes_sg b n s w0 hn hs) (fun w1 hb1 => ?_)
      rw [← decOf_sg (sg b n) m 0]
      refine round_down_0 (sg b n) s n k w1 hs (by omega) hk m (fun w2 hb2 => ?_)
      have hh := rshHE_at n s 0 w2 hn hs hk (((ht.below hb0).below hb1).below hb2)
      rw [← hm, show (s : Int) - ((0 : Nat) : Int) = (s : Int) by omega] at hh
      exact hh
  · have hg := gvTo_keep b n s k 5 hn hs h
    refine ⟨_, _, _, fun w0 hb0 => ?_, hg⟩
    refine fixRound_ok b n s k w0 (sg b n) s n (sg b n) s n (by omega) (by omega) (makes_sg b n s w0 hn hs) (fun w1 hb1 => ?_)
    by_cases hk0 : 0 ≤ k
    · have hkk : mx k 0 = k := by unfold mx; rw [if_neg (by omega)]
      rw [hkk] at h
      exact round_keep (sg b n) s n k w1 (by omega) (by omega) hk0 (by omega)
    · have hkk : mx k 0 = 0 := by unfold mx; rw [if_pos (by omega)]
      rw [hkk] at h
      obtain rfl : s = 0 := by omega
      exact round_keep_0 (sg b n) 0 n k w1 (by omega) (by omega) (by omega) rfl
set_option maxRecDepth 100000 in
theorem fixFloor_ans (b : Bool) (n s : Nat) (k : Int) (w : World) (hn : n < 10 ^ 19) (hs : s ≤ 19) (ht : Tab w) :
    ∃ (r1 : Bool) (r2 r3 : Int), (∀ w0, Below w.heap.size w w0 → Calls Tryd.prog 23 #[fixI b n s, .int .i64 k] w0 fun e w' => e = .returned (.tuple #[fixI r1 r2 r3, .int .i64 0]) ∧ Below w0.heap.size w0 w') ∧
      Lm.Ev (fun r => S.laws_gvTo.f r b (n : Int) (s : Int) r1 r2 r3 0 k 2) true := by
  by_cases h : mx k 0 < (s : Int)
  · by_cases hk0 : 0 ≤ k
    · obtain ⟨kk, rfl⟩ := Int.eq_ofNat_of_zero_le hk0
      have hkk : mx (kk : Int) 0 = (kk : Int) := by unfold mx; rw [if_neg (by omega)]
      rw [hkk] at h
      have hk : kk < s := by omega
      obtain ⟨m, hm⟩ : ∃ m, m = flM (sg b n) n (10 ^ (s - kk)) := ⟨_, rfl⟩
      have e : flM (sg b n) n (10 ^ (s - kk)) = m := hm.symm
      have hg := gvTo_floor b n s kk (kk : Int) hn hs hkk hk
      rw [e] at hg
      refine ⟨_, _, _, fun w0 hb0 => ?_, hg⟩
      refine fixFloor_ok b n s kk w0 (sg b n) s n (sg (sg b n) m) kk m (by omega) (by omega) (makes_sg b n s w0 hn hs) (fun w1 hb1 => ?_)
      rw [← decOf_sg (sg b n) m (kk : Int)]
      have hT := fun w2 (hb2 : Below w1.heap.size w1 w2) => ((ht.below hb0).below hb1).below hb2
      cases hsg : sg b n with
      | true =>
        rw [hsg] at hm
        exact floor_neg s n kk w1 hs hk m (fun w2 hb2 => by rw [hm]; exact rshUp_at n s kk w2 hn hs hk (hT w2 hb2))
      | false =>
        rw [hsg] at hm
        exact floor_pos s n kk w1 hs hk m (fun w2 hb2 => by rw [hm]; exact rshDown_at n s kk w2 hn hs hk (hT w2 hb2))
    · have hkk : mx k 0 = ((0 : Nat) : Int) := by unfold mx; rw [if_pos (by omega)]; rfl
      rw [hkk] at h
      have hk : 0 < s := by omega
      obtain ⟨m, hm⟩ : ∃ m, m = flM (sg b n) n (10 ^ (s - 0)) := ⟨_, rfl⟩
      have e : flM (sg b n) n (10 ^ (s - 0)) = m := hm.symm
      have hg := gvTo_floor b n s 0 k hn hs hkk hk
      have hz : ((0 : Nat) : Int) = 0 := rfl
      rw [e, hz] at hg
      refine ⟨_, _, _, fun w0 hb0 => ?_, hg⟩
      refine fixFloor_ok b n s k w0 (sg b n) s n (sg (sg b n) m) 0 m (by omega) (by omega) (makes_sg b n s w0 hn hs) (fun w1 hb1 => ?_)
      rw [← decOf_sg (sg b n) m 0]
      have hT := fun w2 (hb2 : Below w1.heap.size w1 w2) => ((ht.below hb0).below hb1).below hb2
      have es : (s : Int) - ((0 : Nat) : Int) = (s : Int) := by omega
      cases hsg : sg b n with
      | true =>
        rw [hsg] at hm
        have hh := fun w2 hb2 => rshUp_at n s 0 w2 hn hs hk (hT w2 hb2)
        rw [es] at hh
        exact floor_neg_0 s n k w1 hs (by omega) hk m (fun w2 hb2 => by rw [hm]; exact hh w2 hb2)
      | false =>
        rw [hsg] at hm
        have hh := fun w2 hb2 => rshDown_at n s 0 w2 hn hs hk (hT w2 hb2)
        rw [es] at hh
        exact floor_pos_0 s n k w1 hs (by omega) hk m (fun w2 hb2 => by rw [hm]; exact hh w2 hb2)
  · have hg := gvTo_keep b n s k 2 hn hs h
    refine ⟨_, _, _, fun w0 hb0 => ?_, hg⟩
    refine fixFloor_ok b n s k w0 (sg b n) s n (sg b n) s n (by omega) (by omega) (makes_sg b n s w0 hn hs) (fun w1 hb1 => ?_)
    by_cases hk0 : 0 ≤ k
    · have hkk : mx k 0 = k := by unfold mx; rw [if_neg (by omega)]
      rw [hkk] at h
      exact floor_keep (sg b n) s n k w1 (by omega) (by omega) hk0 (by omega)
    · have hkk : mx k 0 = 0 := by unfold mx; rw [if_pos (by omega)]
      rw [hkk] at h
      obtain rfl : s = 0 := by omega
      exact floor_keep_0 (sg b n) 0 n k w1 (by omega) (by omega) (by omega) rfl
end Go.Proofs.YtcgdphciepdkiaaDoor.G
