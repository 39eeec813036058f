/-
  WHAT THE THIN PACKAGE's FixQuantize ANSWERS, of two decimals of at most 19 digits and scales from 0 to 19.
-/
import Derived.Test.YtcgdphciepdkiaaDoorGRou
import Derived.Test.YtcgdphciepdkiaaDoorGFQuant
import Derived.Test.YtcgdphciepdkiaaDoorLmP
namespace Go.Proofs.YtcgdphciepdkiaaDoor.G
open Go.RowKit Go.Proofs.YtcgdphciepdkiaaDoorW.PrintWords Go.Proofs.YtcgdphciepdkiaaDoor.Lm
set_option linter.unusedVariables false

set_option maxRecDepth 100000 in
theorem rescale_ans (b : Bool) (n s kk : Nat) (w : World) (hn : n < 10 ^ 19) (hs : s ≤ 19) (hkk : kk ≤ 19) (ht : Tab w) :
    ∃ (r1 : Bool) (m j : Nat), j ≤ 19 ∧ (∀ w0, Below w.heap.size w w0 → Calls Tryd.prog 67 #[decG (sg b n) s n, .int .i64 kk] w0 fun e w' => e = .returned (decG r1 (j : Int) (m : Int)) ∧ Below w0.heap.size w0 w') ∧
      Lm.Ev (fun r => S.laws_gvScaled.f r b (n : Int) (s : Int) (kk : Int)) (r1, lim m, -(j : Int)) ∧ Lm.Ev (fun r => S.spec_FixSame.f r r1 (m : Int) (j : Int) r1 (lim m) (-(j : Int))) true := by
  by_cases hlt : kk < s
  · obtain ⟨m, hm⟩ : ∃ m, m = heN n (10 ^ (s - kk)) := ⟨_, rfl⟩
    have e : heM n (10 ^ (s - kk)) = m := by rw [hm]; rfl
    have hsc := scaled_half b n s kk hn hs hlt
    have hml := heM_lt n s kk hn hlt
    rw [e] at hsc hml
    refine ⟨_, m, kk, hkk, fun w0 hb0 => ?_, hsc, fixSame (sg b n) m kk hml hkk⟩
    refine rescale_round (sg b n) s n kk _ _ _ w0 (by omega) (by omega) (by omega) (fun w1 hb1 => ?_)
    rw [← decOf_sg (sg b n) m (kk : Int)]
    exact round_down (sg b n) s n kk w1 hs hlt m (fun w2 hb2 => by rw [hm]; exact rshHE_at n s kk w2 hn hs hlt (((ht.below hb0).below hb1).below hb2))
  · have hp := padTo_of n s kk hn (by omega) hkk
    have hP : ndig n ≤ 19 := ndig_le.2 hn
    have h0 : n < 10 ^ ndig n := ndig_le.1 (Nat.le_refl _)
    have h1 : ∀ i, i < ndig n → 10 ^ i ≤ n := fun i hi => by
      rcases Nat.lt_or_ge n (10 ^ i) with h | h
      · have := ndig_le.2 h
        omega
      · exact h
    obtain ⟨t, htt⟩ : ∃ t, t = min kk (19 - ndig n + s) - s := ⟨_, rfl⟩
    rw [← htt] at hp
    have hsc := scaled_pad b n s kk t hn (by omega) hkk hp
    have hle := hp.le
    have hfs := fixSame (sg b n) (n * 10 ^ t) (s + t) hp.fits (by omega)
    rw [sg_mul] at hfs
    refine ⟨sg b n, n * 10 ^ t, s + t, by omega, fun w0 hb0 => ?_, hsc, hfs⟩
    by_cases hz : t = 0
    · have e1 : n * 10 ^ t = n := by rw [hz, Nat.pow_zero, Nat.mul_one]
      have e2 : s + t = s := by omega
      rw [e1, e2]
      by_cases hk : s = kk
      · subst hk
        refine rescale_round (sg b n) s n s _ _ _ w0 (by omega) (by omega) (by omega) (fun w1 hb1 => ?_)
        exact round_keep (sg b n) s n s w1 (by omega) (by omega) (by omega) (by omega)
      · refine rescale_pad (sg b n) s n kk _ _ _ w0 (by omega) (by omega) (by omega) (fun w1 hb1 => ?_)
        exact pad_keep (sg b n) s n kk (ndig n) (min kk (19 - ndig n + s)) w1 hs hkk hn hP h0 h1 ((ht.below hb0).below hb1) rfl (by omega)
    · refine rescale_pad (sg b n) s n kk _ _ _ w0 (by omega) (by omega) (by omega) (fun w1 hb1 => ?_)
      have e3 : (min kk (19 - ndig n + s)) = s + t := by omega
      have hpd := pad_is (sg b n) s n kk (ndig n) (s + t) w1 hs hkk hn hP h0 h1 ((ht.below hb0).below hb1) e3.symm (by omega) (n * 10 ^ t) (fun w2 hb2 => by
        have ew : wrap64 (((s + t : Nat) : Int) - (s : Int)) = (t : Int) := by rw [Lm.w64 (by omega) (by omega)]; omega
        rw [ew]
        exact lsh_at n t w2 hp.fits (by omega) (((ht.below hb0).below hb1).below hb2))
      rw [decOf_sg, sg_mul] at hpd
      exact hpd
set_option maxRecDepth 100000 in
theorem quant_ans (b : Bool) (n s : Nat) (b' : Bool) (n' s' : Nat) (w : World) (hn : n < 10 ^ 19) (hs : s ≤ 19) (hn' : n' < 10 ^ 19) (hs' : s' ≤ 19) (ht : Tab w) :
    ∃ (r1 : Bool) (m j : Nat), (∀ w0, Below w.heap.size w w0 → Calls Tryd.prog 24 #[fixI b n s, fixI b' n' s'] w0 fun e w' => e = .returned (.tuple #[fixI r1 m j, .int .i64 0]) ∧ Below w0.heap.size w0 w') ∧
      Lm.Ev (fun r => S.laws_gvScaled.f r b (n : Int) (s : Int) (s' : Int)) (r1, lim m, -(j : Int)) ∧ Lm.Ev (fun r => S.spec_FixSame.f r r1 (m : Int) (j : Int) r1 (lim m) (-(j : Int))) true := by
  obtain ⟨r1, m, j, hj, hr, hsc, hfs⟩ := rescale_ans b n s s' w hn hs hs' ht
  refine ⟨r1, m, j, fun w0 hb0 => ?_, hsc, hfs⟩
  refine fixQuant_ok b n s b' n' s' w0 (sg b n) s n (sg b' n') s' n' r1 j m (by omega) (by omega) (makes_sg b n s w0 hn hs) (makes_sg b' n' s' w0 hn' hs') (fun w1 hb1 => ?_)
  exact quantize_is (sg b n) s n (sg b' n') s' n' r1 j m w1 (by omega) (by omega) (fun w2 hb2 => hr w2 (below_step (below_step hb0 hb1) hb2))
end Go.Proofs.YtcgdphciepdkiaaDoor.G
