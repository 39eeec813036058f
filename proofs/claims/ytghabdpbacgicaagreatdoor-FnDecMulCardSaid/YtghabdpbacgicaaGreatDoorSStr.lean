/- CONTRACTS of spec_Nat_String: each as the plain function beside it. (Began as print.sh's text for this seat; the turns are those of wip/tools/split.py.) -/
import Derived.Test.YtghabdpbacgicaaGreatDoorS0
namespace Go.Proofs.YtghabdpbacgicaaGreatDoor.S
open Go.RowKit Go.Proofs.YtghabdpbacgicaaGreatDoorW.PrintWords Go.Proofs.YtghabdpbacgicaaGreatDoorW.PrintLast Go.Proofs.YtghabdpbacgicaaGreatDoorW.PrintMore
attribute [local go_sem] max2_int min2_int max_two min_two max_three min_three max_four min_four   -- for this text's walks alone
set_option linter.unusedVariables false
set_option linter.unusedSimpArgs false

/-! ### spec_Nat_String: function 44 -/
mutual
def spec_Nat_String.l0 : Nat → List Int → List Int → List Int → Int → Int → Option (ByteArray)
  | 0, _, _, _, _, _ => none
  | k + 1, x0, x3, x9, x10, x11 => if x11 < x10 then (if 0 ≤ x11 then (if x11 < (x9.length : Int) then (spec_Nat_String.l1 k x0 x3 x11 (rd x9 x11) 0 x9 x10 x11) else (none)) else (none)) else (if (x3.length : Int) = 0 then (some (⟨#[48]⟩ : ByteArray)) else (spec_Nat_String.l2 k x3 0 (wrap64 ((x3.length : Int) - 1))))
def spec_Nat_String.l1 : Nat → List Int → List Int → Int → Int → Int → List Int → Int → Int → Option (ByteArray)
  | 0, _, _, _, _, _, _, _, _ => none
  | k + 1, x0, x3, x4, x5, x6, x9, x10, x11 => if x6 < 9 then (if x5 > 0 then (if x3.length < 140737488355328 then (spec_Nat_String.l1 k x0 (x3 ++ [(48 + (Int.tmod x5 10)) % 256]) x4 ((Int.tdiv x5 10) % 4294967296) (wrap64 (x6 + 1)) x9 x10 x11) else (none)) else (if (wrap64 (x4 + 1)) < (x0.length : Int) then (if x3.length < 140737488355328 then (spec_Nat_String.l1 k x0 (x3 ++ [(48 + (Int.tmod x5 10)) % 256]) x4 ((Int.tdiv x5 10) % 4294967296) (wrap64 (x6 + 1)) x9 x10 x11) else (none)) else (spec_Nat_String.l0 k x0 x3 x9 x10 (wrap64 (x11 + 1))))) else (spec_Nat_String.l0 k x0 x3 x9 x10 (wrap64 (x11 + 1)))
def spec_Nat_String.l2 : Nat → List Int → Int → Int → Option (ByteArray)
  | 0, _, _, _ => none
  | k + 1, x3, x7, x8 => if x7 < x8 then (if 0 ≤ x8 then (if x8 < (x3.length : Int) then (if 0 ≤ x7 then (if x7 < (x3.length : Int) then (spec_Nat_String.l2 k ((x3.set (x7 : Int).toNat (rd x3 x8)).set (x8 : Int).toNat (rd x3 x7)) (wrap64 (x7 + 1)) (wrap64 (x8 - 1))) else (none)) else (none)) else (none)) else (none)) else (some (strOfNums x3))
end
def spec_Nat_String.f (k : Nat) (l0 : List Int) : Option (ByteArray) := spec_Nat_String.l0 k l0 ([] : List Int) l0 (l0.length : Int) 0
theorem spec_Nat_String.mono_l : ∀ k, (∀ y0 y1 y2 y3 y4, LeO (spec_Nat_String.l0 k y0 y1 y2 y3 y4) (spec_Nat_String.l0 (k + 1) y0 y1 y2 y3 y4)) ∧ (∀ y0 y1 y2 y3 y4 y5 y6 y7, LeO (spec_Nat_String.l1 k y0 y1 y2 y3 y4 y5 y6 y7) (spec_Nat_String.l1 (k + 1) y0 y1 y2 y3 y4 y5 y6 y7)) ∧ (∀ y0 y1 y2, LeO (spec_Nat_String.l2 k y0 y1 y2) (spec_Nat_String.l2 (k + 1) y0 y1 y2))
  | 0 => ⟨fun _ _ _ _ _ r h => by simp [spec_Nat_String.l0] at h, fun _ _ _ _ _ _ _ _ r h => by simp [spec_Nat_String.l1] at h, fun _ _ _ r h => by simp [spec_Nat_String.l2] at h⟩
  | k + 1 => by
    obtain ⟨ih0, ih1, ih2⟩ := spec_Nat_String.mono_l k
    refine ⟨?_, ?_, ?_⟩
    · intro y0 y1 y2 y3 y4
      unfold spec_Nat_String.l0
      repeat' first
      | (with_reducible exact ih0 _ _ _ _ _)
      | (with_reducible exact ih1 _ _ _ _ _ _ _ _)
      | (with_reducible exact ih2 _ _ _)
      | (with_reducible exact LeO.refl _)
      | (with_reducible exact LeO.none _)
      | (with_reducible refine LeO.ite ?_ ?_)
      | (with_reducible refine LeO.bind ?_ (fun _ => ?_))
      | exact ih0 _ _ _ _ _
      | exact ih1 _ _ _ _ _ _ _ _
      | exact ih2 _ _ _
      | exact LeO.none _
      | refine LeO.ite ?_ ?_
      | refine LeO.bind ?_ (fun _ => ?_)
    · intro y0 y1 y2 y3 y4 y5 y6 y7
      unfold spec_Nat_String.l1
      repeat' first
      | (with_reducible exact ih0 _ _ _ _ _)
      | (with_reducible exact ih1 _ _ _ _ _ _ _ _)
      | (with_reducible exact ih2 _ _ _)
      | (with_reducible exact LeO.refl _)
      | (with_reducible exact LeO.none _)
      | (with_reducible refine LeO.ite ?_ ?_)
      | (with_reducible refine LeO.bind ?_ (fun _ => ?_))
      | exact ih0 _ _ _ _ _
      | exact ih1 _ _ _ _ _ _ _ _
      | exact ih2 _ _ _
      | exact LeO.none _
      | refine LeO.ite ?_ ?_
      | refine LeO.bind ?_ (fun _ => ?_)
    · intro y0 y1 y2
      unfold spec_Nat_String.l2
      repeat' first
      | (with_reducible exact ih0 _ _ _ _ _)
      | (with_reducible exact ih1 _ _ _ _ _ _ _ _)
      | (with_reducible exact ih2 _ _ _)
      | (with_reducible exact LeO.refl _)
      | (with_reducible exact LeO.none _)
      | (with_reducible refine LeO.ite ?_ ?_)
      | (with_reducible refine LeO.bind ?_ (fun _ => ?_))
      | exact ih0 _ _ _ _ _
      | exact ih1 _ _ _ _ _ _ _ _
      | exact ih2 _ _ _
      | exact LeO.none _
      | refine LeO.ite ?_ ?_
      | refine LeO.bind ?_ (fun _ => ?_)
theorem spec_Nat_String.mono : ∀ a0 k, LeO (spec_Nat_String.f k a0) (spec_Nat_String.f (k + 1) a0) := by
  intro a0 k
  obtain ⟨ih0, ih1, ih2⟩ := spec_Nat_String.mono_l k
  unfold spec_Nat_String.f
  repeat' first
      | (with_reducible exact ih0 _ _ _ _ _)
      | (with_reducible exact ih1 _ _ _ _ _ _ _ _)
      | (with_reducible exact ih2 _ _ _)
      | (with_reducible exact LeO.refl _)
      | (with_reducible exact LeO.none _)
      | (with_reducible refine LeO.ite ?_ ?_)
      | (with_reducible refine LeO.bind ?_ (fun _ => ?_))
      | exact ih0 _ _ _ _ _
      | exact ih1 _ _ _ _ _ _ _ _
      | exact ih2 _ _ _
      | exact LeO.none _
      | refine LeO.ite ?_ ?_
      | refine LeO.bind ?_ (fun _ => ?_)
def spec_Nat_String.T16 : Bool × List (List Nat × List Nat) := (true, [([], []), ([], []), ([], []), ([], []), ([], []), ([], []), ([4, 5], [4, 5]), ([6], [6]), ([], []), ([], []), ([8, 9], [8, 9]), ([10], [10]), ([0, 1, 0, 1, 4, 5, 6, 7, 11], [0, 1]), ([12, 7, 0, 1, 4, 5, 6, 7, 11], [7, 12]), ([2, 3, 0, 1, 2, 3, 4, 5, 6, 7, 8, 9, 10, 11, 12, 13], [2, 3]), ([14, 11, 13, 0, 1, 2, 3, 4, 5, 6, 7, 8, 9, 10, 11, 12, 13], [11, 14])])
def spec_Nat_String.B16 : List Nat := [0, 0, 0, 0, 0, 0, 48, 112, 0, 0, 768, 1792, 4083, 8179, 16383, 32767]
theorem spec_Nat_String.tab16 : rtab .any (opsOf Tryz.f44 16) = spec_Nat_String.T16 := by kernel_rfl
theorem spec_Nat_String.bits16 : waitsOk spec_Nat_String.T16.2 spec_Nat_String.B16 = true := by kernel_rfl
set_option maxHeartbeats 8000000 in
set_option maxRecDepth 100000 in
theorem spec_Nat_String.calls (k : Nat) (A0 : Option Addr) (c0 : Nat) (l0 : List Int) (r : ByteArray) (w : World) (hr0 : Kd.C (Kd.int .u32) w A0 l0.length l0) (hc0 : l0.length ≤ c0) (h : spec_Nat_String.f k l0 = some r) :
    Calls Tryz.prog 44 #[.slice A0 l0.length c0] w fun e w' => e = .returned (.string r) ∧ Below w.heap.size w w' := by
  have HR0 := Aside0.mk hr0
  have HC0 := Aside0.mk hc0
  clear hr0 hc0
  have HB := Aside0.mk (Below.refl w.heap.size w)
  have H : (spec_Nat_String.l0 k l0 ([] : List Int) l0 (l0.length : Int) 0) = some r := h
  clear h
  have H' := Aside0.mk H
  clear H
  go_enter Tryz.func44, Tryz.ntmps44
  go_wp2
  go_loopg [3, 11] k (fun kq v3 v11 w' => ∃ (x3_1 : List Int) (x11_1 : Int), v11 = .int .i64 x11_1 ∧ Aside0 (spec_Nat_String.l0 kq l0 x3_1 l0 (l0.length : Int) x11_1 = some r) ∧ Aside0 (kq ≤ k) ∧ Aside0 (Kd.R (Kd.int .u8) 5 w' w.heap.size (fun _ => True) v3 x3_1) ∧ Aside0 (Below w.heap.size w w'))
  case atStart => exact ⟨(([] : List Int)), (0), (by first | rfl | (simp; done) | (simp [*]; done)), H', ⟨Nat.le_refl _⟩, ⟨by first | exact Kd.R_nil _ _ _ _ _ | exact Kd.N_nil _ _ _ _ _ | exact Kd.V_nil _ _ _ _ _ | exact Kd.Q_nil _ _ _ _ _ | exact Kd.S_nil _ _ _ _ _⟩, ⟨by repeat (first | (with_reducible first | exact HB.out | apply below_alloc | apply pw_below_drewN | apply below_drew1) | exact HB.out)⟩⟩
  case round =>
    clear H'
    obtain ⟨x3_1, x11_1, rfl, HA, HK1, HO_3, HB⟩ := hrel
    cases gk with
    | zero => exact absurd HA.out (by simp [spec_Nat_String.l0])
    | succ k1 =>
      have H := HA.out
      clear HA
      simp only [spec_Nat_String.l0] at H
      by_cases c2 : x11_1 < (l0.length : Int)
      · rw [if_pos c2] at H
        have c2b0 : decide (x11_1 < (l0.length : Int)) = true := decide_eq_true c2
        clear c2
        by_cases c3 : 0 ≤ x11_1
        · rw [if_pos c3] at H
          have c3b0 : decide (0 ≤ x11_1) = true := decide_eq_true c3
          clear c3
          by_cases c4 : x11_1 < (l0.length : Int)
          · rw [if_pos c4] at H
            have c4b0 : decide (x11_1 < (l0.length : Int)) = true := decide_eq_true c4
            clear c4
            have H' := Aside0.mk H
            clear H
            have p268 : 0 ≤ (x11_1 : Int) := of_decide_eq_true (by first | (with_reducible assumption) | assumption)
            have q268 : x11_1 < (l0.length : Int) := of_decide_eq_true (by first | (with_reducible assumption) | assumption)
            obtain ⟨ad268, e268, hx268_0⟩ := Kd.at_int HR0.out x11_1 p268 q268
            cases e268
            replace hx268_0 := (HB.out.cell (World.block_lt_of_cell? w _ hx268_0)).trans hx268_0
            replace p268 := eq_true p268
            replace q268 := eq_true q268
            go_wp2
            go_loopg [3, 5, 6] k1 (fun kq v3 v5 v6 w' => ∃ (x3_2 : List Int) (x5_2 : Int) (x6_2 : Int), v5 = .int .u32 x5_2 ∧ v6 = .int .i64 x6_2 ∧ Aside0 (spec_Nat_String.l1 kq l0 x3_2 x11_1 x5_2 x6_2 l0 (l0.length : Int) x11_1 = some r) ∧ Aside0 (kq ≤ k1) ∧ Aside0 (Kd.R (Kd.int .u8) 5 w' w.heap.size (fun _ => True) v3 x3_2) ∧ Aside0 (Below w.heap.size w w'))
            case atStart => exact ⟨(x3_1), (rd l0 x11_1), (0), (by first | rfl | (simp; done) | (simp [*]; done)), (by first | rfl | (simp; done) | (simp [*]; done)), H', ⟨Nat.le_refl _⟩, ⟨by (with_reducible repeat (first | apply Kd.R_alloc | apply Kd.R_drewN | apply Kd.R_drew)); exact HO_3.out⟩, ⟨by repeat (first | (with_reducible first | exact HB.out | apply below_alloc | apply pw_below_drewN | apply below_drew1) | exact HB.out)⟩⟩
            case round =>
              clear H'
              try clear c2
              try clear c2b0
              try clear p2
              try clear q2
              try clear hx2
              try clear c3
              try clear c3b0
              try clear c4
              try clear c4b0
              try clear hx268_0
              try clear p268
              try clear q268
              obtain ⟨x3_2, x5_2, x6_2, rfl, rfl, HA, HK2, HO_3, HB⟩ := hrel
              cases gk with
              | zero => exact absurd HA.out (by simp [spec_Nat_String.l1])
              | succ k2 =>
                have H := HA.out
                clear HA
                simp only [spec_Nat_String.l1] at H
                by_cases c5 : x6_2 < 9
                · rw [if_pos c5] at H
                  have c5b0 : decide (x6_2 < 9) = true := decide_eq_true c5
                  clear c5
                  by_cases c6 : x5_2 > 0
                  · rw [if_pos c6] at H
                    have c6b0 : decide (0 < x5_2) = true := decide_eq_true c6
                    clear c6
                    by_cases c7 : x3_2.length < 140737488355328
                    · rw [if_pos c7] at H
                      have LMc7 := Aside0.mk c7
                      clear c7
                      obtain ⟨y269, hy269⟩ : ∃ y_ : List Int, y_ = (x3_2 ++ [(48 + (Int.tmod x5_2 10)) % 256]) := ⟨_, rfl⟩
                      replace H : (spec_Nat_String.l1 k2 l0 y269 x11_1 ((Int.tdiv x5_2 10) % 4294967296) (wrap64 (x6_2 + 1)) l0 (l0.length : Int) x11_1) = some r := by first | (rw [hy269]; with_reducible exact H) | (have H2_ := (Option.bind_some _ _).symm.trans H; rw [hy269]; with_reducible exact H2_) | (have H2_ := (Option.bind_some _ _).symm.trans H; with_reducible exact H2_) | with_reducible exact H | (rw [hy269]; exact H) | exact H
                      have Ny269 := Aside0.mk hy269
                      clear hy269
                      have H' := Aside0.mk H
                      clear H
                      go_wp2_with (first | ((with_reducible refine gate_builtin (b := .append) (xs := #[.tmp 31, .tmp 36]) rfl ?_); (try (refine gate_guard (by rfl) ?_; dsimp only)); at_builtin; refine Kd.R_append (Kd.int .u8) (w0 := w) w.heap.size rfl (.tmp 31) (.tmp 36) 54 5 (.int .u8 0) 1 rfl Tryz.underlying54 info5 rfl (by decide) (by omega) u3 x3_2 ((48 + (Int.tmod x5_2 10)) % 256) [.int .u8 ((48 + (Int.tmod x5_2 10)) % 256)] (fun _ => True) (fun _ => False) rfl rfl ?aP (fun _ hk => hk.elim) ?aF ?aO ?aB ?aS ?aL ?_; (case aP => exact rfl); (case aB => exact (by repeat (first | (with_reducible first | exact HB.out | apply below_alloc | apply pw_below_drewN | apply below_drew1) | exact HB.out))); (case aF => exact (fun _ _ => trivial)); (case aO => exact (by (with_reducible repeat (first | apply Kd.R_alloc | apply Kd.R_drewN | apply Kd.R_drew)); exact HO_3.out)); (case aS => exact (below_size (by repeat (first | (with_reducible first | exact HB.out | apply below_alloc | apply pw_below_drewN | apply below_drew1) | exact HB.out)))); (case aL => have := LMc7.out; omega); intro v270 w8 ho hb hg hat; rw [← Ny269.out] at ho; have n0_ := Aside0.mk (hb); have n1_ := Aside0.mk (ho); clear HB; clear HO_3; have HB := n0_; have HO271 := n1_; clear n0_ n1_; clear ho hb hg hat))
                      go_roundg k2
                      case measure => have := HK1.out; have := HK2.out; omega
                      case rel => exact ⟨(y269), ((Int.tdiv x5_2 10) % 4294967296), (wrap64 (x6_2 + 1)), (by first | rfl | (simp; done) | (simp [*]; done)), (by first | rfl | (simp; done) | (simp [*]; done)), H', ⟨by have := HK1.out; have := HK2.out; omega⟩, ⟨by (with_reducible repeat (first | apply Kd.R_alloc | apply Kd.R_drewN | apply Kd.R_drew)); exact HO271.out⟩, ⟨by repeat (first | (with_reducible first | exact HB.out | apply below_alloc | apply pw_below_drewN | apply below_drew1) | exact HB.out)⟩⟩
                    · rw [if_neg c7] at H
                      exact absurd H (by simp)
                  · rw [if_neg c6] at H
                    have c6b0 : decide (0 < x5_2) = false := decide_eq_false c6
                    clear c6
                    by_cases c9 : (wrap64 (x11_1 + 1)) < (l0.length : Int)
                    · rw [if_pos c9] at H
                      have c9b0 : decide ((wrap64 (x11_1 + 1)) < (l0.length : Int)) = true := decide_eq_true c9
                      clear c9
                      by_cases c10 : x3_2.length < 140737488355328
                      · rw [if_pos c10] at H
                        have LMc10 := Aside0.mk c10
                        clear c10
                        obtain ⟨y272, hy272⟩ : ∃ y_ : List Int, y_ = (x3_2 ++ [(48 + (Int.tmod x5_2 10)) % 256]) := ⟨_, rfl⟩
                        replace H : (spec_Nat_String.l1 k2 l0 y272 x11_1 ((Int.tdiv x5_2 10) % 4294967296) (wrap64 (x6_2 + 1)) l0 (l0.length : Int) x11_1) = some r := by first | (rw [hy272]; with_reducible exact H) | (have H2_ := (Option.bind_some _ _).symm.trans H; rw [hy272]; with_reducible exact H2_) | (have H2_ := (Option.bind_some _ _).symm.trans H; with_reducible exact H2_) | with_reducible exact H | (rw [hy272]; exact H) | exact H
                        have Ny272 := Aside0.mk hy272
                        clear hy272
                        have H' := Aside0.mk H
                        clear H
                        go_wp2_with (first | ((with_reducible refine gate_builtin (b := .append) (xs := #[.tmp 31, .tmp 36]) rfl ?_); (try (refine gate_guard (by rfl) ?_; dsimp only)); at_builtin; refine Kd.R_append (Kd.int .u8) (w0 := w) w.heap.size rfl (.tmp 31) (.tmp 36) 54 5 (.int .u8 0) 1 rfl Tryz.underlying54 info5 rfl (by decide) (by omega) u3 x3_2 ((48 + (Int.tmod x5_2 10)) % 256) [.int .u8 ((48 + (Int.tmod x5_2 10)) % 256)] (fun _ => True) (fun _ => False) rfl rfl ?aP (fun _ hk => hk.elim) ?aF ?aO ?aB ?aS ?aL ?_; (case aP => exact rfl); (case aB => exact (by repeat (first | (with_reducible first | exact HB.out | apply below_alloc | apply pw_below_drewN | apply below_drew1) | exact HB.out))); (case aF => exact (fun _ _ => trivial)); (case aO => exact (by (with_reducible repeat (first | apply Kd.R_alloc | apply Kd.R_drewN | apply Kd.R_drew)); exact HO_3.out)); (case aS => exact (below_size (by repeat (first | (with_reducible first | exact HB.out | apply below_alloc | apply pw_below_drewN | apply below_drew1) | exact HB.out)))); (case aL => have := LMc10.out; omega); intro v273 w11 ho hb hg hat; rw [← Ny272.out] at ho; have n0_ := Aside0.mk (hb); have n1_ := Aside0.mk (ho); clear HB; clear HO_3; have HB := n0_; have HO274 := n1_; clear n0_ n1_; clear ho hb hg hat))
                        go_roundg k2
                        case measure => have := HK1.out; have := HK2.out; omega
                        case rel => exact ⟨(y272), ((Int.tdiv x5_2 10) % 4294967296), (wrap64 (x6_2 + 1)), (by first | rfl | (simp; done) | (simp [*]; done)), (by first | rfl | (simp; done) | (simp [*]; done)), H', ⟨by have := HK1.out; have := HK2.out; omega⟩, ⟨by (with_reducible repeat (first | apply Kd.R_alloc | apply Kd.R_drewN | apply Kd.R_drew)); exact HO274.out⟩, ⟨by repeat (first | (with_reducible first | exact HB.out | apply below_alloc | apply pw_below_drewN | apply below_drew1) | exact HB.out)⟩⟩
                      · rw [if_neg c10] at H
                        exact absurd H (by simp)
                    · rw [if_neg c9] at H
                      have c9b0 : decide ((wrap64 (x11_1 + 1)) < (l0.length : Int)) = false := decide_eq_false c9
                      clear c9
                      have H' := Aside0.mk H
                      clear H
                      go_wp2
                      go_roundg k2
                      case measure => have := HK1.out; have := HK2.out; omega
                      case rel => exact ⟨(x3_2), (wrap64 (x11_1 + 1)), (by first | rfl | (simp; done) | (simp [*]; done)), H', ⟨by have := HK1.out; have := HK2.out; omega⟩, ⟨by (with_reducible repeat (first | apply Kd.R_alloc | apply Kd.R_drewN | apply Kd.R_drew)); exact HO_3.out⟩, ⟨by repeat (first | (with_reducible first | exact HB.out | apply below_alloc | apply pw_below_drewN | apply below_drew1) | exact HB.out)⟩⟩
                · rw [if_neg c5] at H
                  have c5b0 : decide (x6_2 < 9) = false := decide_eq_false c5
                  clear c5
                  have H' := Aside0.mk H
                  clear H
                  go_wp2
                  go_roundg k2
                  case measure => have := HK1.out; have := HK2.out; omega
                  case rel => exact ⟨(x3_2), (wrap64 (x11_1 + 1)), (by first | rfl | (simp; done) | (simp [*]; done)), H', ⟨by have := HK1.out; have := HK2.out; omega⟩, ⟨by (with_reducible repeat (first | apply Kd.R_alloc | apply Kd.R_drewN | apply Kd.R_drew)); exact HO_3.out⟩, ⟨by repeat (first | (with_reducible first | exact HB.out | apply below_alloc | apply pw_below_drewN | apply below_drew1) | exact HB.out)⟩⟩
          · rw [if_neg c4] at H
            exact absurd H (by simp)
        · rw [if_neg c3] at H
          exact absurd H (by simp)
      · rw [if_neg c2] at H
        have c2b0 : decide (x11_1 < (l0.length : Int)) = false := decide_eq_false c2
        clear c2
        by_cases c12 : (x3_1.length : Int) = 0
        · rw [if_pos c12] at H
          have c12b0 : ((x3_1.length : Int) == 0) = true := beq_iff_eq.mpr c12
          have c12b1 : ((x3_1.length : Int) != 0) = false := bne_eq_false_iff_eq.mpr c12
          clear c12
          obtain rfl := Option.some.inj H
          obtain ⟨Ao13, co13, eo13⟩ := Kd.R_slice HO_3.out
          subst eo13
          go_wp2
          go_ret
          exact ⟨by first | rfl | (simp [errW_none, errW_some] <;> rfl) | (simp [*, errW_none, errW_some] <;> rfl), by repeat (first | (with_reducible first | exact HB.out | apply below_alloc | apply pw_below_drewN | apply below_drew1) | exact HB.out)⟩
        · rw [if_neg c12] at H
          have c12b0 : ((x3_1.length : Int) == 0) = false := beq_eq_false_iff_ne.mpr c12
          have c12b1 : ((x3_1.length : Int) != 0) = true := bne_iff_ne.mpr c12
          have c12b2 : ¬ (x3_1 = []) := fun h_ => c12 (by rw [h_]; rfl)
          have H' := Aside0.mk H
          clear H
          obtain ⟨Ao14, co14, eo14⟩ := Kd.R_slice HO_3.out
          subst eo14
          go_wp2
          go_loopg [7, 8] k1 (fun kq v7 v8 w' => ∃ (x3_2 : List Int) (x7_2 : Int) (x8_2 : Int), v7 = .int .i64 x7_2 ∧ v8 = .int .i64 x8_2 ∧ Aside0 (spec_Nat_String.l2 kq x3_2 x7_2 x8_2 = some r) ∧ Aside0 (kq ≤ k1) ∧ Aside0 (Kd.R (Kd.int .u8) 5 w' w.heap.size (fun _ => True) (.slice Ao14 x3_1.length co14) x3_2) ∧ Aside0 (Below w.heap.size w w'))
          case atStart => exact ⟨(x3_1), (0), (wrap64 ((x3_1.length : Int) - 1)), (by first | rfl | (simp; done) | (simp [*]; done)), (by first | rfl | (simp; done) | (simp [*]; done)), H', ⟨Nat.le_refl _⟩, ⟨by (with_reducible repeat (first | apply Kd.R_alloc | apply Kd.R_drewN | apply Kd.R_drew)); exact HO_3.out⟩, ⟨by repeat (first | (with_reducible first | exact HB.out | apply below_alloc | apply pw_below_drewN | apply below_drew1) | exact HB.out)⟩⟩
          case round =>
            clear H'
            try clear c1
            try clear c2
            try clear c2b0
            try clear p2
            try clear q2
            try clear hx2
            try clear c3
            try clear c3b0
            try clear c4
            try clear c4b0
            try clear c5
            try clear c5b0
            try clear c6
            try clear c6b0
            try clear p6
            try clear c7
            try clear c9
            try clear c9b0
            try clear c10
            try clear c12
            try clear c12b0
            try clear c12b1
            try clear c12b2
            try clear hx268_0
            try clear p2
            try clear p268
            try clear q2
            try clear q268
            obtain ⟨x3_2, x7_2, x8_2, rfl, rfl, HA, HK2, HO_3, HB⟩ := hrel
            have hl3_2 := (Kd.R_reads' HO_3.out).1
            rw [hl3_2] at HO_3
            (try simp only [hl3_2])
            cases gk with
            | zero => exact absurd HA.out (by simp [spec_Nat_String.l2])
            | succ k2 =>
              have H := HA.out
              clear HA
              simp only [spec_Nat_String.l2] at H
              by_cases c15 : x7_2 < x8_2
              · rw [if_pos c15] at H
                have c15b0 : decide (x7_2 < x8_2) = true := decide_eq_true c15
                clear c15
                by_cases c16 : 0 ≤ x8_2
                · rw [if_pos c16] at H
                  have c16b0 : decide (0 ≤ x8_2) = true := decide_eq_true c16
                  clear c16
                  by_cases c17 : x8_2 < (x3_2.length : Int)
                  · rw [if_pos c17] at H
                    have c17b0 : decide (x8_2 < (x3_2.length : Int)) = true := decide_eq_true c17
                    clear c17
                    by_cases c18 : 0 ≤ x7_2
                    · rw [if_pos c18] at H
                      have c18b0 : decide (0 ≤ x7_2) = true := decide_eq_true c18
                      clear c18
                      by_cases c19 : x7_2 < (x3_2.length : Int)
                      · rw [if_pos c19] at H
                        have c19b0 : decide (x7_2 < (x3_2.length : Int)) = true := decide_eq_true c19
                        clear c19
                        obtain ⟨y277, hy277⟩ : ∃ y_ : List Int, y_ = (x3_2.set (x7_2 : Int).toNat (rd x3_2 x8_2)) := ⟨_, rfl⟩
                        replace H : (spec_Nat_String.l2 k2 (y277.set (x8_2 : Int).toNat (rd x3_2 x7_2)) (wrap64 (x7_2 + 1)) (wrap64 (x8_2 - 1))) = some r := by first | (rw [hy277]; with_reducible exact H) | (have H2_ := (Option.bind_some _ _).symm.trans H; rw [hy277]; with_reducible exact H2_) | (have H2_ := (Option.bind_some _ _).symm.trans H; with_reducible exact H2_) | with_reducible exact H | (rw [hy277]; exact H) | exact H
                        have Ny277 := Aside0.mk hy277
                        clear hy277
                        obtain ⟨y278, hy278⟩ : ∃ y_ : List Int, y_ = (y277.set (x8_2 : Int).toNat (rd x3_2 x7_2)) := ⟨_, rfl⟩
                        replace H : (spec_Nat_String.l2 k2 y278 (wrap64 (x7_2 + 1)) (wrap64 (x8_2 - 1))) = some r := by first | (rw [hy278]; with_reducible exact H) | (have H2_ := (Option.bind_some _ _).symm.trans H; rw [hy278]; with_reducible exact H2_) | (have H2_ := (Option.bind_some _ _).symm.trans H; with_reducible exact H2_) | with_reducible exact H | (rw [hy278]; exact H) | exact H
                        have Ny278 := Aside0.mk hy278
                        clear hy278
                        have H' := Aside0.mk H
                        clear H
                        try go_wp2
                        have n0_ := Aside0.mk (Kd.R_drew HO_3.out)
                        have n1_ := Aside0.mk (below_drew1 HB.out)
                        clear HO_3
                        clear HB
                        have HO_3 := n0_
                        have HB := n1_
                        clear n0_ n1_
                        have p275 : 0 ≤ (x8_2 : Int) := of_decide_eq_true (by first | (with_reducible assumption) | assumption)
                        have q275 : x8_2 < (x3_2.length : Int) := of_decide_eq_true (by first | (with_reducible assumption) | assumption)
                        obtain ⟨ad275, e275, hx275_0⟩ := Kd.at_int (Kd.R_reads' HO_3.out).2.2 x8_2 p275 q275
                        cases e275
                        replace p275 := eq_true p275
                        replace q275 := eq_true q275
                        have p276 : 0 ≤ (x7_2 : Int) := of_decide_eq_true (by first | (with_reducible assumption) | assumption)
                        have q276 : x7_2 < (x3_2.length : Int) := of_decide_eq_true (by first | (with_reducible assumption) | assumption)
                        obtain ⟨ad276, e276, hx276_0⟩ := Kd.at_int (Kd.R_reads' HO_3.out).2.2 x7_2 p276 q276
                        obtain rfl : ad275 = ad276 := (by injection e276)
                        replace p276 := eq_true p276
                        replace q276 := eq_true q276
                        have p20 : 0 ≤ (x7_2 : Int) := of_decide_eq_true (by first | (with_reducible assumption) | assumption)
                        have q20 : (x7_2 : Int) < ((x3_2.length : Int) : Int) := of_decide_eq_true (by first | (with_reducible assumption) | assumption)
                        obtain ⟨go20, co20, eo20, gb20, gl20, cl20, HG20⟩ := Kd.R_form HO_3.out (by omega)
                        (first | cases eo20 | (injection eo20 with ea_ en_ ec_; (first | subst ea_ | (injection ea_ with ea_; subst ea_)); subst ec_; clear en_))
                        have GB20 := Aside0.mk gb20
                        have GG20 := Aside0.mk HG20
                        clear gb20 gl20 HG20
                        (first | simp only [add_plain] at hx275_0 | skip)
                        (first | simp only [add_plain] at hx276_0 | skip)
                        obtain ⟨hx20_0, hf20_0⟩ := Kd.R_celln 0 HO_3.out (x7_2 : Int) p20 q20
                        replace p20 := eq_true p20
                        replace q20 := eq_true q20
                        have HP23 := Kd.R_putn HO_3.out (x7_2 : Int) (rd x3_2 x8_2)
                        rw [← Ny277.out] at HP23
                        have HQ23 := Aside0.mk HP23
                        clear HP23
                        have p21 : 0 ≤ (x8_2 : Int) := of_decide_eq_true (by first | (with_reducible assumption) | assumption)
                        have q21 : (x8_2 : Int) < ((x3_2.length : Int) : Int) := of_decide_eq_true (by first | (with_reducible assumption) | assumption)
                        obtain ⟨hx21_0, hf21_0⟩ := Kd.R_celln 0 HQ23.out (x8_2 : Int) p21 q21
                        replace p21 := eq_true p21
                        replace q21 := eq_true q21
                        have HP24 := Kd.R_putn HQ23.out (x8_2 : Int) (rd x3_2 x7_2)
                        rw [← Ny278.out] at HP24
                        have HQ24 := Aside0.mk HP24
                        clear HP24
                        refine start_ (n := 16) (S := fun w' => w'.cell? ⟨go20, (x8_2).toNat, none⟩ = some (.int .u8 (rd x3_2 x8_2)) ∧ w'.cell? ⟨go20, (x7_2).toNat, none⟩ = some (.int .u8 (rd x3_2 x7_2))) (ds := [13, 15]) #[false, false, false, false, false, false, false, false, false, false, false, false, false, false, false, false] (by kernel_rfl) rfl rfl ⟨hx275_0, hx276_0⟩ (fun hHeld => ?_); refine with_tabW spec_Nat_String.tab16 spec_Nat_String.bits16 (fun HT_ HW_ => ?_)
                        generalize wr.drew = w22 at HO_3 HB GG20 HQ23 HQ24 hf20_0 hf21_0 hx20_0 hx21_0 hx275_0 hx276_0 hHeld ⊢
                        refine pure_ (i := 0) (N := some 54) (v := ?_) (a' := ?_) #[true, false, false, false, false, false, false, false, false, false, false, false, false, false, false, false] rfl rfl (any_of HT_.out (by kernel_rfl)) (fun _ _ _ h => h) (Or.inl ⟨by rfl, ?_⟩) ?_ ?_
                        rotate_left
                        · intro w'
                          go_simp
                          with_reducible rfl
                        rotate_left
                        · simp only [Act.put, List.setIfInBounds_toArray, List.set_cons_zero, List.set_cons_succ, i64_w, i32_w]
                          rfl
                        refine pure_ (i := 1) (N := some 55) (v := ?_) (a' := ?_) #[true, true, false, false, false, false, false, false, false, false, false, false, false, false, false, false] rfl rfl (any_of HT_.out (by kernel_rfl)) (fun _ _ _ h => h) (Or.inl ⟨by rfl, ?_⟩) ?_ ?_
                        rotate_left
                        · intro w'
                          go_simp
                          with_reducible rfl
                        rotate_left
                        · simp only [Act.put, List.setIfInBounds_toArray, List.set_cons_zero, List.set_cons_succ, i64_w, i32_w]
                          rfl
                        refine pure_ (i := 2) (N := some 56) (v := ?_) (a' := ?_) #[true, true, true, false, false, false, false, false, false, false, false, false, false, false, false, false] rfl rfl (any_of HT_.out (by kernel_rfl)) (fun _ _ _ h => h) (Or.inl ⟨by rfl, ?_⟩) ?_ ?_
                        rotate_left
                        · intro w'
                          go_simp
                          with_reducible rfl
                        rotate_left
                        · simp only [Act.put, List.setIfInBounds_toArray, List.set_cons_zero, List.set_cons_succ, i64_w, i32_w]
                          rfl
                        refine pure_ (i := 3) (N := some 57) (v := ?_) (a' := ?_) #[true, true, true, true, false, false, false, false, false, false, false, false, false, false, false, false] rfl rfl (any_of HT_.out (by kernel_rfl)) (fun _ _ _ h => h) (Or.inl ⟨by rfl, ?_⟩) ?_ ?_
                        rotate_left
                        · intro w'
                          go_simp
                          with_reducible rfl
                        rotate_left
                        · simp only [Act.put, List.setIfInBounds_toArray, List.set_cons_zero, List.set_cons_succ, i64_w, i32_w]
                          rfl
                        refine pure_ (i := 4) (N := some 58) (v := ?_) (a' := ?_) #[true, true, true, true, true, false, false, false, false, false, false, false, false, false, false, false] rfl rfl (any_of HT_.out (by kernel_rfl)) (fun _ _ _ h => h) (Or.inl ⟨by rfl, ?_⟩) ?_ ?_
                        rotate_left
                        · intro w'
                          go_simp
                          with_reducible rfl
                        rotate_left
                        · simp only [Act.put, List.setIfInBounds_toArray, List.set_cons_zero, List.set_cons_succ, i64_w, i32_w]
                          rfl
                        refine pure_ (i := 5) (N := some 59) (v := ?_) (a' := ?_) #[true, true, true, true, true, true, false, false, false, false, false, false, false, false, false, false] rfl rfl (any_of HT_.out (by kernel_rfl)) (fun _ _ _ h => h) (Or.inl ⟨by rfl, ?_⟩) ?_ ?_
                        rotate_left
                        · intro w'
                          go_simp
                          with_reducible rfl
                        rotate_left
                        · simp only [Act.put, List.setIfInBounds_toArray, List.set_cons_zero, List.set_cons_succ, i64_w, i32_w]
                          rfl
                        refine pure_ (i := 6) (N := some 60) (v := ?_) (a' := ?_) #[true, true, true, true, true, true, true, false, false, false, false, false, false, false, false, false] rfl rfl (any_of HT_.out (by kernel_rfl)) (fun _ _ _ h => h) (Or.inl ⟨by rfl, ?_⟩) ?_ ?_
                        rotate_left
                        · intro w'
                          go_simp
                          with_reducible rfl
                        rotate_left
                        · simp only [Act.put, List.setIfInBounds_toArray, List.set_cons_zero, List.set_cons_succ, i64_w, i32_w]
                          rfl
                        refine pure_ (i := 8) (N := some 62) (v := ?_) (a' := ?_) #[true, true, true, true, true, true, true, false, true, false, false, false, false, false, false, false] rfl rfl (any_of HT_.out (by kernel_rfl)) (fun _ _ _ h => h) (Or.inl ⟨by rfl, ?_⟩) ?_ ?_
                        rotate_left
                        · intro w'
                          go_simp
                          with_reducible rfl
                        rotate_left
                        · simp only [Act.put, List.setIfInBounds_toArray, List.set_cons_zero, List.set_cons_succ, i64_w, i32_w]
                          rfl
                        refine pure_ (i := 9) (N := some 63) (v := ?_) (a' := ?_) #[true, true, true, true, true, true, true, false, true, true, false, false, false, false, false, false] rfl rfl (any_of HT_.out (by kernel_rfl)) (fun _ _ _ h => h) (Or.inl ⟨by rfl, ?_⟩) ?_ ?_
                        rotate_left
                        · intro w'
                          go_simp
                          with_reducible rfl
                        rotate_left
                        · simp only [Act.put, List.setIfInBounds_toArray, List.set_cons_zero, List.set_cons_succ, i64_w, i32_w]
                          rfl
                        refine pure_ (i := 10) (N := some 64) (v := ?_) (a' := ?_) #[true, true, true, true, true, true, true, false, true, true, true, false, false, false, false, false] rfl rfl (any_of HT_.out (by kernel_rfl)) (fun _ _ _ h => h) (Or.inl ⟨by rfl, ?_⟩) ?_ ?_
                        rotate_left
                        · intro w'
                          go_simp
                          with_reducible rfl
                        rotate_left
                        · simp only [Act.put, List.setIfInBounds_toArray, List.set_cons_zero, List.set_cons_succ, i64_w, i32_w]
                          rfl
                        refine take_ (i := 7) (N := some 61) (v := ?_) (a' := ?_) #[true, true, true, true, true, true, true, true, true, true, true, false, false, false, false, false] rfl rfl (take_ofW HT_.out HW_.out (by kernel_rfl)) (fun _ _ _ h => h) (Or.inl ⟨by rfl, ?_⟩) hHeld ?_ ?_
                        rotate_left
                        · rintro w' ⟨s0, s1⟩
                          go_simp
                          with_reducible rfl
                        rotate_left
                        · simp only [Act.put, List.setIfInBounds_toArray, List.set_cons_zero, List.set_cons_succ, i64_w, i32_w]
                          rfl
                        refine take_ (i := 11) (N := some 65) (v := ?_) (a' := ?_) #[true, true, true, true, true, true, true, true, true, true, true, true, false, false, false, false] rfl rfl (take_ofW HT_.out HW_.out (by kernel_rfl)) (fun _ _ _ h => h) (Or.inl ⟨by rfl, ?_⟩) hHeld ?_ ?_
                        rotate_left
                        · rintro w' ⟨s0, s1⟩
                          go_simp
                          with_reducible rfl
                        rotate_left
                        · simp only [Act.put, List.setIfInBounds_toArray, List.set_cons_zero, List.set_cons_succ, i64_w, i32_w]
                          rfl
                        refine pure_ (i := 12) (N := some 66) (v := ?_) (a' := ?_) #[true, true, true, true, true, true, true, true, true, true, true, true, true, false, false, false] rfl rfl (any_of HT_.out (by kernel_rfl)) (fun _ _ _ h => h) (Or.inl ⟨by rfl, ?_⟩) ?_ ?_
                        rotate_left
                        · intro w'
                          go_simp
                          with_reducible rfl
                        rotate_left
                        · simp only [Act.put, List.setIfInBounds_toArray, List.set_cons_zero, List.set_cons_succ, i64_w, i32_w]
                          rfl
                        refine last_ (i := 13) (N := none) #[true, true, true, true, true, true, true, true, true, true, true, true, true, true, false, false] rfl rfl (one_of HT_.out (by kernel_rfl)) (by decide) (fun K hK => ?_)
                        refine skip_ (w1 := ?_) (by rfl) rfl ?_ ?_
                        rotate_left
                        · go_simp
                          rfl
                        refine hK.out _ _ ?_
                        clear hK K
                        refine pure_ (i := 14) (N := some 67) (v := ?_) (a' := ?_) #[true, true, true, true, true, true, true, true, true, true, true, true, true, true, true, false] rfl rfl (any_of HT_.out (by kernel_rfl)) (fun _ _ _ h => h) (Or.inl ⟨by rfl, ?_⟩) ?_ ?_
                        rotate_left
                        · intro w'
                          go_simp
                          with_reducible rfl
                        rotate_left
                        · simp only [Act.put, List.setIfInBounds_toArray, List.set_cons_zero, List.set_cons_succ, i64_w, i32_w]
                          rfl
                        refine last_ (i := 15) (N := none) #[true, true, true, true, true, true, true, true, true, true, true, true, true, true, true, true] rfl rfl (one_of HT_.out (by kernel_rfl)) (by decide) (fun K hK => ?_)
                        refine skip_ (w1 := ?_) (by rfl) rfl ?_ ?_
                        rotate_left
                        · go_simp
                          rfl
                        refine hK.out _ _ ?_
                        clear hK K
                        refine done_ (done_of HT_.out (by kernel_rfl)) ?_
                        try go_wp2
                        (try simp only [← hl3_2])
                        go_roundg k2
                        case measure => have := HK1.out; have := HK2.out; omega
                        case rel => exact ⟨(y278), (wrap64 (x7_2 + 1)), (wrap64 (x8_2 - 1)), (by first | rfl | (simp; done) | (simp [*]; done)), (by first | rfl | (simp; done) | (simp [*]; done)), H', ⟨by have := HK1.out; have := HK2.out; omega⟩, ⟨by (try simp only [hl3_2]); (with_reducible repeat (first | apply Kd.R_alloc | apply Kd.R_drewN | apply Kd.R_drew)); exact HQ24.out⟩, ⟨by repeat (first | (with_reducible first | exact HB.out | apply below_alloc | apply pw_below_drewN | apply below_drew1 | refine below_set ?_ GB20.out | refine below_set ?_ GB20.out) | exact HB.out)⟩⟩
                      · rw [if_neg c19] at H
                        exact absurd H (by simp)
                    · rw [if_neg c18] at H
                      exact absurd H (by simp)
                  · rw [if_neg c17] at H
                    exact absurd H (by simp)
                · rw [if_neg c16] at H
                  exact absurd H (by simp)
              · rw [if_neg c15] at H
                have c15b0 : decide (x7_2 < x8_2) = false := decide_eq_false c15
                clear c15
                obtain rfl := Option.some.inj H
                have hcv25 := own_string (P := Tryz.prog) Tryz.underlying54 Tryz.underlying5 Tryz.underlying9 (Kd.own_of_R HO_3.out)
                (try rw [hl3_1] at c8b0)
                go_wp2
                go_ret
                exact ⟨by first | rfl | (simp [errW_none, errW_some] <;> rfl) | (simp [*, errW_none, errW_some] <;> rfl), by repeat (first | (with_reducible first | exact HB.out | apply below_alloc | apply pw_below_drewN | apply below_drew1) | exact HB.out)⟩


end Go.Proofs.YtghabdpbacgicaaGreatDoor.S
