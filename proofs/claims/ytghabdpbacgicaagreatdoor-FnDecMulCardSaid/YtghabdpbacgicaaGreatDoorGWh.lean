/-
  CONTRACTS: impl_ZzWhole2. (Began as print.sh's text over a scratch copy; turned by wip/tools/transplant.py and by hand.)
-/
import Derived.Test.YtghabdpbacgicaaGreatDoorS0
import Derived.Test.YtghabdpbacgicaaGreatDoorTI
import Derived.Test.YtghabdpbacgicaaGreatDoorGInt
namespace Go.Proofs.YtghabdpbacgicaaGreatDoor.S
open Go.Proofs.YtghabdpbacgicaaGreatDoor.G Go.RowKit Go.Proofs.YtghabdpbacgicaaGreatDoorW.PrintWords Go.Proofs.YtghabdpbacgicaaGreatDoorW.PrintLast Go.Proofs.YtghabdpbacgicaaGreatDoorW.PrintMore
attribute [local go_sem] max2_int min2_int max_two min_two max_three min_three max_four min_four
set_option linter.unusedVariables false
set_option linter.unusedSimpArgs false

/-! ### impl_whole -/

mutual
def impl_whole.j0 : Nat → ByteArray → Bool → Option (List Int × Bool)
  | 0, _, _ => none
  | k + 1, x0, x4 => if x4 = true then (if 1 ≤ (x0.size : Int) then (impl_whole.j1 k (x0.extract 1 x0.size) x4) else (none)) else (impl_whole.j1 k x0 x4)
def impl_whole.j1 : Nat → ByteArray → Bool → Option (List Int × Bool)
  | 0, _, _ => none
  | k + 1, x0, x4 => if (x0.size : Int) = 0 then (impl_whole.j2 k x0 x4 true) else (if (x0.size : Int) > 400 then (impl_whole.j2 k x0 x4 true) else (if 0 < (x0.size : Int) then (if (bt x0 0) = 48 then (if (x0.size : Int) > 1 then (impl_whole.j2 k x0 x4 true) else (impl_whole.j2 k x0 x4 x4)) else (impl_whole.j2 k x0 x4 false)) else (none)))
def impl_whole.j2 : Nat → ByteArray → Bool → Bool → Option (List Int × Bool)
  | 0, _, _, _ => none
  | k + 1, x0, x4, x44 => if x44 = true then (none) else (impl_whole.l0 k x0 x4 ([] : List Int) 0)
def impl_whole.l0 : Nat → ByteArray → Bool → List Int → Int → Option (List Int × Bool)
  | 0, _, _, _, _ => none
  | k + 1, x0, x4, x5, x6 => if x6 < (x0.size : Int) then (impl_whole.l1 k x0 x4 x5 x6 0 1) else (impl_whole.l3 k x4 x5 ([] : List Int) (x5.length : Int) 0)
def impl_whole.l1 : Nat → ByteArray → Bool → List Int → Int → Int → Int → Option (List Int × Bool)
  | 0, _, _, _, _, _, _ => none
  | k + 1, x0, x4, x5, x6, x7, x8 => if x6 < (x0.size : Int) then (impl_whole.j5 k x0 x4 x5 x6 x7 x8 (decide (x8 < 1000000000))) else (impl_whole.j5 k x0 x4 x5 x6 x7 x8 false)
def impl_whole.j5 : Nat → ByteArray → Bool → List Int → Int → Int → Int → Bool → Option (List Int × Bool)
  | 0, _, _, _, _, _, _, _ => none
  | k + 1, x0, x4, x5, x6, x7, x8, x56 => if x56 = true then (if 0 ≤ x6 then (if x6 < (x0.size : Int) then (if (bt x0 x6) < 48 then (none) else (if (bt x0 x6) > 57 then (none) else (impl_whole.l1 k x0 x4 x5 (wrap64 (x6 + 1)) (IntKind.u64.wrap ((IntKind.u64.wrap (x7 * 10)) + (((bt x0 x6) - 48) % 256))) (IntKind.u64.wrap (x8 * 10))))) else (none)) else (none)) else (impl_whole.l2 k x0 x4 x5 x6 x7 x8 (x5.length : Int) 0)
def impl_whole.l2 : Nat → ByteArray → Bool → List Int → Int → Int → Int → Int → Int → Option (List Int × Bool)
  | 0, _, _, _, _, _, _, _, _ => none
  | k + 1, x0, x4, x5, x6, x7, x8, x80, x81 => if x81 < x80 then (if 0 ≤ x81 then (if x81 < (x5.length : Int) then (impl_whole.l2 k x0 x4 (x5.set (x81 : Int).toNat (Go.bits .and .u64 (IntKind.u64.wrap (x7 + (IntKind.u64.wrap ((rd x5 x81) * x8)))) 4294967295)) x6 ((IntKind.u64.wrap (x7 + (IntKind.u64.wrap ((rd x5 x81) * x8)))) / 4294967296) x8 x80 (wrap64 (x81 + 1))) else (none)) else (none)) else (if x7 > 0 then (if x5.length < 17592186044416 then (impl_whole.l0 k x0 x4 (x5 ++ [x7]) x6) else (none)) else (impl_whole.l0 k x0 x4 x5 x6))
def impl_whole.l3 : Nat → Bool → List Int → List Int → Int → Int → Option (List Int × Bool)
  | 0, _, _, _, _, _ => none
  | k + 1, x4, x5, x10, x107, x108 => if x108 < x107 then (if (Int.tmod x108 2) = 0 then (if 0 ≤ x108 then (if x108 < (x5.length : Int) then (if x10.length < 17592186044416 then (impl_whole.l3 k x4 x5 (x10 ++ [rd x5 x108]) x107 (wrap64 (x108 + 1))) else (none)) else (none)) else (none)) else (if 0 ≤ (wrap64 (Int.tdiv x108 2)) then (if (wrap64 (Int.tdiv x108 2)) < (x10.length : Int) then (if 0 ≤ x108 then (if x108 < (x5.length : Int) then (impl_whole.l3 k x4 x5 (x10.set ((wrap64 (Int.tdiv x108 2)) : Int).toNat (Go.bits .or .u64 (rd x10 (wrap64 (Int.tdiv x108 2))) (IntKind.u64.wrap ((rd x5 x108) * 4294967296)))) x107 (wrap64 (x108 + 1))) else (none)) else (none)) else (none)) else (none))) else (if x4 = true then (some (x10, true)) else (some (x10, false)))
end
def impl_whole.f (k : Nat) (a0 : ByteArray) : Option (List Int × Bool) := if (a0.size : Int) > 0 then (if 0 < (a0.size : Int) then (impl_whole.j0 k a0 ((bt a0 0) == 45)) else (none)) else (impl_whole.j0 k a0 false)
theorem impl_whole.mono_l : ∀ k, (∀ y0 y1, LeO (impl_whole.j0 k y0 y1) (impl_whole.j0 (k + 1) y0 y1)) ∧ (∀ y0 y1, LeO (impl_whole.j1 k y0 y1) (impl_whole.j1 (k + 1) y0 y1)) ∧ (∀ y0 y1 y2, LeO (impl_whole.j2 k y0 y1 y2) (impl_whole.j2 (k + 1) y0 y1 y2)) ∧ (∀ y0 y1 y2 y3, LeO (impl_whole.l0 k y0 y1 y2 y3) (impl_whole.l0 (k + 1) y0 y1 y2 y3)) ∧ (∀ y0 y1 y2 y3 y4 y5, LeO (impl_whole.l1 k y0 y1 y2 y3 y4 y5) (impl_whole.l1 (k + 1) y0 y1 y2 y3 y4 y5)) ∧ (∀ y0 y1 y2 y3 y4 y5 y6, LeO (impl_whole.j5 k y0 y1 y2 y3 y4 y5 y6) (impl_whole.j5 (k + 1) y0 y1 y2 y3 y4 y5 y6)) ∧ (∀ y0 y1 y2 y3 y4 y5 y6 y7, LeO (impl_whole.l2 k y0 y1 y2 y3 y4 y5 y6 y7) (impl_whole.l2 (k + 1) y0 y1 y2 y3 y4 y5 y6 y7)) ∧ (∀ y0 y1 y2 y3 y4, LeO (impl_whole.l3 k y0 y1 y2 y3 y4) (impl_whole.l3 (k + 1) y0 y1 y2 y3 y4))
  | 0 => ⟨fun _ _ r h => by simp [impl_whole.j0] at h, fun _ _ r h => by simp [impl_whole.j1] at h, fun _ _ _ r h => by simp [impl_whole.j2] at h, fun _ _ _ _ r h => by simp [impl_whole.l0] at h, fun _ _ _ _ _ _ r h => by simp [impl_whole.l1] at h, fun _ _ _ _ _ _ _ r h => by simp [impl_whole.j5] at h, fun _ _ _ _ _ _ _ _ r h => by simp [impl_whole.l2] at h, fun _ _ _ _ _ r h => by simp [impl_whole.l3] at h⟩
  | k + 1 => by
    obtain ⟨ih0, ih1, ih2, ih3, ih4, ih5, ih6, ih7⟩ := impl_whole.mono_l k
    refine ⟨?_, ?_, ?_, ?_, ?_, ?_, ?_, ?_⟩
    · intro y0 y1
      unfold impl_whole.j0
      repeat' first
      | (with_reducible exact ih0 _ _)
      | (with_reducible exact ih1 _ _)
      | (with_reducible exact ih2 _ _ _)
      | (with_reducible exact ih3 _ _ _ _)
      | (with_reducible exact ih4 _ _ _ _ _ _)
      | (with_reducible exact ih5 _ _ _ _ _ _ _)
      | (with_reducible exact ih6 _ _ _ _ _ _ _ _)
      | (with_reducible exact ih7 _ _ _ _ _)
      | (with_reducible exact LeO.refl _)
      | (with_reducible exact LeO.none _)
      | (with_reducible refine LeO.ite ?_ ?_)
      | (with_reducible refine LeO.bind ?_ (fun _ => ?_))
      | exact ih0 _ _
      | exact ih1 _ _
      | exact ih2 _ _ _
      | exact ih3 _ _ _ _
      | exact ih4 _ _ _ _ _ _
      | exact ih5 _ _ _ _ _ _ _
      | exact ih6 _ _ _ _ _ _ _ _
      | exact ih7 _ _ _ _ _
      | exact LeO.none _
      | refine LeO.ite ?_ ?_
      | refine LeO.bind ?_ (fun _ => ?_)
    · intro y0 y1
      unfold impl_whole.j1
      repeat' first
      | (with_reducible exact ih0 _ _)
      | (with_reducible exact ih1 _ _)
      | (with_reducible exact ih2 _ _ _)
      | (with_reducible exact ih3 _ _ _ _)
      | (with_reducible exact ih4 _ _ _ _ _ _)
      | (with_reducible exact ih5 _ _ _ _ _ _ _)
      | (with_reducible exact ih6 _ _ _ _ _ _ _ _)
      | (with_reducible exact ih7 _ _ _ _ _)
      | (with_reducible exact LeO.refl _)
      | (with_reducible exact LeO.none _)
      | (with_reducible refine LeO.ite ?_ ?_)
      | (with_reducible refine LeO.bind ?_ (fun _ => ?_))
      | exact ih0 _ _
      | exact ih1 _ _
      | exact ih2 _ _ _
      | exact ih3 _ _ _ _
      | exact ih4 _ _ _ _ _ _
      | exact ih5 _ _ _ _ _ _ _
      | exact ih6 _ _ _ _ _ _ _ _
      | exact ih7 _ _ _ _ _
      | exact LeO.none _
      | refine LeO.ite ?_ ?_
      | refine LeO.bind ?_ (fun _ => ?_)
    · intro y0 y1 y2
      unfold impl_whole.j2
      repeat' first
      | (with_reducible exact ih0 _ _)
      | (with_reducible exact ih1 _ _)
      | (with_reducible exact ih2 _ _ _)
      | (with_reducible exact ih3 _ _ _ _)
      | (with_reducible exact ih4 _ _ _ _ _ _)
      | (with_reducible exact ih5 _ _ _ _ _ _ _)
      | (with_reducible exact ih6 _ _ _ _ _ _ _ _)
      | (with_reducible exact ih7 _ _ _ _ _)
      | (with_reducible exact LeO.refl _)
      | (with_reducible exact LeO.none _)
      | (with_reducible refine LeO.ite ?_ ?_)
      | (with_reducible refine LeO.bind ?_ (fun _ => ?_))
      | exact ih0 _ _
      | exact ih1 _ _
      | exact ih2 _ _ _
      | exact ih3 _ _ _ _
      | exact ih4 _ _ _ _ _ _
      | exact ih5 _ _ _ _ _ _ _
      | exact ih6 _ _ _ _ _ _ _ _
      | exact ih7 _ _ _ _ _
      | exact LeO.none _
      | refine LeO.ite ?_ ?_
      | refine LeO.bind ?_ (fun _ => ?_)
    · intro y0 y1 y2 y3
      unfold impl_whole.l0
      repeat' first
      | (with_reducible exact ih0 _ _)
      | (with_reducible exact ih1 _ _)
      | (with_reducible exact ih2 _ _ _)
      | (with_reducible exact ih3 _ _ _ _)
      | (with_reducible exact ih4 _ _ _ _ _ _)
      | (with_reducible exact ih5 _ _ _ _ _ _ _)
      | (with_reducible exact ih6 _ _ _ _ _ _ _ _)
      | (with_reducible exact ih7 _ _ _ _ _)
      | (with_reducible exact LeO.refl _)
      | (with_reducible exact LeO.none _)
      | (with_reducible refine LeO.ite ?_ ?_)
      | (with_reducible refine LeO.bind ?_ (fun _ => ?_))
      | exact ih0 _ _
      | exact ih1 _ _
      | exact ih2 _ _ _
      | exact ih3 _ _ _ _
      | exact ih4 _ _ _ _ _ _
      | exact ih5 _ _ _ _ _ _ _
      | exact ih6 _ _ _ _ _ _ _ _
      | exact ih7 _ _ _ _ _
      | exact LeO.none _
      | refine LeO.ite ?_ ?_
      | refine LeO.bind ?_ (fun _ => ?_)
    · intro y0 y1 y2 y3 y4 y5
      unfold impl_whole.l1
      repeat' first
      | (with_reducible exact ih0 _ _)
      | (with_reducible exact ih1 _ _)
      | (with_reducible exact ih2 _ _ _)
      | (with_reducible exact ih3 _ _ _ _)
      | (with_reducible exact ih4 _ _ _ _ _ _)
      | (with_reducible exact ih5 _ _ _ _ _ _ _)
      | (with_reducible exact ih6 _ _ _ _ _ _ _ _)
      | (with_reducible exact ih7 _ _ _ _ _)
      | (with_reducible exact LeO.refl _)
      | (with_reducible exact LeO.none _)
      | (with_reducible refine LeO.ite ?_ ?_)
      | (with_reducible refine LeO.bind ?_ (fun _ => ?_))
      | exact ih0 _ _
      | exact ih1 _ _
      | exact ih2 _ _ _
      | exact ih3 _ _ _ _
      | exact ih4 _ _ _ _ _ _
      | exact ih5 _ _ _ _ _ _ _
      | exact ih6 _ _ _ _ _ _ _ _
      | exact ih7 _ _ _ _ _
      | exact LeO.none _
      | refine LeO.ite ?_ ?_
      | refine LeO.bind ?_ (fun _ => ?_)
    · intro y0 y1 y2 y3 y4 y5 y6
      unfold impl_whole.j5
      repeat' first
      | (with_reducible exact ih0 _ _)
      | (with_reducible exact ih1 _ _)
      | (with_reducible exact ih2 _ _ _)
      | (with_reducible exact ih3 _ _ _ _)
      | (with_reducible exact ih4 _ _ _ _ _ _)
      | (with_reducible exact ih5 _ _ _ _ _ _ _)
      | (with_reducible exact ih6 _ _ _ _ _ _ _ _)
      | (with_reducible exact ih7 _ _ _ _ _)
      | (with_reducible exact LeO.refl _)
      | (with_reducible exact LeO.none _)
      | (with_reducible refine LeO.ite ?_ ?_)
      | (with_reducible refine LeO.bind ?_ (fun _ => ?_))
      | exact ih0 _ _
      | exact ih1 _ _
      | exact ih2 _ _ _
      | exact ih3 _ _ _ _
      | exact ih4 _ _ _ _ _ _
      | exact ih5 _ _ _ _ _ _ _
      | exact ih6 _ _ _ _ _ _ _ _
      | exact ih7 _ _ _ _ _
      | exact LeO.none _
      | refine LeO.ite ?_ ?_
      | refine LeO.bind ?_ (fun _ => ?_)
    · intro y0 y1 y2 y3 y4 y5 y6 y7
      unfold impl_whole.l2
      repeat' first
      | (with_reducible exact ih0 _ _)
      | (with_reducible exact ih1 _ _)
      | (with_reducible exact ih2 _ _ _)
      | (with_reducible exact ih3 _ _ _ _)
      | (with_reducible exact ih4 _ _ _ _ _ _)
      | (with_reducible exact ih5 _ _ _ _ _ _ _)
      | (with_reducible exact ih6 _ _ _ _ _ _ _ _)
      | (with_reducible exact ih7 _ _ _ _ _)
      | (with_reducible exact LeO.refl _)
      | (with_reducible exact LeO.none _)
      | (with_reducible refine LeO.ite ?_ ?_)
      | (with_reducible refine LeO.bind ?_ (fun _ => ?_))
      | exact ih0 _ _
      | exact ih1 _ _
      | exact ih2 _ _ _
      | exact ih3 _ _ _ _
      | exact ih4 _ _ _ _ _ _
      | exact ih5 _ _ _ _ _ _ _
      | exact ih6 _ _ _ _ _ _ _ _
      | exact ih7 _ _ _ _ _
      | exact LeO.none _
      | refine LeO.ite ?_ ?_
      | refine LeO.bind ?_ (fun _ => ?_)
    · intro y0 y1 y2 y3 y4
      unfold impl_whole.l3
      repeat' first
      | (with_reducible exact ih0 _ _)
      | (with_reducible exact ih1 _ _)
      | (with_reducible exact ih2 _ _ _)
      | (with_reducible exact ih3 _ _ _ _)
      | (with_reducible exact ih4 _ _ _ _ _ _)
      | (with_reducible exact ih5 _ _ _ _ _ _ _)
      | (with_reducible exact ih6 _ _ _ _ _ _ _ _)
      | (with_reducible exact ih7 _ _ _ _ _)
      | (with_reducible exact LeO.refl _)
      | (with_reducible exact LeO.none _)
      | (with_reducible refine LeO.ite ?_ ?_)
      | (with_reducible refine LeO.bind ?_ (fun _ => ?_))
      | exact ih0 _ _
      | exact ih1 _ _
      | exact ih2 _ _ _
      | exact ih3 _ _ _ _
      | exact ih4 _ _ _ _ _ _
      | exact ih5 _ _ _ _ _ _ _
      | exact ih6 _ _ _ _ _ _ _ _
      | exact ih7 _ _ _ _ _
      | exact LeO.none _
      | refine LeO.ite ?_ ?_
      | refine LeO.bind ?_ (fun _ => ?_)
theorem impl_whole.mono : ∀ a0 k, LeO (impl_whole.f k a0) (impl_whole.f (k + 1) a0) := by
  intro a0 k
  obtain ⟨ih0, ih1, ih2, ih3, ih4, ih5, ih6, ih7⟩ := impl_whole.mono_l k
  unfold impl_whole.f
  repeat' first
      | (with_reducible exact ih0 _ _)
      | (with_reducible exact ih1 _ _)
      | (with_reducible exact ih2 _ _ _)
      | (with_reducible exact ih3 _ _ _ _)
      | (with_reducible exact ih4 _ _ _ _ _ _)
      | (with_reducible exact ih5 _ _ _ _ _ _ _)
      | (with_reducible exact ih6 _ _ _ _ _ _ _ _)
      | (with_reducible exact ih7 _ _ _ _ _)
      | (with_reducible exact LeO.refl _)
      | (with_reducible exact LeO.none _)
      | (with_reducible refine LeO.ite ?_ ?_)
      | (with_reducible refine LeO.bind ?_ (fun _ => ?_))
      | exact ih0 _ _
      | exact ih1 _ _
      | exact ih2 _ _ _
      | exact ih3 _ _ _ _
      | exact ih4 _ _ _ _ _ _
      | exact ih5 _ _ _ _ _ _ _
      | exact ih6 _ _ _ _ _ _ _ _
      | exact ih7 _ _ _ _ _
      | exact LeO.none _
      | refine LeO.ite ?_ ?_
      | refine LeO.bind ?_ (fun _ => ?_)
def impl_whole.T30 : Bool × List (List Nat × List Nat) := (true, [([], []), ([], []), ([1], [1]), ([0, 2], [0, 2]), ([3], [3]), ([], []), ([], []), ([5, 6], [5, 6]), ([7], [7]), ([8], [8]), ([4, 9], [4, 9]), ([0, 2, 0, 1, 2, 3, 4, 5, 6, 7, 8, 9, 10], [0, 2]), ([11, 10, 0, 1, 2, 3, 4, 5, 6, 7, 8, 9, 10], [10, 11])])
def impl_whole.B30 : List Nat := [0, 0, 2, 7, 15, 0, 0, 96, 224, 480, 1023, 2047, 4095]
theorem impl_whole.tab30 : rtab .any (opsOf Tryz.f21 30) = impl_whole.T30 := by kernel_rfl
theorem impl_whole.bits30 : waitsOk impl_whole.T30.2 impl_whole.B30 = true := by kernel_rfl
set_option maxHeartbeats 8000000 in
set_option maxRecDepth 100000 in
theorem impl_whole.calls (k : Nat) (a0 : ByteArray) (r1 : List Int) (r2 : Bool) (w : World) (h : impl_whole.f k a0 = some (r1, r2)) (k2 : Nat) (l' : List Int) (hn : bigall_nat_norm.f k2 r1 = some l') :
    Calls Tryz.prog 21 #[.string a0] w fun e w' => ∃ g, e = .returned (.tuple #[.pointer (some ⟨g, 0, none⟩), .bool true]) ∧ w.heap.size ≤ g ∧ IntAt w' w.heap.size g (decide (0 < l'.length) && r2) l' ∧ Below w.heap.size w w' := by
  have HNm := Aside0.mk hn
  clear hn
  have HB := Aside0.mk (Below.refl w.heap.size w)
  have H : (if (a0.size : Int) > 0 then (if 0 < (a0.size : Int) then (impl_whole.j0 k a0 ((bt a0 0) == 45)) else (none)) else (impl_whole.j0 k a0 false)) = some (r1, r2) := h
  clear h
  have HC2 := Aside0.mk H
  clear H
  go_enter Tryz.func21, Tryz.ntmps21
  go_upto_region 1 with (fail)
  go_cut [4] (fun v4 wc => ∃ (kq : Nat) (x4_1 : Bool), v4 = .bool x4_1 ∧ Aside0 (impl_whole.j0 kq a0 x4_1 = some (r1, r2)) ∧ Aside0 (kq ≤ k) ∧ Aside0 (Below w.heap.size w wc))
  case first =>
    have H := HC2.out
    clear HC2
    by_cases c3 : (a0.size : Int) > 0
    · rw [if_pos c3] at H
      have c3b0 : decide (0 < (a0.size : Int)) = true := decide_eq_true c3
      have c3b1 : decide (0 < a0.size) = true := decide_eq_true (by omega)
      clear c3
      (first | rw [c3b0] | (simp only [i64_w, i32_w]; rw [c3b0]) | skip)
      by_cases c4 : 0 < (a0.size : Int)
      · rw [if_pos c4] at H
        have c4b0 : decide (0 < (a0.size : Int)) = true := decide_eq_true c4
        have c4b1 : decide (0 < a0.size) = true := decide_eq_true (by omega)
        clear c4
        have H' := Aside0.mk H
        clear H
        have p5 : 0 ≤ (0 : Int) := (by omega)
        have q5 : 0 < a0.size := (by have : (0 : Int) < (a0.size : Int) := of_decide_eq_true (by first | (with_reducible assumption) | assumption); omega)
        have hx5 : ∀ h : 0 < a0.size, ((a0[0]'h).toNat : Int) = bt a0 0 := bt_at a0 0
        clear p5
        have qi5 : (0 < (a0.size : Int)) = True := eq_true (of_decide_eq_true (by first | (with_reducible assumption) | assumption))
        replace q5 := eq_true q5
        go_wp2
        go_meet
        case rel => exact ⟨_, (((bt a0 0) == 45)), (by first | rfl | (simp; done) | (simp [*]; done)), H', ⟨by first | omega | exact Nat.le_refl _⟩, ⟨by repeat (first | (with_reducible first | exact HB.out | apply below_alloc | apply pw_below_drewN | apply below_drew1) | exact HB.out)⟩⟩
      · rw [if_neg c4] at H
        exact absurd H (by simp)
    · rw [if_neg c3] at H
      have c3b0 : decide (0 < (a0.size : Int)) = false := decide_eq_false c3
      have c3b1 : decide (0 < a0.size) = false := decide_eq_false (by omega)
      clear c3
      (first | rw [c3b0] | (simp only [i64_w, i32_w]; rw [c3b0]) | skip)
      have H' := Aside0.mk H
      clear H
      go_wp2
      go_meet
      case rel => exact ⟨_, (false), (by first | rfl | (simp; done) | (simp [*]; done)), H', ⟨by first | omega | exact Nat.le_refl _⟩, ⟨by repeat (first | (with_reducible first | exact HB.out | apply below_alloc | apply pw_below_drewN | apply below_drew1) | exact HB.out)⟩⟩
  case rest =>
    clear HC2
    try clear p2
    try clear c3
    try clear c3b0
    try clear c3b1
    try clear c4
    try clear c4b0
    try clear c4b1
    try clear c5
    try clear p5
    try clear q5
    try clear hx5
    try clear qi5
    try clear p5
    try clear q5
    obtain ⟨kq, x4_1, rfl, HA, HJ1, HB⟩ := hcut
    cases kq with
    | zero => exact absurd HA.out (by simp [impl_whole.j0])
    | succ kj1 =>
      have H := HA.out
      clear HA
      simp only [impl_whole.j0] at H
      have HC6 := Aside0.mk H
      clear H
      go_upto_if 21 with (fail)
      go_cut [0] (fun v0 wc => ∃ (kq : Nat) (x0_5 : ByteArray), v0 = .string x0_5 ∧ Aside0 (impl_whole.j1 kq x0_5 x4_1 = some (r1, r2)) ∧ Aside0 (kq ≤ kj1) ∧ Aside0 (Below w.heap.size w wc))
      case first =>
        have H := HC6.out
        clear HC6
        by_cases c7 : x4_1 = true
        · subst c7
          have H1 : (if 1 ≤ (a0.size : Int) then (impl_whole.j1 kj1 (a0.extract 1 a0.size) true) else (none)) = some (r1, r2) := by rw [if_pos rfl] at H; exact H
          clear H
          have H := H1
          clear H1
          by_cases c8 : 1 ≤ (a0.size : Int)
          · rw [if_pos c8] at H
            have c8b0 := eq_true c8
            have c8b1 : decide (1 ≤ (a0.size : Int)) = true := decide_eq_true c8
            clear c8
            have H' := Aside0.mk H
            clear H
            go_wp2
            go_meet
            case rel => exact ⟨_, (a0.extract 1 a0.size), (by first | rfl | (simp; done) | (simp [*]; done)), H', ⟨by have := HJ1.out; first | omega | exact Nat.le_refl _⟩, ⟨by repeat (first | (with_reducible first | exact HB.out | apply below_alloc | apply pw_below_drewN | apply below_drew1) | exact HB.out)⟩⟩
          · rw [if_neg c8] at H
            exact absurd H (by simp)
        · replace c7 := Bool.eq_false_iff.mpr c7
          subst c7
          have H1 : (impl_whole.j1 kj1 a0 false) = some (r1, r2) := by rw [if_neg (show ¬ (false = true) by decide)] at H; exact H
          clear H
          have H := H1
          clear H1
          have H' := Aside0.mk H
          clear H
          go_wp2
          go_meet
          case rel => exact ⟨_, (a0), (by first | rfl | (simp; done) | (simp [*]; done)), H', ⟨by have := HJ1.out; first | omega | exact Nat.le_refl _⟩, ⟨by repeat (first | (with_reducible first | exact HB.out | apply below_alloc | apply pw_below_drewN | apply below_drew1) | exact HB.out)⟩⟩
      case rest =>
        clear HC6
        try clear p2
        try clear c3
        try clear c3b0
        try clear c3b1
        try clear c4
        try clear c4b0
        try clear c4b1
        try clear c5
        try clear p5
        try clear q5
        try clear hx5
        try clear qi5
        try clear c7
        try clear c8
        try clear c8b0
        try clear c8b1
        try clear p2
        try clear p5
        try clear q5
        obtain ⟨kq, x0_5, rfl, HA, HJ5, HB⟩ := hcut
        cases kq with
        | zero => exact absurd HA.out (by simp [impl_whole.j1])
        | succ kj5 =>
          have H := HA.out
          clear HA
          simp only [impl_whole.j1] at H
          have HC9 := Aside0.mk H
          clear H
          go_upto_region 4 with (fail)
          go_cut [44] (fun v44 wc => ∃ (kq : Nat) (x44_8 : Bool), v44 = .bool x44_8 ∧ Aside0 (impl_whole.j2 kq x0_5 x4_1 x44_8 = some (r1, r2)) ∧ Aside0 (kq ≤ kj5) ∧ Aside0 (Below w.heap.size w wc))
          case first =>
            have H := HC9.out
            clear HC9
            by_cases c10 : (x0_5.size : Int) = 0
            · rw [if_pos c10] at H
              have c10b0 : ((x0_5.size : Int) == 0) = true := beq_iff_eq.mpr c10
              have c10b1 : ((x0_5.size : Int) != 0) = false := bne_eq_false_iff_eq.mpr c10
              clear c10
              (first | rw [c10b0] | (simp only [i64_w, i32_w]; rw [c10b0]) | skip)
              have H' := Aside0.mk H
              clear H
              go_wp2
              go_meet
              case rel => exact ⟨_, (true), (by first | rfl | (simp; done) | (simp [*]; done)), H', ⟨by have := HJ1.out; have := HJ5.out; first | omega | exact Nat.le_refl _⟩, ⟨by repeat (first | (with_reducible first | exact HB.out | apply below_alloc | apply pw_below_drewN | apply below_drew1) | exact HB.out)⟩⟩
            · rw [if_neg c10] at H
              have c10b0 : ((x0_5.size : Int) == 0) = false := beq_eq_false_iff_ne.mpr c10
              have c10b1 : ((x0_5.size : Int) != 0) = true := bne_iff_ne.mpr c10
              (first | rw [c10b0] | (simp only [i64_w, i32_w]; rw [c10b0]) | skip)
              by_cases c11 : (x0_5.size : Int) > 400
              · rw [if_pos c11] at H
                have c11b0 : decide (400 < (x0_5.size : Int)) = true := decide_eq_true c11
                have c11b1 : decide (400 < x0_5.size) = true := decide_eq_true (by omega)
                clear c11
                have H' := Aside0.mk H
                clear H
                go_wp2
                go_meet
                case rel => exact ⟨_, (true), (by first | rfl | (simp; done) | (simp [*]; done)), H', ⟨by have := HJ1.out; have := HJ5.out; first | omega | exact Nat.le_refl _⟩, ⟨by repeat (first | (with_reducible first | exact HB.out | apply below_alloc | apply pw_below_drewN | apply below_drew1) | exact HB.out)⟩⟩
              · rw [if_neg c11] at H
                have c11b0 : decide (400 < (x0_5.size : Int)) = false := decide_eq_false c11
                have c11b1 : decide (400 < x0_5.size) = false := decide_eq_false (by omega)
                clear c11
                by_cases c12 : 0 < (x0_5.size : Int)
                · rw [if_pos c12] at H
                  have c12b0 : decide (0 < (x0_5.size : Int)) = true := decide_eq_true c12
                  have c12b1 : decide (0 < x0_5.size) = true := decide_eq_true (by omega)
                  clear c12
                  by_cases c14 : (bt x0_5 0) = 48
                  · rw [if_pos c14] at H
                    have c14b0 : ((bt x0_5 0) == 48) = true := beq_iff_eq.mpr c14
                    have c14b1 : ((bt x0_5 0) != 48) = false := bne_eq_false_iff_eq.mpr c14
                    clear c14
                    by_cases c15 : (x0_5.size : Int) > 1
                    · rw [if_pos c15] at H
                      have c15b0 : decide (1 < (x0_5.size : Int)) = true := decide_eq_true c15
                      have c15b1 : decide (1 < x0_5.size) = true := decide_eq_true (by omega)
                      clear c15
                      have H' := Aside0.mk H
                      clear H
                      have p13 : 0 ≤ (0 : Int) := (by omega)
                      have q13 : 0 < x0_5.size := (by have : (0 : Int) < (x0_5.size : Int) := of_decide_eq_true (by first | (with_reducible assumption) | assumption); omega)
                      have hx13 : ∀ h : 0 < x0_5.size, ((x0_5[0]'h).toNat : Int) = bt x0_5 0 := bt_at x0_5 0
                      clear p13
                      have qi13 : (0 < (x0_5.size : Int)) = True := eq_true (of_decide_eq_true (by first | (with_reducible assumption) | assumption))
                      replace q13 := eq_true q13
                      go_wp2
                      go_meet
                      case rel => exact ⟨_, (true), (by first | rfl | (simp; done) | (simp [*]; done)), H', ⟨by have := HJ1.out; have := HJ5.out; first | omega | exact Nat.le_refl _⟩, ⟨by repeat (first | (with_reducible first | exact HB.out | apply below_alloc | apply pw_below_drewN | apply below_drew1) | exact HB.out)⟩⟩
                    · rw [if_neg c15] at H
                      have c15b0 : decide (1 < (x0_5.size : Int)) = false := decide_eq_false c15
                      have c15b1 : decide (1 < x0_5.size) = false := decide_eq_false (by omega)
                      clear c15
                      have H' := Aside0.mk H
                      clear H
                      have p13 : 0 ≤ (0 : Int) := (by omega)
                      have q13 : 0 < x0_5.size := (by have : (0 : Int) < (x0_5.size : Int) := of_decide_eq_true (by first | (with_reducible assumption) | assumption); omega)
                      have hx13 : ∀ h : 0 < x0_5.size, ((x0_5[0]'h).toNat : Int) = bt x0_5 0 := bt_at x0_5 0
                      clear p13
                      have qi13 : (0 < (x0_5.size : Int)) = True := eq_true (of_decide_eq_true (by first | (with_reducible assumption) | assumption))
                      replace q13 := eq_true q13
                      go_wp2
                      go_meet
                      case rel => exact ⟨_, (x4_1), (by first | rfl | (simp; done) | (simp [*]; done)), H', ⟨by have := HJ1.out; have := HJ5.out; first | omega | exact Nat.le_refl _⟩, ⟨by repeat (first | (with_reducible first | exact HB.out | apply below_alloc | apply pw_below_drewN | apply below_drew1) | exact HB.out)⟩⟩
                  · rw [if_neg c14] at H
                    have c14b0 : ((bt x0_5 0) == 48) = false := beq_eq_false_iff_ne.mpr c14
                    have c14b1 : ((bt x0_5 0) != 48) = true := bne_iff_ne.mpr c14
                    have H' := Aside0.mk H
                    clear H
                    have p13 : 0 ≤ (0 : Int) := (by omega)
                    have q13 : 0 < x0_5.size := (by have : (0 : Int) < (x0_5.size : Int) := of_decide_eq_true (by first | (with_reducible assumption) | assumption); omega)
                    have hx13 : ∀ h : 0 < x0_5.size, ((x0_5[0]'h).toNat : Int) = bt x0_5 0 := bt_at x0_5 0
                    clear p13
                    have qi13 : (0 < (x0_5.size : Int)) = True := eq_true (of_decide_eq_true (by first | (with_reducible assumption) | assumption))
                    replace q13 := eq_true q13
                    go_wp2
                    go_meet
                    case rel => exact ⟨_, (false), (by first | rfl | (simp; done) | (simp [*]; done)), H', ⟨by have := HJ1.out; have := HJ5.out; first | omega | exact Nat.le_refl _⟩, ⟨by repeat (first | (with_reducible first | exact HB.out | apply below_alloc | apply pw_below_drewN | apply below_drew1) | exact HB.out)⟩⟩
                · rw [if_neg c12] at H
                  exact absurd H (by simp)
          case rest =>
            clear HC9
            try clear c1
            try clear p1
            try clear q1
            try clear hx1
            try clear qi1
            try clear p2
            try clear c3
            try clear c3b0
            try clear c3b1
            try clear c4
            try clear c4b0
            try clear c4b1
            try clear c5
            try clear p5
            try clear q5
            try clear hx5
            try clear qi5
            try clear c7
            try clear c8
            try clear c8b0
            try clear c8b1
            try clear c10
            try clear c10b0
            try clear c10b1
            try clear c11
            try clear c11b0
            try clear c11b1
            try clear c12
            try clear c12b0
            try clear c12b1
            try clear p13
            try clear q13
            try clear hx13
            try clear qi13
            try clear c14
            try clear c14b0
            try clear c14b1
            try clear c15
            try clear c15b0
            try clear c15b1
            try clear p13
            try clear p2
            try clear p5
            try clear q13
            try clear q5
            obtain ⟨kq, x44_8, rfl, HA, HJ8, HB⟩ := hcut
            cases kq with
            | zero => exact absurd HA.out (by simp [impl_whole.j2])
            | succ kj8 =>
              have H := HA.out
              clear HA
              simp only [impl_whole.j2] at H
              by_cases c16 : x44_8 = true
              · subst c16
                rw [if_pos rfl] at H
                exact absurd H (by simp)
              · replace c16 := Bool.eq_false_iff.mpr c16
                subst c16
                have H1 : (impl_whole.l0 kj8 x0_5 x4_1 ([] : List Int) 0) = some (r1, r2) := by rw [if_neg (show ¬ (false = true) by decide)] at H; exact H
                clear H
                have H := H1
                clear H1
                have H' := Aside0.mk H
                clear H
                go_wp2
                go_loopg [5, 6] kj8 (fun kq v5 v6 w' => ∃ (x5_4 : List Int) (x6_4 : Int), v6 = .int .i64 x6_4 ∧ Aside0 (impl_whole.l0 kq x0_5 x4_1 x5_4 x6_4 = some (r1, r2)) ∧ Aside0 (kq ≤ kj8) ∧ Aside0 (Kd.R (Kd.int .u64) 77 w' w.heap.size (fun _ => True) v5 x5_4) ∧ Aside0 (Below w.heap.size w w'))
                case atStart => exact ⟨(([] : List Int)), (0), (by first | rfl | (simp; done) | (simp [*]; done)), H', ⟨Nat.le_refl _⟩, ⟨by first | exact Kd.R_nil _ _ _ _ _ | exact Kd.N_nil _ _ _ _ _ | exact Kd.V_nil _ _ _ _ _ | exact Kd.Q_nil _ _ _ _ _ | exact Kd.S_nil _ _ _ _ _⟩, ⟨by repeat (first | (with_reducible first | exact HB.out | apply below_alloc | apply pw_below_drewN | apply below_drew1) | exact HB.out)⟩⟩
                case round =>
                  clear H'
                  try clear c1
                  try clear p1
                  try clear q1
                  try clear hx1
                  try clear qi1
                  try clear p2
                  try clear c3
                  try clear c3b0
                  try clear c3b1
                  try clear c4
                  try clear c4b0
                  try clear c4b1
                  try clear c5
                  try clear p5
                  try clear q5
                  try clear hx5
                  try clear qi5
                  try clear c7
                  try clear c8
                  try clear c8b0
                  try clear c8b1
                  try clear c10
                  try clear c10b0
                  try clear c10b1
                  try clear c11
                  try clear c11b0
                  try clear c11b1
                  try clear c12
                  try clear c12b0
                  try clear c12b1
                  try clear p13
                  try clear q13
                  try clear hx13
                  try clear qi13
                  try clear c14
                  try clear c14b0
                  try clear c14b1
                  try clear c15
                  try clear c15b0
                  try clear c15b1
                  try clear c16
                  try clear p1
                  try clear p13
                  try clear p2
                  try clear p5
                  try clear q1
                  try clear q13
                  try clear q5
                  obtain ⟨x5_4, x6_4, rfl, HA, HK4, HO_5, HB⟩ := hrel
                  cases gk with
                  | zero => exact absurd HA.out (by simp [impl_whole.l0])
                  | succ k4 =>
                    have H := HA.out
                    clear HA
                    simp only [impl_whole.l0] at H
                    by_cases c17 : x6_4 < (x0_5.size : Int)
                    · rw [if_pos c17] at H
                      have c17b0 : decide (x6_4 < (x0_5.size : Int)) = true := decide_eq_true c17
                      clear c17
                      have H' := Aside0.mk H
                      clear H
                      go_wp2
                      go_loopg [6, 7, 8] k4 (fun kq v6 v7 v8 w' => ∃ (x6_5 : Int) (x7_5 : Int) (x8_5 : Int), v6 = .int .i64 x6_5 ∧ v7 = .int .u64 x7_5 ∧ v8 = .int .u64 x8_5 ∧ Aside0 (impl_whole.l1 kq x0_5 x4_1 x5_4 x6_5 x7_5 x8_5 = some (r1, r2)) ∧ Aside0 (kq ≤ k4) ∧ Aside0 (Kd.R (Kd.int .u64) 77 w' w.heap.size (fun _ => True) u5 x5_4) ∧ Aside0 (Below w.heap.size w w'))
                      case atStart => exact ⟨(x6_4), (0), (1), (by first | rfl | (simp; done) | (simp [*]; done)), (by first | rfl | (simp; done) | (simp [*]; done)), (by first | rfl | (simp; done) | (simp [*]; done)), H', ⟨Nat.le_refl _⟩, ⟨by (with_reducible repeat (first | apply Kd.R_alloc | apply Kd.R_drewN | apply Kd.R_drew)); exact HO_5.out⟩, ⟨by repeat (first | (with_reducible first | exact HB.out | apply below_alloc | apply pw_below_drewN | apply below_drew1) | exact HB.out)⟩⟩
                      case round =>
                        clear H'
                        try clear c1
                        try clear p1
                        try clear q1
                        try clear hx1
                        try clear qi1
                        try clear p2
                        try clear c3
                        try clear c3b0
                        try clear c3b1
                        try clear c4
                        try clear c4b0
                        try clear c4b1
                        try clear c5
                        try clear p5
                        try clear q5
                        try clear hx5
                        try clear qi5
                        try clear c7
                        try clear c8
                        try clear c8b0
                        try clear c8b1
                        try clear c10
                        try clear c10b0
                        try clear c10b1
                        try clear c11
                        try clear c11b0
                        try clear c11b1
                        try clear c12
                        try clear c12b0
                        try clear c12b1
                        try clear p13
                        try clear q13
                        try clear hx13
                        try clear qi13
                        try clear c14
                        try clear c14b0
                        try clear c14b1
                        try clear c15
                        try clear c15b0
                        try clear c15b1
                        try clear c16
                        try clear c17
                        try clear c17b0
                        try clear p1
                        try clear p13
                        try clear p2
                        try clear p5
                        try clear q1
                        try clear q13
                        try clear q5
                        obtain ⟨x6_5, x7_5, x8_5, rfl, rfl, rfl, HA, HK5, HO_5, HB⟩ := hrel
                        cases gk with
                        | zero => exact absurd HA.out (by simp [impl_whole.l1])
                        | succ k5 =>
                          have H := HA.out
                          clear HA
                          simp only [impl_whole.l1] at H
                          have HC18 := Aside0.mk H
                          clear H
                          go_upto_region 10 with (fail)
                          go_cut [56] (fun v56 wc => ∃ (kq : Nat) (x56_17 : Bool), v56 = .bool x56_17 ∧ Aside0 (impl_whole.j5 kq x0_5 x4_1 x5_4 x6_5 x7_5 x8_5 x56_17 = some (r1, r2)) ∧ Aside0 (kq ≤ k5) ∧ Aside0 (Kd.R (Kd.int .u64) 77 wc w.heap.size (fun _ => True) u5 x5_4) ∧ Aside0 (Below w.heap.size w wc))
                          case first =>
                            have H := HC18.out
                            clear HC18
                            by_cases c19 : x6_5 < (x0_5.size : Int)
                            · rw [if_pos c19] at H
                              have c19b0 : decide (x6_5 < (x0_5.size : Int)) = true := decide_eq_true c19
                              clear c19
                              (first | rw [c19b0] | (simp only [i64_w, i32_w]; rw [c19b0]) | skip)
                              have H' := Aside0.mk H
                              clear H
                              go_wp2
                              go_meet
                              case rel => exact ⟨_, (decide (x8_5 < 1000000000)), (by first | rfl | (simp; done) | (simp [*]; done)), H', ⟨by have := HJ1.out; have := HJ5.out; have := HJ8.out; have := HK4.out; have := HK5.out; first | omega | exact Nat.le_refl _⟩, ⟨by (with_reducible repeat (first | apply Kd.R_alloc | apply Kd.R_drewN | apply Kd.R_drew)); exact HO_5.out⟩, ⟨by repeat (first | (with_reducible first | exact HB.out | apply below_alloc | apply pw_below_drewN | apply below_drew1) | exact HB.out)⟩⟩
                            · rw [if_neg c19] at H
                              have c19b0 : decide (x6_5 < (x0_5.size : Int)) = false := decide_eq_false c19
                              clear c19
                              (first | rw [c19b0] | (simp only [i64_w, i32_w]; rw [c19b0]) | skip)
                              have H' := Aside0.mk H
                              clear H
                              go_wp2
                              go_meet
                              case rel => exact ⟨_, (false), (by first | rfl | (simp; done) | (simp [*]; done)), H', ⟨by have := HJ1.out; have := HJ5.out; have := HJ8.out; have := HK4.out; have := HK5.out; first | omega | exact Nat.le_refl _⟩, ⟨by (with_reducible repeat (first | apply Kd.R_alloc | apply Kd.R_drewN | apply Kd.R_drew)); exact HO_5.out⟩, ⟨by repeat (first | (with_reducible first | exact HB.out | apply below_alloc | apply pw_below_drewN | apply below_drew1) | exact HB.out)⟩⟩
                          case rest =>
                            clear HC18
                            try clear c1
                            try clear p1
                            try clear q1
                            try clear hx1
                            try clear qi1
                            try clear p2
                            try clear c3
                            try clear c3b0
                            try clear c3b1
                            try clear c4
                            try clear c4b0
                            try clear c4b1
                            try clear c5
                            try clear p5
                            try clear q5
                            try clear hx5
                            try clear qi5
                            try clear c7
                            try clear c8
                            try clear c8b0
                            try clear c8b1
                            try clear c10
                            try clear c10b0
                            try clear c10b1
                            try clear c11
                            try clear c11b0
                            try clear c11b1
                            try clear c12
                            try clear c12b0
                            try clear c12b1
                            try clear p13
                            try clear q13
                            try clear hx13
                            try clear qi13
                            try clear c14
                            try clear c14b0
                            try clear c14b1
                            try clear c15
                            try clear c15b0
                            try clear c15b1
                            try clear c16
                            try clear c17
                            try clear c17b0
                            try clear c19
                            try clear c19b0
                            try clear p1
                            try clear p13
                            try clear p2
                            try clear p5
                            try clear q1
                            try clear q13
                            try clear q5
                            obtain ⟨kq, x56_17, rfl, HA, HJ17, HO_5, HB⟩ := hcut
                            cases kq with
                            | zero => exact absurd HA.out (by simp [impl_whole.j5])
                            | succ kj17 =>
                              have H := HA.out
                              clear HA
                              simp only [impl_whole.j5] at H
                              by_cases c20 : x56_17 = true
                              · subst c20
                                have H1 : (if 0 ≤ x6_5 then (if x6_5 < (x0_5.size : Int) then (if (bt x0_5 x6_5) < 48 then (none) else (if (bt x0_5 x6_5) > 57 then (none) else (impl_whole.l1 kj17 x0_5 x4_1 x5_4 (wrap64 (x6_5 + 1)) (IntKind.u64.wrap ((IntKind.u64.wrap (x7_5 * 10)) + (((bt x0_5 x6_5) - 48) % 256))) (IntKind.u64.wrap (x8_5 * 10))))) else (none)) else (none)) = some (r1, r2) := by rw [if_pos rfl] at H; exact H
                                clear H
                                have H := H1
                                clear H1
                                by_cases c21 : 0 ≤ x6_5
                                · rw [if_pos c21] at H
                                  have c21b0 : decide (0 ≤ x6_5) = true := decide_eq_true c21
                                  clear c21
                                  by_cases c22 : x6_5 < (x0_5.size : Int)
                                  · rw [if_pos c22] at H
                                    have c22b0 : decide (x6_5 < (x0_5.size : Int)) = true := decide_eq_true c22
                                    clear c22
                                    by_cases c24 : (bt x0_5 x6_5) < 48
                                    · rw [if_pos c24] at H
                                      exact absurd H (by simp)
                                    · rw [if_neg c24] at H
                                      have c24b0 : decide ((bt x0_5 x6_5) < 48) = false := decide_eq_false c24
                                      clear c24
                                      by_cases c26 : (bt x0_5 x6_5) > 57
                                      · rw [if_pos c26] at H
                                        exact absurd H (by simp)
                                      · rw [if_neg c26] at H
                                        have c26b0 : decide (57 < (bt x0_5 x6_5)) = false := decide_eq_false c26
                                        clear c26
                                        have H' := Aside0.mk H
                                        clear H
                                        have p23 : 0 ≤ (x6_5 : Int) := of_decide_eq_true (by first | (with_reducible assumption) | assumption)
                                        have q23 : x6_5 < (x0_5.size : Int) := of_decide_eq_true (by first | (with_reducible assumption) | assumption)
                                        have hx23 := bt_at x0_5 x6_5
                                        replace p23 := eq_true p23
                                        replace q23 := eq_true q23
                                        have p25 : 0 ≤ (x6_5 : Int) := of_decide_eq_true (by first | (with_reducible assumption) | assumption)
                                        have q25 : x6_5 < (x0_5.size : Int) := of_decide_eq_true (by first | (with_reducible assumption) | assumption)
                                        have hx25 := bt_at x0_5 x6_5
                                        replace p25 := eq_true p25
                                        replace q25 := eq_true q25
                                        have p27 : 0 ≤ (x6_5 : Int) := of_decide_eq_true (by first | (with_reducible assumption) | assumption)
                                        have q27 : x6_5 < (x0_5.size : Int) := of_decide_eq_true (by first | (with_reducible assumption) | assumption)
                                        have hx27 := bt_at x0_5 x6_5
                                        replace p27 := eq_true p27
                                        replace q27 := eq_true q27
                                        go_wp2
                                        go_roundg kj17
                                        case measure => have := HJ1.out; have := HJ5.out; have := HJ8.out; have := HK4.out; have := HK5.out; have := HJ17.out; omega
                                        case rel => exact ⟨(wrap64 (x6_5 + 1)), (IntKind.u64.wrap ((IntKind.u64.wrap (x7_5 * 10)) + (((bt x0_5 x6_5) - 48) % 256))), (IntKind.u64.wrap (x8_5 * 10)), (by first | rfl | (simp; done) | (simp [*]; done)), (by first | rfl | (simp; done) | (simp [*]; done)), (by first | rfl | (simp; done) | (simp [*]; done)), H', ⟨by have := HJ1.out; have := HJ5.out; have := HJ8.out; have := HK4.out; have := HK5.out; have := HJ17.out; omega⟩, ⟨by (with_reducible repeat (first | apply Kd.R_alloc | apply Kd.R_drewN | apply Kd.R_drew)); exact HO_5.out⟩, ⟨by repeat (first | (with_reducible first | exact HB.out | apply below_alloc | apply pw_below_drewN | apply below_drew1) | exact HB.out)⟩⟩
                                  · rw [if_neg c22] at H
                                    exact absurd H (by simp)
                                · rw [if_neg c21] at H
                                  exact absurd H (by simp)
                              · replace c20 := Bool.eq_false_iff.mpr c20
                                subst c20
                                have H1 : (impl_whole.l2 kj17 x0_5 x4_1 x5_4 x6_5 x7_5 x8_5 (x5_4.length : Int) 0) = some (r1, r2) := by rw [if_neg (show ¬ (false = true) by decide)] at H; exact H
                                clear H
                                have H := H1
                                clear H1
                                have H' := Aside0.mk H
                                clear H
                                obtain ⟨Ao28, co28, eo28⟩ := Kd.R_slice HO_5.out
                                subst eo28
                                go_wp2
                                go_loopg [7, 81] kj17 (fun kq v7 v81 w' => ∃ (x5_7 : List Int) (x7_7 : Int) (x81_7 : Int), v7 = .int .u64 x7_7 ∧ v81 = .int .i64 x81_7 ∧ Aside0 (impl_whole.l2 kq x0_5 x4_1 x5_7 x6_5 x7_7 x8_5 (x5_4.length : Int) x81_7 = some (r1, r2)) ∧ Aside0 (kq ≤ kj17) ∧ Aside0 (Kd.R (Kd.int .u64) 77 w' w.heap.size (fun _ => True) (.slice Ao28 x5_4.length co28) x5_7) ∧ Aside0 (Below w.heap.size w w'))
                                case atStart => exact ⟨(x5_4), (x7_5), (0), (by first | rfl | (simp; done) | (simp [*]; done)), (by first | rfl | (simp; done) | (simp [*]; done)), H', ⟨Nat.le_refl _⟩, ⟨by (with_reducible repeat (first | apply Kd.R_alloc | apply Kd.R_drewN | apply Kd.R_drew)); exact HO_5.out⟩, ⟨by repeat (first | (with_reducible first | exact HB.out | apply below_alloc | apply pw_below_drewN | apply below_drew1) | exact HB.out)⟩⟩
                                case round =>
                                  clear H'
                                  try clear c1
                                  try clear p1
                                  try clear q1
                                  try clear hx1
                                  try clear qi1
                                  try clear c2
                                  try clear p2
                                  try clear q2
                                  try clear hx2
                                  try clear c3
                                  try clear c3b0
                                  try clear c3b1
                                  try clear c4
                                  try clear c4b0
                                  try clear c4b1
                                  try clear c5
                                  try clear p5
                                  try clear q5
                                  try clear hx5
                                  try clear qi5
                                  try clear p6
                                  try clear c7
                                  try clear c8
                                  try clear c8b0
                                  try clear c8b1
                                  try clear c10
                                  try clear c10b0
                                  try clear c10b1
                                  try clear c11
                                  try clear c11b0
                                  try clear c11b1
                                  try clear c12
                                  try clear c12b0
                                  try clear c12b1
                                  try clear p13
                                  try clear q13
                                  try clear hx13
                                  try clear qi13
                                  try clear c14
                                  try clear c14b0
                                  try clear c14b1
                                  try clear c15
                                  try clear c15b0
                                  try clear c15b1
                                  try clear c16
                                  try clear c17
                                  try clear c17b0
                                  try clear c19
                                  try clear c19b0
                                  try clear c20
                                  try clear c21
                                  try clear c21b0
                                  try clear c22
                                  try clear c22b0
                                  try clear p23
                                  try clear q23
                                  try clear hx23
                                  try clear c24
                                  try clear c24b0
                                  try clear p25
                                  try clear q25
                                  try clear hx25
                                  try clear c26
                                  try clear c26b0
                                  try clear p27
                                  try clear q27
                                  try clear hx27
                                  try clear p1
                                  try clear p13
                                  try clear p2
                                  try clear p23
                                  try clear p25
                                  try clear p27
                                  try clear p5
                                  try clear q1
                                  try clear q13
                                  try clear q23
                                  try clear q25
                                  try clear q27
                                  try clear q5
                                  obtain ⟨x5_7, x7_7, x81_7, rfl, rfl, HA, HK7, HO_5, HB⟩ := hrel
                                  have hl5_7 := (Kd.R_reads' HO_5.out).1
                                  rw [hl5_7] at HO_5
                                  (try simp only [hl5_7])
                                  cases gk with
                                  | zero => exact absurd HA.out (by simp [impl_whole.l2])
                                  | succ k7 =>
                                    have H := HA.out
                                    clear HA
                                    simp only [impl_whole.l2] at H
                                    by_cases c29 : x81_7 < (x5_4.length : Int)
                                    · rw [if_pos c29] at H
                                      have c29b0 : decide (x81_7 < (x5_4.length : Int)) = true := decide_eq_true c29
                                      clear c29
                                      by_cases c30 : 0 ≤ x81_7
                                      · rw [if_pos c30] at H
                                        have c30b0 : decide (0 ≤ x81_7) = true := decide_eq_true c30
                                        clear c30
                                        by_cases c31 : x81_7 < (x5_7.length : Int)
                                        · rw [if_pos c31] at H
                                          have c31b0 : decide (x81_7 < (x5_7.length : Int)) = true := decide_eq_true c31
                                          clear c31
                                          obtain ⟨y102, hy102⟩ : ∃ y_ : List Int, y_ = (x5_7.set (x81_7 : Int).toNat (Go.bits .and .u64 (IntKind.u64.wrap (x7_7 + (IntKind.u64.wrap ((rd x5_7 x81_7) * x8_5)))) 4294967295)) := ⟨_, rfl⟩
                                          replace H : (impl_whole.l2 k7 x0_5 x4_1 y102 x6_5 ((IntKind.u64.wrap (x7_7 + (IntKind.u64.wrap ((rd x5_7 x81_7) * x8_5)))) / 4294967296) x8_5 (x5_4.length : Int) (wrap64 (x81_7 + 1))) = some (r1, r2) := by first | (rw [hy102]; with_reducible exact H) | (have H2_ := (Option.bind_some _ _).symm.trans H; rw [hy102]; with_reducible exact H2_) | (have H2_ := (Option.bind_some _ _).symm.trans H; with_reducible exact H2_) | with_reducible exact H | (rw [hy102]; exact H) | exact H
                                          have Ny102 := Aside0.mk hy102
                                          clear hy102
                                          have H' := Aside0.mk H
                                          clear H
                                          have p101 : 0 ≤ (x81_7 : Int) := of_decide_eq_true (by first | (with_reducible assumption) | assumption)
                                          have q101 : x81_7 < (x5_7.length : Int) := of_decide_eq_true (by first | (with_reducible assumption) | assumption)
                                          obtain ⟨ad101, e101, hx101_0⟩ := Kd.at_int (Kd.R_reads' HO_5.out).2.2 x81_7 p101 q101
                                          cases e101
                                          replace p101 := eq_true p101
                                          replace q101 := eq_true q101
                                          have p32 : 0 ≤ (x81_7 : Int) := of_decide_eq_true (by first | (with_reducible assumption) | assumption)
                                          have q32 : (x81_7 : Int) < ((x5_7.length : Int) : Int) := of_decide_eq_true (by first | (with_reducible assumption) | assumption)
                                          obtain ⟨go32, co32, eo32, gb32, gl32, cl32, HG32⟩ := Kd.R_form HO_5.out (by omega)
                                          (first | cases eo32 | (injection eo32 with ea_ en_ ec_; (first | subst ea_ | (injection ea_ with ea_; subst ea_)); subst ec_; clear en_))
                                          have GB32 := Aside0.mk gb32
                                          have GG32 := Aside0.mk HG32
                                          clear gb32 gl32 HG32
                                          (first | simp only [add_plain] at hx101_0 | skip)
                                          obtain ⟨hx32_0, hf32_0⟩ := Kd.R_celln 0 HO_5.out (x81_7 : Int) p32 q32
                                          replace p32 := eq_true p32
                                          replace q32 := eq_true q32
                                          have HP33 := Kd.R_putg HO_5.out (x81_7 : Int) (Go.bits .and .u64 (IntKind.u64.wrap (x7_7 + (IntKind.u64.wrap ((rd x5_7 x81_7) * x8_5)))) 4294967295)
                                          go_wp2_with (first | ((with_reducible refine gate_store (t := 77) (p := 96) rfl ?_); refine store_event (t := 77) (p := 96) (v := ?vo_w34) (w1 := (wr.setCell ⟨go32, (x81_7 : Int).toNat, none⟩ (.int .u64 (Go.bits .and .u64 (IntKind.u64.wrap (x7_7 + (IntKind.u64.wrap ((rd x5_7 x81_7) * x8_5)))) 4294967295)))) ?hg ?ho ?hn ?hr ?_; (case ho => rfl); (case hg => rfl); (case hn => rfl); (case hr => first | (go_simp; done) | (go_simp; rfl)); intro w34 hw; have hg : wr.grownBy w34 (some go32) := (by rw [hw]; exact HP33.2); have hp_ : Kd.R (Kd.int .u64) 77 w34 w.heap.size (fun _ => True) (.slice (some ⟨go32, 0, none⟩) x5_7.length co28) y102 := (by rw [hw, Ny102.out]; exact HP33.1); clear HP33; have n0_ := Aside0.mk (hp_); have n1_ := Aside0.mk ((by rw [hw]; exact below_set (HB.out) GB32.out : Below w.heap.size w w34)); clear HO_5; clear HB; have HO_5 := n0_; have HB := n1_; clear n0_ n1_; clear hg hw hp_))
                                          (try simp only [← hl5_7])
                                          go_roundg k7
                                          case measure => have := HJ1.out; have := HJ5.out; have := HJ8.out; have := HK4.out; have := HK5.out; have := HJ17.out; have := HK7.out; omega
                                          case rel => exact ⟨(y102), ((IntKind.u64.wrap (x7_7 + (IntKind.u64.wrap ((rd x5_7 x81_7) * x8_5)))) / 4294967296), (wrap64 (x81_7 + 1)), (by first | rfl | (simp; done) | (simp [*]; done)), (by first | rfl | (simp; done) | (simp [*]; done)), H', ⟨by have := HJ1.out; have := HJ5.out; have := HJ8.out; have := HK4.out; have := HK5.out; have := HJ17.out; have := HK7.out; omega⟩, ⟨by (try simp only [hl5_7]); (with_reducible repeat (first | apply Kd.R_alloc | apply Kd.R_drewN | apply Kd.R_drew)); exact HO_5.out⟩, ⟨by repeat (first | (with_reducible first | exact HB.out | apply below_alloc | apply pw_below_drewN | apply below_drew1) | exact HB.out)⟩⟩
                                        · rw [if_neg c31] at H
                                          exact absurd H (by simp)
                                      · rw [if_neg c30] at H
                                        exact absurd H (by simp)
                                    · rw [if_neg c29] at H
                                      have c29b0 : decide (x81_7 < (x5_4.length : Int)) = false := decide_eq_false c29
                                      rw [hl5_7] at c29b0
                                      clear c29
                                      by_cases c35 : x7_7 > 0
                                      · rw [if_pos c35] at H
                                        have c35b0 : decide (0 < x7_7) = true := decide_eq_true c35
                                        clear c35
                                        by_cases c36 : x5_7.length < 17592186044416
                                        · rw [if_pos c36] at H
                                          have LMc36 := Aside0.mk c36
                                          clear c36
                                          obtain ⟨y103, hy103⟩ : ∃ y_ : List Int, y_ = (x5_7 ++ [x7_7]) := ⟨_, rfl⟩
                                          replace H : (impl_whole.l0 k7 x0_5 x4_1 y103 x6_5) = some (r1, r2) := by first | (rw [hy103]; with_reducible exact H) | (have H2_ := (Option.bind_some _ _).symm.trans H; rw [hy103]; with_reducible exact H2_) | (have H2_ := (Option.bind_some _ _).symm.trans H; with_reducible exact H2_) | with_reducible exact H | (rw [hy103]; exact H) | exact H
                                          have Ny103 := Aside0.mk hy103
                                          clear hy103
                                          have H' := Aside0.mk H
                                          clear H
                                          go_wp2_with (first | ((with_reducible refine gate_builtin (b := .append) (xs := #[.tmp 102, .tmp 104]) rfl ?_); (try (refine gate_guard (by rfl) ?_; dsimp only)); at_builtin; refine Kd.R_append (Kd.int .u64) (w0 := w) w.heap.size rfl (.tmp 102) (.tmp 104) 79 77 (.int .u64 0) 8 rfl Tryz.underlying79 tinfo_u64 rfl (by decide) (by omega) (.slice Ao28 x5_7.length co28) x5_7 x7_7 [.int .u64 x7_7] (fun _ => True) (fun _ => False) rfl rfl ?aP (fun _ hk => hk.elim) ?aF ?aO ?aB ?aS ?aL ?_; (case aP => exact rfl); (case aB => exact (by repeat (first | (with_reducible first | exact HB.out | apply below_alloc | apply pw_below_drewN | apply below_drew1) | exact HB.out))); (case aF => exact (fun _ _ => trivial)); (case aO => exact (by (with_reducible repeat (first | apply Kd.R_alloc | apply Kd.R_drewN | apply Kd.R_drew)); exact HO_5.out)); (case aS => exact (below_size (by repeat (first | (with_reducible first | exact HB.out | apply below_alloc | apply pw_below_drewN | apply below_drew1) | exact HB.out)))); (case aL => have := LMc36.out; omega); intro v104 w37 ho hb hg hat; rw [← Ny103.out] at ho; have n0_ := Aside0.mk (hb); have n1_ := Aside0.mk (ho); clear HB; clear HO_5; have HB := n0_; have HO105 := n1_; clear n0_ n1_; clear ho hb hg hat))
                                          (try simp only [← hl5_7])
                                          go_roundg k7
                                          case measure => have := HJ1.out; have := HJ5.out; have := HJ8.out; have := HK4.out; have := HK5.out; have := HJ17.out; have := HK7.out; omega
                                          case rel => exact ⟨(y103), (x6_5), (by first | rfl | (simp; done) | (simp [*]; done)), H', ⟨by have := HJ1.out; have := HJ5.out; have := HJ8.out; have := HK4.out; have := HK5.out; have := HJ17.out; have := HK7.out; omega⟩, ⟨by (try simp only [hl5_7]); (with_reducible repeat (first | apply Kd.R_alloc | apply Kd.R_drewN | apply Kd.R_drew)); exact HO105.out⟩, ⟨by repeat (first | (with_reducible first | exact HB.out | apply below_alloc | apply pw_below_drewN | apply below_drew1) | exact HB.out)⟩⟩
                                        · rw [if_neg c36] at H
                                          exact absurd H (by simp)
                                      · rw [if_neg c35] at H
                                        have c35b0 : decide (0 < x7_7) = false := decide_eq_false c35
                                        clear c35
                                        have H' := Aside0.mk H
                                        clear H
                                        go_wp2
                                        (try simp only [← hl5_7])
                                        go_roundg k7
                                        case measure => have := HJ1.out; have := HJ5.out; have := HJ8.out; have := HK4.out; have := HK5.out; have := HJ17.out; have := HK7.out; omega
                                        case rel => exact ⟨(x5_7), (x6_5), (by first | rfl | (simp; done) | (simp [*]; done)), H', ⟨by have := HJ1.out; have := HJ5.out; have := HJ8.out; have := HK4.out; have := HK5.out; have := HJ17.out; have := HK7.out; omega⟩, ⟨by (try simp only [hl5_7]); (with_reducible repeat (first | apply Kd.R_alloc | apply Kd.R_drewN | apply Kd.R_drew)); exact HO_5.out⟩, ⟨by repeat (first | (with_reducible first | exact HB.out | apply below_alloc | apply pw_below_drewN | apply below_drew1) | exact HB.out)⟩⟩
                    · rw [if_neg c17] at H
                      have c17b0 : decide (x6_4 < (x0_5.size : Int)) = false := decide_eq_false c17
                      clear c17
                      have H' := Aside0.mk H
                      clear H
                      obtain ⟨Ao38, co38, eo38⟩ := Kd.R_slice HO_5.out
                      subst eo38
                      go_wp2
                      go_loopg [10, 108] k4 (fun kq v10 v108 w' => ∃ (x10_5 : List Int) (x108_5 : Int), v108 = .int .i64 x108_5 ∧ Aside0 (impl_whole.l3 kq x4_1 x5_4 x10_5 (x5_4.length : Int) x108_5 = some (r1, r2)) ∧ Aside0 (kq ≤ k4) ∧ Aside0 (Kd.R (Kd.int .u64) 77 w' w.heap.size (fun _ => True) (.slice Ao38 x5_4.length co38) x5_4) ∧ Aside0 (Kd.R (Kd.int .u64) 81 w' w.heap.size (fun _ => True) v10 x10_5) ∧ Aside0 (Below w.heap.size w w'))
                      case atStart => exact ⟨(([] : List Int)), (0), (by first | rfl | (simp; done) | (simp [*]; done)), H', ⟨Nat.le_refl _⟩, ⟨by (with_reducible repeat (first | apply Kd.R_alloc | apply Kd.R_drewN | apply Kd.R_drew)); exact HO_5.out⟩, ⟨by first | exact Kd.R_nil _ _ _ _ _ | exact Kd.N_nil _ _ _ _ _ | exact Kd.V_nil _ _ _ _ _ | exact Kd.Q_nil _ _ _ _ _ | exact Kd.S_nil _ _ _ _ _⟩, ⟨by repeat (first | (with_reducible first | exact HB.out | apply below_alloc | apply pw_below_drewN | apply below_drew1) | exact HB.out)⟩⟩
                      case round =>
                        clear H'
                        try clear c1
                        try clear p1
                        try clear q1
                        try clear hx1
                        try clear qi1
                        try clear c2
                        try clear p2
                        try clear q2
                        try clear hx2
                        try clear c3
                        try clear c3b0
                        try clear c3b1
                        try clear p3
                        try clear q3
                        try clear hx3
                        try clear hf3
                        try clear c4
                        try clear c4b0
                        try clear c4b1
                        try clear c5
                        try clear p5
                        try clear q5
                        try clear hx5
                        try clear qi5
                        try clear p6
                        try clear c7
                        try clear c8
                        try clear c8b0
                        try clear c8b1
                        try clear c10
                        try clear c10b0
                        try clear c10b1
                        try clear p10
                        try clear q10
                        try clear hx10
                        try clear c11
                        try clear c11b0
                        try clear c11b1
                        try clear c12
                        try clear c12b0
                        try clear c12b1
                        try clear p13
                        try clear q13
                        try clear hx13
                        try clear qi13
                        try clear c14
                        try clear c14b0
                        try clear c14b1
                        try clear c15
                        try clear c15b0
                        try clear c15b1
                        try clear c16
                        try clear c17
                        try clear c17b0
                        try clear c19
                        try clear c19b0
                        try clear c20
                        try clear c21
                        try clear c21b0
                        try clear c22
                        try clear c22b0
                        try clear p23
                        try clear q23
                        try clear hx23
                        try clear c24
                        try clear c24b0
                        try clear p25
                        try clear q25
                        try clear hx25
                        try clear c26
                        try clear c26b0
                        try clear p27
                        try clear q27
                        try clear hx27
                        try clear c29
                        try clear c29b0
                        try clear c30
                        try clear c30b0
                        try clear c31
                        try clear c31b0
                        try clear p32
                        try clear q32
                        try clear hx32
                        try clear hf32
                        try clear c35
                        try clear c35b0
                        try clear c36
                        try clear hx101_0
                        try clear hx32_0
                        try clear p1
                        try clear p101
                        try clear p13
                        try clear p2
                        try clear p23
                        try clear p25
                        try clear p27
                        try clear p32
                        try clear p5
                        try clear p6
                        try clear q1
                        try clear q101
                        try clear q13
                        try clear q2
                        try clear q23
                        try clear q25
                        try clear q27
                        try clear q32
                        try clear q5
                        obtain ⟨x10_5, x108_5, rfl, HA, HK5, HO_5, HO_10, HB⟩ := hrel
                        cases gk with
                        | zero => exact absurd HA.out (by simp [impl_whole.l3])
                        | succ k5 =>
                          have H := HA.out
                          clear HA
                          simp only [impl_whole.l3] at H
                          by_cases c39 : x108_5 < (x5_4.length : Int)
                          · rw [if_pos c39] at H
                            have c39b0 : decide (x108_5 < (x5_4.length : Int)) = true := decide_eq_true c39
                            clear c39
                            by_cases c40 : (Int.tmod x108_5 2) = 0
                            · rw [if_pos c40] at H
                              have c40b0 : ((Int.tmod x108_5 2) == 0) = true := beq_iff_eq.mpr c40
                              have c40b1 : ((Int.tmod x108_5 2) != 0) = false := bne_eq_false_iff_eq.mpr c40
                              clear c40
                              by_cases c41 : 0 ≤ x108_5
                              · rw [if_pos c41] at H
                                have c41b0 : decide (0 ≤ x108_5) = true := decide_eq_true c41
                                clear c41
                                by_cases c42 : x108_5 < (x5_4.length : Int)
                                · rw [if_pos c42] at H
                                  have c42b0 : decide (x108_5 < (x5_4.length : Int)) = true := decide_eq_true c42
                                  clear c42
                                  by_cases c43 : x10_5.length < 17592186044416
                                  · rw [if_pos c43] at H
                                    have LMc43 := Aside0.mk c43
                                    clear c43
                                    obtain ⟨y107, hy107⟩ : ∃ y_ : List Int, y_ = (x10_5 ++ [rd x5_4 x108_5]) := ⟨_, rfl⟩
                                    replace H : (impl_whole.l3 k5 x4_1 x5_4 y107 (x5_4.length : Int) (wrap64 (x108_5 + 1))) = some (r1, r2) := by first | (rw [hy107]; with_reducible exact H) | (have H2_ := (Option.bind_some _ _).symm.trans H; rw [hy107]; with_reducible exact H2_) | (have H2_ := (Option.bind_some _ _).symm.trans H; with_reducible exact H2_) | with_reducible exact H | (rw [hy107]; exact H) | exact H
                                    have Ny107 := Aside0.mk hy107
                                    clear hy107
                                    have H' := Aside0.mk H
                                    clear H
                                    have p106 : 0 ≤ (x108_5 : Int) := of_decide_eq_true (by first | (with_reducible assumption) | assumption)
                                    have q106 : x108_5 < (x5_4.length : Int) := of_decide_eq_true (by first | (with_reducible assumption) | assumption)
                                    obtain ⟨ad106, e106, hx106_0⟩ := Kd.at_int (Kd.R_reads' HO_5.out).2.2 x108_5 p106 q106
                                    cases e106
                                    replace p106 := eq_true p106
                                    replace q106 := eq_true q106
                                    go_wp2_with (first | ((with_reducible refine gate_builtin (b := .append) (xs := #[.tmp 114, .tmp 119]) rfl ?_); (try (refine gate_guard (by rfl) ?_; dsimp only)); at_builtin; refine Kd.R_append (Kd.int .u64) (w0 := w) w.heap.size rfl (.tmp 114) (.tmp 119) 62 81 (.int .u64 0) 8 rfl Tryz.underlying62 tinfo_word rfl (by decide) (by omega) u10 x10_5 (rd x5_4 x108_5) [.int .u64 (rd x5_4 x108_5)] (fun _ => True) (fun _ => False) rfl rfl ?aP (fun _ hk => hk.elim) ?aF ?aO ?aB ?aS ?aL ?_; (case aP => exact rfl); (case aB => exact (by repeat (first | (with_reducible first | exact HB.out | apply below_alloc | apply pw_below_drewN | apply below_drew1) | exact HB.out))); (case aF => exact (fun _ _ => trivial)); (case aO => exact (by (with_reducible repeat (first | apply Kd.R_alloc | apply Kd.R_drewN | apply Kd.R_drew)); exact HO_10.out)); (case aS => exact (below_size (by repeat (first | (with_reducible first | exact HB.out | apply below_alloc | apply pw_below_drewN | apply below_drew1) | exact HB.out)))); (case aL => have := LMc43.out; omega); intro v108 w44 ho hb hg hat; rw [← Ny107.out] at ho; have n0_ := Aside0.mk (Kd.R_over' (by (with_reducible repeat (first | apply Kd.R_alloc | apply Kd.R_drewN | apply Kd.R_drew)); exact HO_5.out) (Kd.R_typed (by (with_reducible repeat (first | apply Kd.R_alloc | apply Kd.R_drewN | apply Kd.R_drew)); exact HO_10.out)) (by decide) hg); have n1_ := Aside0.mk (hb); have n2_ := Aside0.mk (ho); clear HO_5; clear HB; clear HO_10; have HO_5 := n0_; have HB := n1_; have HO109 := n2_; clear n0_ n1_ n2_; clear ho hb hg hat))
                                    go_roundg k5
                                    case measure => have := HJ1.out; have := HJ5.out; have := HJ8.out; have := HK4.out; have := HK5.out; omega
                                    case rel => exact ⟨(y107), (wrap64 (x108_5 + 1)), (by first | rfl | (simp; done) | (simp [*]; done)), H', ⟨by have := HJ1.out; have := HJ5.out; have := HJ8.out; have := HK4.out; have := HK5.out; omega⟩, ⟨by (with_reducible repeat (first | apply Kd.R_alloc | apply Kd.R_drewN | apply Kd.R_drew)); exact HO_5.out⟩, ⟨by (with_reducible repeat (first | apply Kd.R_alloc | apply Kd.R_drewN | apply Kd.R_drew)); exact HO109.out⟩, ⟨by repeat (first | (with_reducible first | exact HB.out | apply below_alloc | apply pw_below_drewN | apply below_drew1) | exact HB.out)⟩⟩
                                  · rw [if_neg c43] at H
                                    exact absurd H (by simp)
                                · rw [if_neg c42] at H
                                  exact absurd H (by simp)
                              · rw [if_neg c41] at H
                                exact absurd H (by simp)
                            · rw [if_neg c40] at H
                              have c40b0 : ((Int.tmod x108_5 2) == 0) = false := beq_eq_false_iff_ne.mpr c40
                              have c40b1 : ((Int.tmod x108_5 2) != 0) = true := bne_iff_ne.mpr c40
                              obtain ⟨ji45, hji45⟩ : ∃ j_ : Int, (wrap64 (Int.tdiv x108_5 2)) = j_ := ⟨_, rfl⟩
                              replace H : (if 0 ≤ (ji45) then (if (ji45) < (x10_5.length : Int) then (if 0 ≤ x108_5 then (if x108_5 < (x5_4.length : Int) then (impl_whole.l3 k5 x4_1 x5_4 (x10_5.set ((ji45) : Int).toNat (Go.bits .or .u64 (rd x10_5 (ji45)) (IntKind.u64.wrap ((rd x5_4 x108_5) * 4294967296)))) (x5_4.length : Int) (wrap64 (x108_5 + 1))) else (none)) else (none)) else (none)) else (none)) = some (r1, r2) := by first | (rw [hji45] at H; exact H) | (simp only [hji45] at H ⊢; exact H)
                              have hji45w : (IntKind.i64.wrap (Int.tdiv x108_5 2)) = ji45 := (i64_w _).trans hji45
                              by_cases c46 : 0 ≤ (ji45)
                              · rw [if_pos c46] at H
                                have c46b0 : decide (0 ≤ (ji45)) = true := decide_eq_true c46
                                clear c46
                                by_cases c47 : (ji45) < (x10_5.length : Int)
                                · rw [if_pos c47] at H
                                  have c47b0 : decide ((ji45) < (x10_5.length : Int)) = true := decide_eq_true c47
                                  clear c47
                                  by_cases c48 : 0 ≤ x108_5
                                  · rw [if_pos c48] at H
                                    have c48b0 : decide (0 ≤ x108_5) = true := decide_eq_true c48
                                    clear c48
                                    by_cases c49 : x108_5 < (x5_4.length : Int)
                                    · rw [if_pos c49] at H
                                      have c49b0 : decide (x108_5 < (x5_4.length : Int)) = true := decide_eq_true c49
                                      clear c49
                                      obtain ⟨y112, hy112⟩ : ∃ y_ : List Int, y_ = (x10_5.set ((ji45) : Int).toNat (Go.bits .or .u64 (rd x10_5 (ji45)) (IntKind.u64.wrap ((rd x5_4 x108_5) * 4294967296)))) := ⟨_, rfl⟩
                                      replace H : (impl_whole.l3 k5 x4_1 x5_4 y112 (x5_4.length : Int) (wrap64 (x108_5 + 1))) = some (r1, r2) := by first | (rw [hy112]; with_reducible exact H) | (have H2_ := (Option.bind_some _ _).symm.trans H; rw [hy112]; with_reducible exact H2_) | (have H2_ := (Option.bind_some _ _).symm.trans H; with_reducible exact H2_) | with_reducible exact H | (rw [hy112]; exact H) | exact H
                                      have Ny112 := Aside0.mk hy112
                                      clear hy112
                                      have H' := Aside0.mk H
                                      clear H
                                      try go_wp2
                                      have n0_ := Aside0.mk (Kd.R_drew HO_5.out)
                                      have n1_ := Aside0.mk (Kd.R_drew HO_10.out)
                                      have n2_ := Aside0.mk (below_drew1 HB.out)
                                      clear HO_5
                                      clear HO_10
                                      clear HB
                                      have HO_5 := n0_
                                      have HO_10 := n1_
                                      have HB := n2_
                                      clear n0_ n1_ n2_
                                      obtain ⟨Ao52, co52, eo52⟩ := Kd.R_slice HO_10.out
                                      (first | subst eo52 | (injection eo52 with f1_ f2_ f3_; have f4_ := f1_.symm; have f5_ := f3_.symm; clear f1_ f2_ f3_; subst f4_; subst f5_))
                                      have p110 : 0 ≤ ((ji45) : Int) := of_decide_eq_true (by first | (with_reducible assumption) | assumption)
                                      have q110 : (ji45) < (x10_5.length : Int) := of_decide_eq_true (by first | (with_reducible assumption) | assumption)
                                      obtain ⟨ad110, e110, hx110_0⟩ := Kd.at_int (Kd.R_reads' HO_10.out).2.2 (ji45) p110 q110
                                      cases e110
                                      replace p110 := eq_true p110
                                      replace q110 := eq_true q110
                                      have p111 : 0 ≤ (x108_5 : Int) := of_decide_eq_true (by first | (with_reducible assumption) | assumption)
                                      have q111 : x108_5 < (x5_4.length : Int) := of_decide_eq_true (by first | (with_reducible assumption) | assumption)
                                      obtain ⟨ad111, e111, hx111_0⟩ := Kd.at_int (Kd.R_reads' HO_5.out).2.2 x108_5 p111 q111
                                      cases e111
                                      replace p111 := eq_true p111
                                      replace q111 := eq_true q111
                                      have p50 : 0 ≤ ((ji45) : Int) := of_decide_eq_true (by first | (with_reducible assumption) | assumption)
                                      have q50 : ((ji45) : Int) < ((x10_5.length : Int) : Int) := of_decide_eq_true (by first | (with_reducible assumption) | assumption)
                                      obtain ⟨go50, co50, eo50, gb50, gl50, cl50, HG50⟩ := Kd.R_form HO_10.out (by omega)
                                      (first | cases eo50 | (injection eo50 with ea_ en_ ec_; (first | subst ea_ | (injection ea_ with ea_; subst ea_)); subst ec_; clear en_))
                                      have GB50 := Aside0.mk gb50
                                      have GG50 := Aside0.mk HG50
                                      clear gb50 gl50 HG50
                                      (first | simp only [add_plain] at hx110_0 | skip)
                                      obtain ⟨hx50_0, hf50_0⟩ := Kd.R_celln 0 HO_10.out ((ji45) : Int) p50 q50
                                      replace p50 := eq_true p50
                                      replace q50 := eq_true q50
                                      have HP53 := Kd.R_putn HO_10.out ((ji45) : Int) (Go.bits .or .u64 (rd x10_5 (ji45)) (IntKind.u64.wrap ((rd x5_4 x108_5) * 4294967296)))
                                      rw [← Ny112.out] at HP53
                                      have HQ53 := Aside0.mk HP53
                                      clear HP53
                                      refine start_ (n := 13) (S := fun w' => w'.cell? ⟨go50, ((ji45)).toNat, none⟩ = some (.int .u64 (rd x10_5 (ji45))) ∧ w'.cell? (ad111.add (x108_5).toNat) = some (.int .u64 (rd x5_4 x108_5))) (ds := [12]) #[false, false, false, false, false, false, false, false, false, false, false, false, false] (by kernel_rfl) rfl rfl ⟨hx110_0, hx111_0⟩ (fun hHeld => ?_); refine with_tabW impl_whole.tab30 impl_whole.bits30 (fun HT_ HW_ => ?_)
                                      generalize wr.drew = w51 at HO_5 HO_10 HB GG50 HQ53 hf50_0 hx110_0 hx111_0 hx50_0 hHeld ⊢
                                      refine pure_ (i := 0) (N := some 121) (v := ?_) (a' := ?_) #[true, false, false, false, false, false, false, false, false, false, false, false, false] rfl rfl (any_of HT_.out (by kernel_rfl)) (fun _ _ _ h => h) (Or.inl ⟨by rfl, ?_⟩) ?_ ?_
                                      rotate_left
                                      · intro w'
                                        go_simp
                                        with_reducible rfl
                                      rotate_left
                                      · simp only [Act.put, List.setIfInBounds_toArray, List.set_cons_zero, List.set_cons_succ, i64_w, i32_w]
                                        rfl
                                      refine pure_ (i := 1) (N := some 122) (v := ?_) (a' := ?_) #[true, true, false, false, false, false, false, false, false, false, false, false, false] rfl rfl (any_of HT_.out (by kernel_rfl)) (fun _ _ _ h => h) (Or.inl ⟨by rfl, ?_⟩) ?_ ?_
                                      rotate_left
                                      · intro w'
                                        go_simp
                                        with_reducible rfl
                                      rotate_left
                                      · simp only [Act.put, List.setIfInBounds_toArray, List.set_cons_zero, List.set_cons_succ, i64_w, i32_w]
                                        rfl
                                      refine pure_ (i := 2) (N := some 123) (v := ?_) (a' := ?_) #[true, true, true, false, false, false, false, false, false, false, false, false, false] rfl rfl (any_of HT_.out (by kernel_rfl)) (fun _ _ _ h => h) (Or.inl ⟨by rfl, ?_⟩) ?_ ?_
                                      rotate_left
                                      · intro w'
                                        go_simp
                                        with_reducible rfl
                                      rotate_left
                                      · simp only [Act.put, List.setIfInBounds_toArray, List.set_cons_zero, List.set_cons_succ, i64_w, i32_w]
                                        rfl
                                      refine pure_ (i := 3) (N := some 124) (v := ?_) (a' := ?_) #[true, true, true, true, false, false, false, false, false, false, false, false, false] rfl rfl (any_of HT_.out (by kernel_rfl)) (fun _ _ _ h => h) (Or.inl ⟨by rfl, ?_⟩) ?_ ?_
                                      rotate_left
                                      · intro w'
                                        go_simp
                                        with_reducible rfl
                                      rotate_left
                                      · simp only [Act.put, List.setIfInBounds_toArray, List.set_cons_zero, List.set_cons_succ, i64_w, i32_w]
                                        rfl
                                      refine pure_ (i := 5) (N := some 126) (v := ?_) (a' := ?_) #[true, true, true, true, false, true, false, false, false, false, false, false, false] rfl rfl (any_of HT_.out (by kernel_rfl)) (fun _ _ _ h => h) (Or.inl ⟨by rfl, ?_⟩) ?_ ?_
                                      rotate_left
                                      · intro w'
                                        go_simp
                                        with_reducible rfl
                                      rotate_left
                                      · simp only [Act.put, List.setIfInBounds_toArray, List.set_cons_zero, List.set_cons_succ, i64_w, i32_w]
                                        rfl
                                      refine pure_ (i := 6) (N := some 127) (v := ?_) (a' := ?_) #[true, true, true, true, false, true, true, false, false, false, false, false, false] rfl rfl (any_of HT_.out (by kernel_rfl)) (fun _ _ _ h => h) (Or.inl ⟨by rfl, ?_⟩) ?_ ?_
                                      rotate_left
                                      · intro w'
                                        go_simp
                                        with_reducible rfl
                                      rotate_left
                                      · simp only [Act.put, List.setIfInBounds_toArray, List.set_cons_zero, List.set_cons_succ, i64_w, i32_w]
                                        rfl
                                      refine pure_ (i := 7) (N := some 128) (v := ?_) (a' := ?_) #[true, true, true, true, false, true, true, true, false, false, false, false, false] rfl rfl (any_of HT_.out (by kernel_rfl)) (fun _ _ _ h => h) (Or.inl ⟨by rfl, ?_⟩) ?_ ?_
                                      rotate_left
                                      · intro w'
                                        go_simp
                                        with_reducible rfl
                                      rotate_left
                                      · simp only [Act.put, List.setIfInBounds_toArray, List.set_cons_zero, List.set_cons_succ, i64_w, i32_w]
                                        rfl
                                      refine take_ (i := 4) (N := some 125) (v := ?_) (a' := ?_) #[true, true, true, true, true, true, true, true, false, false, false, false, false] rfl rfl (take_ofW HT_.out HW_.out (by kernel_rfl)) (fun _ _ _ h => h) (Or.inl ⟨by rfl, ?_⟩) hHeld ?_ ?_
                                      rotate_left
                                      · rintro w' ⟨s0, s1⟩
                                        go_simp
                                        with_reducible rfl
                                      rotate_left
                                      · simp only [Act.put, List.setIfInBounds_toArray, List.set_cons_zero, List.set_cons_succ, i64_w, i32_w]
                                        rfl
                                      refine take_ (i := 8) (N := some 129) (v := ?_) (a' := ?_) #[true, true, true, true, true, true, true, true, true, false, false, false, false] rfl rfl (take_ofW HT_.out HW_.out (by kernel_rfl)) (fun _ _ _ h => h) (Or.inl ⟨by rfl, ?_⟩) hHeld ?_ ?_
                                      rotate_left
                                      · rintro w' ⟨s0, s1⟩
                                        go_simp
                                        with_reducible rfl
                                      rotate_left
                                      · simp only [Act.put, List.setIfInBounds_toArray, List.set_cons_zero, List.set_cons_succ, i64_w, i32_w]
                                        rfl
                                      refine pure_ (i := 9) (N := some 130) (v := ?_) (a' := ?_) #[true, true, true, true, true, true, true, true, true, true, false, false, false] rfl rfl (any_of HT_.out (by kernel_rfl)) (fun _ _ _ h => h) (Or.inl ⟨by rfl, ?_⟩) ?_ ?_
                                      rotate_left
                                      · intro w'
                                        go_simp
                                        with_reducible rfl
                                      rotate_left
                                      · simp only [Act.put, List.setIfInBounds_toArray, List.set_cons_zero, List.set_cons_succ, i64_w, i32_w]
                                        rfl
                                      refine pure_ (i := 10) (N := some 131) (v := ?_) (a' := ?_) #[true, true, true, true, true, true, true, true, true, true, true, false, false] rfl rfl (any_of HT_.out (by kernel_rfl)) (fun _ _ _ h => h) (Or.inl ⟨by rfl, ?_⟩) ?_ ?_
                                      rotate_left
                                      · intro w'
                                        go_simp
                                        with_reducible rfl
                                      rotate_left
                                      · simp only [Act.put, List.setIfInBounds_toArray, List.set_cons_zero, List.set_cons_succ, i64_w, i32_w]
                                        rfl
                                      refine pure_ (i := 11) (N := some 132) (v := ?_) (a' := ?_) #[true, true, true, true, true, true, true, true, true, true, true, true, false] rfl rfl (any_of HT_.out (by kernel_rfl)) (fun _ _ _ h => h) (Or.inl ⟨by rfl, ?_⟩) ?_ ?_
                                      rotate_left
                                      · intro w'
                                        go_simp
                                        with_reducible rfl
                                      rotate_left
                                      · simp only [Act.put, List.setIfInBounds_toArray, List.set_cons_zero, List.set_cons_succ, i64_w, i32_w]
                                        rfl
                                      refine last_ (i := 12) (N := none) #[true, true, true, true, true, true, true, true, true, true, true, true, true] rfl rfl (one_of HT_.out (by kernel_rfl)) (by decide) (fun K hK => ?_)
                                      refine skip_ (w1 := ?_) (by rfl) rfl ?_ ?_
                                      rotate_left
                                      · go_simp
                                        rfl
                                      refine hK.out _ _ ?_
                                      clear hK K
                                      refine done_ (done_of HT_.out (by kernel_rfl)) ?_
                                      try go_wp2
                                      go_roundg k5
                                      case measure => have := HJ1.out; have := HJ5.out; have := HJ8.out; have := HK4.out; have := HK5.out; omega
                                      case rel => exact ⟨(y112), (wrap64 (x108_5 + 1)), (by first | rfl | (simp; done) | (simp [*]; done)), H', ⟨by have := HJ1.out; have := HJ5.out; have := HJ8.out; have := HK4.out; have := HK5.out; omega⟩, ⟨by (with_reducible repeat (first | apply Kd.R_alloc | apply Kd.R_drewN | apply Kd.R_drew)); exact Kd.R_mono (Kd.R_far (p := ⟨go50, ((ji45) : Int).toNat, none⟩) (Kd.R_types HO_5.out GG50.out (by decide)) (fun _ hk => hk.2) (.int .u64 (Go.bits .or .u64 (rd x10_5 (ji45)) (IntKind.u64.wrap ((rd x5_4 x108_5) * 4294967296))))) (fun _ hk => trivial)⟩, ⟨by (with_reducible repeat (first | apply Kd.R_alloc | apply Kd.R_drewN | apply Kd.R_drew)); exact HQ53.out⟩, ⟨by repeat (first | (with_reducible first | exact HB.out | apply below_alloc | apply pw_below_drewN | apply below_drew1 | refine below_set ?_ GB50.out) | exact HB.out)⟩⟩
                                    · rw [if_neg c49] at H
                                      exact absurd H (by simp)
                                  · rw [if_neg c48] at H
                                    exact absurd H (by simp)
                                · rw [if_neg c47] at H
                                  exact absurd H (by simp)
                              · rw [if_neg c46] at H
                                exact absurd H (by simp)
                          · rw [if_neg c39] at H
                            have c39b0 : decide (x108_5 < (x5_4.length : Int)) = false := decide_eq_false c39
                            clear c39
                            by_cases c54 : x4_1 = true
                            · subst c54
                              have H1 : (some (x10_5, true)) = some (r1, r2) := by rw [if_pos rfl] at H; exact H
                              clear H
                              simp only [Option.some.injEq, Prod.mk.injEq] at H1
                              obtain ⟨rfl, rfl⟩ := H1
                              obtain ⟨A10, c10, e10⟩ := Kd.R_slice HO_10.out
                              subst e10
                              have HR := Aside0.mk (Kd.R_mono (Kd.R_bound HO_10.out) (ok' := fun k_ => k_ < wr.heap.size ∧ w.heap.size ≤ k_) (fun k_ hk => ⟨hk.2.2.1, hk.2.1⟩))
                              go_wp2_with (((with_reducible refine gate_dst (N := 134) rfl ?_); refine box_event ?hg (N := 134) ?hd (cs := #[.bool false, .slice none 0 0]) (t := 65) ?hr ?_; (case hd => rfl); (case hg => rfl); (case hr => first | (go_simp; done) | (go_simp; rfl)); intro g1 hgq w1 hbx hb; have B1 := Aside0.mk hbx; have gq_g1 := Aside0.mk hgq; clear hbx hgq); have HB1 := Aside0.mk (below_step HB.out hb); have HR1 := Aside0.mk (Kd.R_below HR.out hb); clear hb)
                              refine (setBits_is k2 (fun k_ => k_ < wr.heap.size ∧ w.heap.size ≤ k_) w g1 c10 A10 x10_5 l' false (.slice none 0 0) w1 B1.out HB1.out (by rw [gq_g1.out]; exact HB.out.size) (Kd.R_V HR1.out) (by rw [gq_g1.out]; exact fun h => Nat.lt_irrefl _ h.1) (fun k_ h => h.2) HNm.out).mono ?_
                              rintro e w2 ⟨rfl, hI, hb⟩
                              have G1 := Aside0.mk (show w.heap.size ≤ g1 by rw [gq_g1.out]; exact HB.out.size)
                              have HI := Aside0.mk hI
                              have HB2 := Aside0.mk hb
                              clear hI hb HR1 HR B1 HB1
                              go_wp2_with fail
                              obtain ⟨A', c', hB3, hV3⟩ := HI.out
                              have B3 := Aside0.mk hB3
                              have V3 := Aside0.mk hV3
                              clear hB3 hV3 HI
                              refine (neg_is w g1 c' false l' A' w2 B3.out HB2.out G1.out).mono ?_
                              rintro e w3 ⟨rfl, m, rfl⟩
                              go_wp2_with fail
                              refine bodyPost_ret (v := .tuple #[.pointer (some ⟨g1, 0, none⟩), .bool true]) (by simp [results, Tryz.results21, go_sem]) rfl ⟨g1, rfl, G1.out, ⟨A', c', ?_, ?_⟩, below_set (pw_below_drewN HB2.out m) G1.out⟩
                              · exact blk_put (blk_drewN B3.out m) 0 _ (by simp)
                              · exact Kd.V_far (p := ⟨g1, 0, none⟩) (Kd.V_drewN V3.out m) (fun _ h => h.1) _
                            · replace c54 := Bool.eq_false_iff.mpr c54
                              subst c54
                              have H1 : (some (x10_5, false)) = some (r1, r2) := by rw [if_neg (show ¬ (false = true) by decide)] at H; exact H
                              clear H
                              simp only [Option.some.injEq, Prod.mk.injEq] at H1
                              obtain ⟨rfl, rfl⟩ := H1
                              obtain ⟨A10, c10, e10⟩ := Kd.R_slice HO_10.out
                              subst e10
                              have HR := Aside0.mk (Kd.R_mono (Kd.R_bound HO_10.out) (ok' := fun k_ => k_ < wr.heap.size ∧ w.heap.size ≤ k_) (fun k_ hk => ⟨hk.2.2.1, hk.2.1⟩))
                              go_wp2_with (((with_reducible refine gate_dst (N := 134) rfl ?_); refine box_event ?hg (N := 134) ?hd (cs := #[.bool false, .slice none 0 0]) (t := 65) ?hr ?_; (case hd => rfl); (case hg => rfl); (case hr => first | (go_simp; done) | (go_simp; rfl)); intro g1 hgq w1 hbx hb; have B1 := Aside0.mk hbx; have gq_g1 := Aside0.mk hgq; clear hbx hgq); have HB1 := Aside0.mk (below_step HB.out hb); have HR1 := Aside0.mk (Kd.R_below HR.out hb); clear hb)
                              refine (setBits_is k2 (fun k_ => k_ < wr.heap.size ∧ w.heap.size ≤ k_) w g1 c10 A10 x10_5 l' false (.slice none 0 0) w1 B1.out HB1.out (by rw [gq_g1.out]; exact HB.out.size) (Kd.R_V HR1.out) (by rw [gq_g1.out]; exact fun h => Nat.lt_irrefl _ h.1) (fun k_ h => h.2) HNm.out).mono ?_
                              rintro e w2 ⟨rfl, hI, hb⟩
                              have G1 := Aside0.mk (show w.heap.size ≤ g1 by rw [gq_g1.out]; exact HB.out.size)
                              have HI := Aside0.mk hI
                              have HB2 := Aside0.mk hb
                              clear hI hb HR1 HR B1 HB1
                              go_wp2_with fail
                              exact bodyPost_ret (v := .tuple #[.pointer (some ⟨g1, 0, none⟩), .bool true]) (by simp [results, Tryz.results21, go_sem]) rfl ⟨g1, rfl, G1.out, by rw [Bool.and_false]; exact HI.out, HB2.out⟩

end Go.Proofs.YtghabdpbacgicaaGreatDoor.S
