/-
  CONTRACTS: impl_ZzDigits2. (Began as print.sh's text over a scratch copy; turned by wip/tools/transplant.py and by hand.)
-/
import Derived.Test.YtghabdpbacgicaaGreatDoorS0
import Derived.Test.YtghabdpbacgicaaGreatDoorTI
import Derived.Test.YtghabdpbacgicaaGreatDoorGInt
namespace Go.Proofs.YtghabdpbacgicaaGreatDoor.S
open Go.Proofs.YtghabdpbacgicaaGreatDoor.G Go.RowKit Go.Proofs.YtghabdpbacgicaaGreatDoorW.PrintWords Go.Proofs.YtghabdpbacgicaaGreatDoorW.PrintLast Go.Proofs.YtghabdpbacgicaaGreatDoorW.PrintMore
attribute [local go_sem] max2_int min2_int max_two min_two max_three min_three max_four min_four
set_option linter.unusedVariables false
set_option linter.unusedSimpArgs false

/-! ### impl_digits -/

mutual
def impl_digits.l0 : Nat → List Int → List Int → List Int → Int → Int → Option (ByteArray)
  | 0, _, _, _, _, _ => none
  | k + 1, x0, x3, x13, x14, x15 => if x15 < x14 then (if 0 ≤ x15 then (if x15 < (x13.length : Int) then ((some (([Go.bits .and .u64 (rd x13 x15) 4294967295, (rd x13 x15) / 4294967296] : List Int) : List Int)).bind fun y126 => (if x3.length + y126.length < 17592186044416 then (impl_digits.l0 k x0 (x3 ++ y126) x13 x14 (wrap64 (x15 + 1))) else (none))) else (none)) else (none)) else (impl_digits.l1 k x0 x3 ([] : List Int))
def impl_digits.l1 : Nat → List Int → List Int → List Int → Option (ByteArray)
  | 0, _, _, _ => none
  | k + 1, x0, x3, x6 => if (x3.length : Int) > 0 then (impl_digits.l2 k x0 x3 x6 0 (wrap64 ((x3.length : Int) - 1))) else (if (x6.length : Int) = 0 then (some (⟨#[48]⟩ : ByteArray)) else (if 0 < x0.length then (if x6.length < 140737488355328 then (impl_digits.j6 k (x6 ++ [45])) else (none)) else (impl_digits.j6 k x6)))
def impl_digits.l2 : Nat → List Int → List Int → List Int → Int → Int → Option (ByteArray)
  | 0, _, _, _, _, _ => none
  | k + 1, x0, x3, x6, x7, x8 => if x8 ≥ 0 then (if 0 ≤ x8 then (if x8 < (x3.length : Int) then (impl_digits.l2 k x0 (x3.set (x8 : Int).toNat (IntKind.u64.wrap (Int.tdiv (Go.bits .or .u64 (IntKind.u64.wrap (x7 * 4294967296)) (rd x3 x8)) 1000000000))) x6 (Int.tmod (Go.bits .or .u64 (IntKind.u64.wrap (x7 * 4294967296)) (rd x3 x8)) 1000000000) (wrap64 (x8 - 1))) else (none)) else (none)) else (impl_digits.l3 k x0 x3 x6 x7)
def impl_digits.j4 : Nat → List Int → List Int → List Int → Int → Option (ByteArray)
  | 0, _, _, _, _ => none
  | k + 1, x0, x3, x6, x7 => impl_digits.l4 k x0 x3 x6 x7 0
def impl_digits.l4 : Nat → List Int → List Int → List Int → Int → Int → Option (ByteArray)
  | 0, _, _, _, _, _ => none
  | k + 1, x0, x3, x6, x7, x9 => if x9 < 9 then (if x7 = 0 then (if (x3.length : Int) > 0 then (if x6.length < 140737488355328 then (impl_digits.l4 k x0 x3 (x6 ++ [(IntKind.u64.wrap (48 + (Int.tmod x7 10))) % 256]) (IntKind.u64.wrap (Int.tdiv x7 10)) (wrap64 (x9 + 1))) else (none)) else (impl_digits.l1 k x0 x3 x6)) else (if x6.length < 140737488355328 then (impl_digits.l4 k x0 x3 (x6 ++ [(IntKind.u64.wrap (48 + (Int.tmod x7 10))) % 256]) (IntKind.u64.wrap (Int.tdiv x7 10)) (wrap64 (x9 + 1))) else (none))) else (impl_digits.l1 k x0 x3 x6)
def impl_digits.l3 : Nat → List Int → List Int → List Int → Int → Option (ByteArray)
  | 0, _, _, _, _ => none
  | k + 1, x0, x3, x6, x7 => if (x3.length : Int) > 0 then (if 0 ≤ (wrap64 ((x3.length : Int) - 1)) then (if (wrap64 ((x3.length : Int) - 1)) < (x3.length : Int) then (if (rd x3 (wrap64 ((x3.length : Int) - 1))) = 0 then (if (wrap64 ((x3.length : Int) - 1)) ≤ (x3.length : Int) then (impl_digits.l3 k x0 (x3.take ((wrap64 ((x3.length : Int) - 1)) : Int).toNat) x6 x7) else (none)) else (impl_digits.j4 k x0 x3 x6 x7)) else (none)) else (none)) else (impl_digits.j4 k x0 x3 x6 x7)
def impl_digits.j6 : Nat → List Int → Option (ByteArray)
  | 0, _ => none
  | k + 1, x6 => impl_digits.l5 k x6 0 (wrap64 ((x6.length : Int) - 1))
def impl_digits.l5 : Nat → List Int → Int → Int → Option (ByteArray)
  | 0, _, _, _ => none
  | k + 1, x6, x10, x11 => if x10 < x11 then (if 0 ≤ x11 then (if x11 < (x6.length : Int) then (if 0 ≤ x10 then (if x10 < (x6.length : Int) then (impl_digits.l5 k ((x6.set (x10 : Int).toNat (rd x6 x11)).set (x11 : Int).toNat (rd x6 x10)) (wrap64 (x10 + 1)) (wrap64 (x11 - 1))) else (none)) else (none)) else (none)) else (none)) else (some (strOfNums x6))
end
/-- (the first list says by its being none or not whether there is a sign) -/
def impl_digits.f (k : Nat) (l0 lx : List Int) : Option (ByteArray) := impl_digits.l0 k l0 ([] : List Int) lx (lx.length : Int) 0
theorem impl_digits.mono_l : ∀ k, (∀ y0 y1 y2 y3 y4, LeO (impl_digits.l0 k y0 y1 y2 y3 y4) (impl_digits.l0 (k + 1) y0 y1 y2 y3 y4)) ∧ (∀ y0 y1 y2, LeO (impl_digits.l1 k y0 y1 y2) (impl_digits.l1 (k + 1) y0 y1 y2)) ∧ (∀ y0 y1 y2 y3 y4, LeO (impl_digits.l2 k y0 y1 y2 y3 y4) (impl_digits.l2 (k + 1) y0 y1 y2 y3 y4)) ∧ (∀ y0 y1 y2 y3, LeO (impl_digits.j4 k y0 y1 y2 y3) (impl_digits.j4 (k + 1) y0 y1 y2 y3)) ∧ (∀ y0 y1 y2 y3 y4, LeO (impl_digits.l4 k y0 y1 y2 y3 y4) (impl_digits.l4 (k + 1) y0 y1 y2 y3 y4)) ∧ (∀ y0 y1 y2 y3, LeO (impl_digits.l3 k y0 y1 y2 y3) (impl_digits.l3 (k + 1) y0 y1 y2 y3)) ∧ (∀ y0, LeO (impl_digits.j6 k y0) (impl_digits.j6 (k + 1) y0)) ∧ (∀ y0 y1 y2, LeO (impl_digits.l5 k y0 y1 y2) (impl_digits.l5 (k + 1) y0 y1 y2))
  | 0 => ⟨fun _ _ _ _ _ r h => by simp [impl_digits.l0] at h, fun _ _ _ r h => by simp [impl_digits.l1] at h, fun _ _ _ _ _ r h => by simp [impl_digits.l2] at h, fun _ _ _ _ r h => by simp [impl_digits.j4] at h, fun _ _ _ _ _ r h => by simp [impl_digits.l4] at h, fun _ _ _ _ r h => by simp [impl_digits.l3] at h, fun _ r h => by simp [impl_digits.j6] at h, fun _ _ _ r h => by simp [impl_digits.l5] at h⟩
  | k + 1 => by
    obtain ⟨ih0, ih1, ih2, ih3, ih4, ih5, ih6, ih7⟩ := impl_digits.mono_l k
    refine ⟨?_, ?_, ?_, ?_, ?_, ?_, ?_, ?_⟩
    · intro y0 y1 y2 y3 y4
      unfold impl_digits.l0
      repeat' first
      | (with_reducible exact ih0 _ _ _ _ _)
      | (with_reducible exact ih1 _ _ _)
      | (with_reducible exact ih2 _ _ _ _ _)
      | (with_reducible exact ih3 _ _ _ _)
      | (with_reducible exact ih4 _ _ _ _ _)
      | (with_reducible exact ih5 _ _ _ _)
      | (with_reducible exact ih6 _)
      | (with_reducible exact ih7 _ _ _)
      | (with_reducible exact LeO.refl _)
      | (with_reducible exact LeO.none _)
      | (with_reducible refine LeO.ite ?_ ?_)
      | (with_reducible refine LeO.bind ?_ (fun _ => ?_))
      | exact ih0 _ _ _ _ _
      | exact ih1 _ _ _
      | exact ih2 _ _ _ _ _
      | exact ih3 _ _ _ _
      | exact ih4 _ _ _ _ _
      | exact ih5 _ _ _ _
      | exact ih6 _
      | exact ih7 _ _ _
      | exact LeO.none _
      | refine LeO.ite ?_ ?_
      | refine LeO.bind ?_ (fun _ => ?_)
    · intro y0 y1 y2
      unfold impl_digits.l1
      repeat' first
      | (with_reducible exact ih0 _ _ _ _ _)
      | (with_reducible exact ih1 _ _ _)
      | (with_reducible exact ih2 _ _ _ _ _)
      | (with_reducible exact ih3 _ _ _ _)
      | (with_reducible exact ih4 _ _ _ _ _)
      | (with_reducible exact ih5 _ _ _ _)
      | (with_reducible exact ih6 _)
      | (with_reducible exact ih7 _ _ _)
      | (with_reducible exact LeO.refl _)
      | (with_reducible exact LeO.none _)
      | (with_reducible refine LeO.ite ?_ ?_)
      | (with_reducible refine LeO.bind ?_ (fun _ => ?_))
      | exact ih0 _ _ _ _ _
      | exact ih1 _ _ _
      | exact ih2 _ _ _ _ _
      | exact ih3 _ _ _ _
      | exact ih4 _ _ _ _ _
      | exact ih5 _ _ _ _
      | exact ih6 _
      | exact ih7 _ _ _
      | exact LeO.none _
      | refine LeO.ite ?_ ?_
      | refine LeO.bind ?_ (fun _ => ?_)
    · intro y0 y1 y2 y3 y4
      unfold impl_digits.l2
      repeat' first
      | (with_reducible exact ih0 _ _ _ _ _)
      | (with_reducible exact ih1 _ _ _)
      | (with_reducible exact ih2 _ _ _ _ _)
      | (with_reducible exact ih3 _ _ _ _)
      | (with_reducible exact ih4 _ _ _ _ _)
      | (with_reducible exact ih5 _ _ _ _)
      | (with_reducible exact ih6 _)
      | (with_reducible exact ih7 _ _ _)
      | (with_reducible exact LeO.refl _)
      | (with_reducible exact LeO.none _)
      | (with_reducible refine LeO.ite ?_ ?_)
      | (with_reducible refine LeO.bind ?_ (fun _ => ?_))
      | exact ih0 _ _ _ _ _
      | exact ih1 _ _ _
      | exact ih2 _ _ _ _ _
      | exact ih3 _ _ _ _
      | exact ih4 _ _ _ _ _
      | exact ih5 _ _ _ _
      | exact ih6 _
      | exact ih7 _ _ _
      | exact LeO.none _
      | refine LeO.ite ?_ ?_
      | refine LeO.bind ?_ (fun _ => ?_)
    · intro y0 y1 y2 y3
      unfold impl_digits.j4
      repeat' first
      | (with_reducible exact ih0 _ _ _ _ _)
      | (with_reducible exact ih1 _ _ _)
      | (with_reducible exact ih2 _ _ _ _ _)
      | (with_reducible exact ih3 _ _ _ _)
      | (with_reducible exact ih4 _ _ _ _ _)
      | (with_reducible exact ih5 _ _ _ _)
      | (with_reducible exact ih6 _)
      | (with_reducible exact ih7 _ _ _)
      | (with_reducible exact LeO.refl _)
      | (with_reducible exact LeO.none _)
      | (with_reducible refine LeO.ite ?_ ?_)
      | (with_reducible refine LeO.bind ?_ (fun _ => ?_))
      | exact ih0 _ _ _ _ _
      | exact ih1 _ _ _
      | exact ih2 _ _ _ _ _
      | exact ih3 _ _ _ _
      | exact ih4 _ _ _ _ _
      | exact ih5 _ _ _ _
      | exact ih6 _
      | exact ih7 _ _ _
      | exact LeO.none _
      | refine LeO.ite ?_ ?_
      | refine LeO.bind ?_ (fun _ => ?_)
    · intro y0 y1 y2 y3 y4
      unfold impl_digits.l4
      repeat' first
      | (with_reducible exact ih0 _ _ _ _ _)
      | (with_reducible exact ih1 _ _ _)
      | (with_reducible exact ih2 _ _ _ _ _)
      | (with_reducible exact ih3 _ _ _ _)
      | (with_reducible exact ih4 _ _ _ _ _)
      | (with_reducible exact ih5 _ _ _ _)
      | (with_reducible exact ih6 _)
      | (with_reducible exact ih7 _ _ _)
      | (with_reducible exact LeO.refl _)
      | (with_reducible exact LeO.none _)
      | (with_reducible refine LeO.ite ?_ ?_)
      | (with_reducible refine LeO.bind ?_ (fun _ => ?_))
      | exact ih0 _ _ _ _ _
      | exact ih1 _ _ _
      | exact ih2 _ _ _ _ _
      | exact ih3 _ _ _ _
      | exact ih4 _ _ _ _ _
      | exact ih5 _ _ _ _
      | exact ih6 _
      | exact ih7 _ _ _
      | exact LeO.none _
      | refine LeO.ite ?_ ?_
      | refine LeO.bind ?_ (fun _ => ?_)
    · intro y0 y1 y2 y3
      unfold impl_digits.l3
      repeat' first
      | (with_reducible exact ih0 _ _ _ _ _)
      | (with_reducible exact ih1 _ _ _)
      | (with_reducible exact ih2 _ _ _ _ _)
      | (with_reducible exact ih3 _ _ _ _)
      | (with_reducible exact ih4 _ _ _ _ _)
      | (with_reducible exact ih5 _ _ _ _)
      | (with_reducible exact ih6 _)
      | (with_reducible exact ih7 _ _ _)
      | (with_reducible exact LeO.refl _)
      | (with_reducible exact LeO.none _)
      | (with_reducible refine LeO.ite ?_ ?_)
      | (with_reducible refine LeO.bind ?_ (fun _ => ?_))
      | exact ih0 _ _ _ _ _
      | exact ih1 _ _ _
      | exact ih2 _ _ _ _ _
      | exact ih3 _ _ _ _
      | exact ih4 _ _ _ _ _
      | exact ih5 _ _ _ _
      | exact ih6 _
      | exact ih7 _ _ _
      | exact LeO.none _
      | refine LeO.ite ?_ ?_
      | refine LeO.bind ?_ (fun _ => ?_)
    · intro y0
      unfold impl_digits.j6
      repeat' first
      | (with_reducible exact ih0 _ _ _ _ _)
      | (with_reducible exact ih1 _ _ _)
      | (with_reducible exact ih2 _ _ _ _ _)
      | (with_reducible exact ih3 _ _ _ _)
      | (with_reducible exact ih4 _ _ _ _ _)
      | (with_reducible exact ih5 _ _ _ _)
      | (with_reducible exact ih6 _)
      | (with_reducible exact ih7 _ _ _)
      | (with_reducible exact LeO.refl _)
      | (with_reducible exact LeO.none _)
      | (with_reducible refine LeO.ite ?_ ?_)
      | (with_reducible refine LeO.bind ?_ (fun _ => ?_))
      | exact ih0 _ _ _ _ _
      | exact ih1 _ _ _
      | exact ih2 _ _ _ _ _
      | exact ih3 _ _ _ _
      | exact ih4 _ _ _ _ _
      | exact ih5 _ _ _ _
      | exact ih6 _
      | exact ih7 _ _ _
      | exact LeO.none _
      | refine LeO.ite ?_ ?_
      | refine LeO.bind ?_ (fun _ => ?_)
    · intro y0 y1 y2
      unfold impl_digits.l5
      repeat' first
      | (with_reducible exact ih0 _ _ _ _ _)
      | (with_reducible exact ih1 _ _ _)
      | (with_reducible exact ih2 _ _ _ _ _)
      | (with_reducible exact ih3 _ _ _ _)
      | (with_reducible exact ih4 _ _ _ _ _)
      | (with_reducible exact ih5 _ _ _ _)
      | (with_reducible exact ih6 _)
      | (with_reducible exact ih7 _ _ _)
      | (with_reducible exact LeO.refl _)
      | (with_reducible exact LeO.none _)
      | (with_reducible refine LeO.ite ?_ ?_)
      | (with_reducible refine LeO.bind ?_ (fun _ => ?_))
      | exact ih0 _ _ _ _ _
      | exact ih1 _ _ _
      | exact ih2 _ _ _ _ _
      | exact ih3 _ _ _ _
      | exact ih4 _ _ _ _ _
      | exact ih5 _ _ _ _
      | exact ih6 _
      | exact ih7 _ _ _
      | exact LeO.none _
      | refine LeO.ite ?_ ?_
      | refine LeO.bind ?_ (fun _ => ?_)
def impl_digits.T30 : Bool × List (List Nat × List Nat) := (true, [([], []), ([], []), ([], []), ([], []), ([], []), ([], []), ([4, 5], [4, 5]), ([6], [6]), ([], []), ([], []), ([8, 9], [8, 9]), ([10], [10]), ([0, 1, 0, 1, 4, 5, 6, 7, 11], [0, 1]), ([12, 7, 0, 1, 4, 5, 6, 7, 11], [7, 12]), ([2, 3, 0, 1, 2, 3, 4, 5, 6, 7, 8, 9, 10, 11, 12, 13], [2, 3]), ([14, 11, 13, 0, 1, 2, 3, 4, 5, 6, 7, 8, 9, 10, 11, 12, 13], [11, 14])])
def impl_digits.B30 : List Nat := [0, 0, 0, 0, 0, 0, 48, 112, 0, 0, 768, 1792, 4083, 8179, 16383, 32767]
theorem impl_digits.tab30 : rtab .any (opsOf Tryz.f24 30) = impl_digits.T30 := by kernel_rfl
theorem impl_digits.bits30 : waitsOk impl_digits.T30.2 impl_digits.B30 = true := by kernel_rfl
set_option maxHeartbeats 8000000 in
set_option maxRecDepth 100000 in
theorem impl_digits.calls (k : Nat) (bs g : Nat) (b : Bool) (l0 lx : List Int) (r : ByteArray) (w : World) (hI : IntAt w bs g b lx) (hsg : decide (sgnI b lx < 0) = decide (0 < l0.length)) (h : impl_digits.f k l0 lx = some r) :
    Calls Tryz.prog 24 #[.pointer (some ⟨g, 0, none⟩)] w fun e w' => e = .returned (.string r) ∧ Below w.heap.size w w' := by
  obtain ⟨A0, c0, hBg, hVg⟩ := id hI
  have HI := Aside0.mk hI
  have HSG := Aside0.mk hsg
  have HR124 := Aside0.mk (Kd.V_reads' hVg).2.2
  have HC124 := Aside0.mk (Kd.V_reads' hVg).2.1
  have HBits := Aside0.mk (fun w0 (hb : Below w.heap.size w w0) => bits_is g b lx A0 c0 w0 (blk_below hBg hb))
  clear hI hBg hVg hsg
  have HB := Aside0.mk (Below.refl w.heap.size w)
  have H' := Aside0.mk (show impl_digits.l0 k l0 ([] : List Int) lx (lx.length : Int) 0 = some r from h)
  clear h
  · go_enter Tryz.func24, Tryz.ntmps24
    go_wp2_with (go_at_call 39; refine (HBits.out _ (Below.refl _ _)).mono ?_; rintro e w' ⟨rfl, rfl⟩)
    go_loopg [3, 15] k (fun kq v3 v15 w' => ∃ (x3_1 : List Int) (x15_1 : Int), v15 = .int .i64 x15_1 ∧ Aside0 (impl_digits.l0 kq l0 x3_1 lx (lx.length : Int) x15_1 = some r) ∧ Aside0 (kq ≤ k) ∧ Aside0 (Kd.R (Kd.int .u64) 77 w' w.heap.size (fun _ => True) v3 x3_1) ∧ Aside0 (Below w.heap.size w w'))
    case atStart => exact ⟨(([] : List Int)), (0), (by first | rfl | (simp; done) | (simp [*]; done)), H', ⟨Nat.le_refl _⟩, ⟨by first | exact Kd.R_nil _ _ _ _ _ | exact Kd.N_nil _ _ _ _ _ | exact Kd.V_nil _ _ _ _ _ | exact Kd.Q_nil _ _ _ _ _ | exact Kd.S_nil _ _ _ _ _⟩, ⟨by repeat (first | (with_reducible first | exact HB.out | apply below_alloc | apply pw_below_drewN | apply below_drew1) | exact HB.out)⟩⟩
    case round =>
      clear H'
      try clear c2
      try clear c2b0
      try clear c2b1
      try clear p2
      obtain ⟨x3_1, x15_1, rfl, HA, HK1, HO_3, HB⟩ := hrel
      cases gk with
      | zero => exact absurd HA.out (by simp [impl_digits.l0])
      | succ k1 =>
        have H := HA.out
        clear HA
        simp only [impl_digits.l0] at H
        by_cases c4 : x15_1 < (lx.length : Int)
        · rw [if_pos c4] at H
          have c4b0 : decide (x15_1 < (lx.length : Int)) = true := decide_eq_true c4
          clear c4
          by_cases c5 : 0 ≤ x15_1
          · rw [if_pos c5] at H
            have c5b0 : decide (0 ≤ x15_1) = true := decide_eq_true c5
            clear c5
            by_cases c6 : x15_1 < (lx.length : Int)
            · rw [if_pos c6] at H
              have c6b0 : decide (x15_1 < (lx.length : Int)) = true := decide_eq_true c6
              clear c6
              obtain ⟨y126, hy126⟩ : ∃ y_ : List Int, y_ = (([Go.bits .and .u64 (rd lx x15_1) 4294967295, (rd lx x15_1) / 4294967296] : List Int)) := ⟨_, rfl⟩
              replace H : (if x3_1.length + y126.length < 17592186044416 then (impl_digits.l0 k1 l0 (x3_1 ++ y126) lx (lx.length : Int) (wrap64 (x15_1 + 1))) else (none)) = some r := by first | (rw [hy126]; with_reducible exact H) | (have H2_ := (Option.bind_some _ _).symm.trans H; rw [hy126]; with_reducible exact H2_) | (have H2_ := (Option.bind_some _ _).symm.trans H; with_reducible exact H2_) | with_reducible exact H | (rw [hy126]; exact H) | exact H
              have Ny126 := Aside0.mk hy126
              clear hy126
              by_cases c7 : x3_1.length + y126.length < 17592186044416
              · rw [if_pos c7] at H
                have LMc7 := Aside0.mk c7
                clear c7
                obtain ⟨y129, hy129⟩ : ∃ y_ : List Int, y_ = (x3_1 ++ y126) := ⟨_, rfl⟩
                replace H : (impl_digits.l0 k1 l0 y129 lx (lx.length : Int) (wrap64 (x15_1 + 1))) = some r := by first | (rw [hy129]; with_reducible exact H) | (have H2_ := (Option.bind_some _ _).symm.trans H; rw [hy129]; with_reducible exact H2_) | (have H2_ := (Option.bind_some _ _).symm.trans H; with_reducible exact H2_) | with_reducible exact H | (rw [hy129]; exact H) | exact H
                have Ny129 := Aside0.mk hy129
                clear hy129
                have H' := Aside0.mk H
                clear H
                have p125 : 0 ≤ (x15_1 : Int) := of_decide_eq_true (by first | (with_reducible assumption) | assumption)
                have q125 : x15_1 < (lx.length : Int) := of_decide_eq_true (by first | (with_reducible assumption) | assumption)
                obtain ⟨ad125, e125, hx125_0⟩ := Kd.at_int HR124.out x15_1 p125 q125
                cases e125
                replace hx125_0 := (HB.out.cell (World.block_lt_of_cell? w _ hx125_0)).trans hx125_0
                replace p125 := eq_true p125
                replace q125 := eq_true q125
                go_wp2_with (first | ((with_reducible refine gate_dst (N := 24) rfl ?_); (try (refine gate_guard (by rfl) ?_; dsimp only)); refine Kd.R_lit (Kd.int .u64) _ 77 ?hg (N := 24) ?hd (xs := ([Go.bits .and .u64 (rd lx x15_1) 4294967295, (rd lx x15_1) / 4294967296] : List Int)) (inner := [.int .u64 (Go.bits .and .u64 (rd lx x15_1) 4294967295), .int .u64 ((rd lx x15_1) / 4294967296)]) (ok := fun _ => True) (okp := fun _ => True) ?hr ?hp (fun _ hk => hk) trivial (Below.refl _ _) (Nat.le_refl _) (by simp) ?_; (case hd => rfl); (case hg => rfl); (case hr => first | (go_simp; done) | (go_simp; rfl)); (case hp => exact (Reps.one (show Kd.M (Kd.int .u64) _ _ _ (Go.bits .and .u64 (rd lx x15_1) 4294967295) [.int .u64 (Go.bits .and .u64 (rd lx x15_1) 4294967295)] from rfl) (Reps.one (show Kd.M (Kd.int .u64) _ _ _ ((rd lx x15_1) / 4294967296) [.int .u64 ((rd lx x15_1) / 4294967296)] from rfl) (Reps.none _ _)))); intro v127 w8 ho9 hb hg_ hnew_; clear hg_ hnew_; (first | rw [← Ny126.out] at ho9 | (simp only [Int.reduceToNat] at ho9; rw [← Ny126.out] at ho9)); have n0_ := Aside0.mk (Kd.R_elder' (by (with_reducible repeat (first | apply Kd.R_alloc | apply Kd.R_drewN | apply Kd.R_drew)); exact HO_3.out) (Kd.R_base ho9) hb); have n1_ := Aside0.mk (Kd.R_lower (Kd.R_new' ho9 (Kd.R_lt (by (with_reducible repeat (first | apply Kd.R_alloc | apply Kd.R_drewN | apply Kd.R_drew)); exact HO_3.out))) (below_size (by repeat (first | (with_reducible first | exact HB.out | apply below_alloc | apply pw_below_drewN | apply below_drew1) | exact HB.out)))); have n2_ := Aside0.mk (below_step (by repeat (first | (with_reducible first | exact HB.out | apply below_alloc | apply pw_below_drewN | apply below_drew1) | exact HB.out)) hb); clear HO_3; clear HB; have HO_3 := n0_; have HO128 := n1_; have HB := n2_; clear n0_ n1_ n2_; clear hb ho9; obtain ⟨Ao11, co11, eo11⟩ := Kd.R_slice HO128.out; subst eo11) | ((with_reducible refine gate_builtin (b := .append) (xs := #[.tmp 19, .tmp 24]) rfl ?_); (try (refine gate_guard (by rfl) ?_; dsimp only)); at_builtin; refine Kd.R_append_rows (Kd.int .u64) (w0 := w) w.heap.size rfl (.tmp 19) (.tmp 24) 79 77 (.int .u64 0) 8 rfl Tryz.underlying79 tinfo_u64 rfl (by decide) (by omega) u3 x3_1 y126 _ _ _ (fun k_ => some k_ ≠ (.slice Ao11 y126.length co11 : Value).ownBlock) (fun _ => False) rfl rfl ?aO ?aR (fun _ _ h => h) (fun _ h => h.elim) ?aF ?aB ?aS ?aL ?_; (case aR => repeat (first | exact (Kd.R_reads' HO128.out).2.2 | (with_reducible refine Kd.C_alloc ?_ _) | (with_reducible refine Kd.C_drewN ?_ _) | (with_reducible refine Kd.C_drew ?_))); (case aB => exact (by repeat (first | (with_reducible first | exact HB.out | apply below_alloc | apply pw_below_drewN | apply below_drew1) | exact HB.out))); (case aF => exact (fun k_ hk => Kd.fresh' (Kd.R_lt (by (with_reducible repeat (first | apply Kd.R_alloc | apply Kd.R_drewN | apply Kd.R_drew)); exact HO128.out)) k_ hk)); (case aO => exact (by (with_reducible repeat (first | apply Kd.R_alloc | apply Kd.R_drewN | apply Kd.R_drew)); exact Kd.R_mono HO_3.out (fun _ hk => hk.2))); (case aS => exact (below_size (by repeat (first | (with_reducible first | exact HB.out | apply below_alloc | apply pw_below_drewN | apply below_drew1) | exact HB.out)))); (case aL => have := LMc7.out; omega); intro v130 w10 ho hb hg hat; rw [← Ny129.out] at ho; have n0_ := Aside0.mk (Kd.R_after (ok := (fun _ => True)) (by (with_reducible repeat (first | apply Kd.R_alloc | apply Kd.R_drewN | apply Kd.R_drew)); exact HO128.out) hg hat); have n1_ := Aside0.mk (hb); have n2_ := Aside0.mk (ho); clear HO128; clear HB; clear HO_3; have HO128 := n0_; have HB := n1_; have HO131 := n2_; clear n0_ n1_ n2_; clear ho hb hg hat))
                go_roundg k1
                case measure => have := HK1.out; omega
                case rel => exact ⟨(y129), (wrap64 (x15_1 + 1)), (by first | rfl | (simp; done) | (simp [*]; done)), H', ⟨by have := HK1.out; omega⟩, ⟨by (with_reducible repeat (first | apply Kd.R_alloc | apply Kd.R_drewN | apply Kd.R_drew)); exact Kd.R_mono HO131.out (fun _ hk => trivial)⟩, ⟨by repeat (first | (with_reducible first | exact HB.out | apply below_alloc | apply pw_below_drewN | apply below_drew1) | exact HB.out)⟩⟩
              · rw [if_neg c7] at H
                exact absurd H (by simp)
            · rw [if_neg c6] at H
              exact absurd H (by simp)
          · rw [if_neg c5] at H
            exact absurd H (by simp)
        · rw [if_neg c4] at H
          have c4b0 : decide (x15_1 < (lx.length : Int)) = false := decide_eq_false c4
          clear c4
          have H' := Aside0.mk H
          clear H
          go_wp2
          go_loopg [3, 6] k1 (fun kq v3 v6 w' => ∃ (x3_2 : List Int) (x6_2 : List Int), Aside0 (impl_digits.l1 kq l0 x3_2 x6_2 = some r) ∧ Aside0 (kq ≤ k1) ∧ Aside0 (Kd.R (Kd.int .u64) 77 w' w.heap.size (fun _ => True) v3 x3_2) ∧ Aside0 (Kd.R (Kd.int .u8) 5 w' w.heap.size (fun _ => True) v6 x6_2) ∧ Aside0 (Below w.heap.size w w'))
          case atStart => exact ⟨(x3_1), (([] : List Int)), H', ⟨Nat.le_refl _⟩, ⟨by (with_reducible repeat (first | apply Kd.R_alloc | apply Kd.R_drewN | apply Kd.R_drew)); exact HO_3.out⟩, ⟨by first | exact Kd.R_nil _ _ _ _ _ | exact Kd.N_nil _ _ _ _ _ | exact Kd.V_nil _ _ _ _ _ | exact Kd.Q_nil _ _ _ _ _ | exact Kd.S_nil _ _ _ _ _⟩, ⟨by repeat (first | (with_reducible first | exact HB.out | apply below_alloc | apply pw_below_drewN | apply below_drew1) | exact HB.out)⟩⟩
          case round =>
            clear H'
            try clear p1
            try clear q1
            try clear hx1
            try clear c2
            try clear c2b0
            try clear c2b1
            try clear p2
            try clear c4
            try clear c4b0
            try clear c5
            try clear c5b0
            try clear c6
            try clear c6b0
            try clear p6
            try clear c7
            try clear hx125_0
            try clear p125
            try clear p2
            try clear q125
            obtain ⟨x3_2, x6_2, HA, HK2, HO_3, HO_6, HB⟩ := hrel
            cases gk with
            | zero => exact absurd HA.out (by simp [impl_digits.l1])
            | succ k2 =>
              have H := HA.out
              clear HA
              simp only [impl_digits.l1] at H
              by_cases c12 : (x3_2.length : Int) > 0
              · rw [if_pos c12] at H
                have c12b0 : decide (0 < (x3_2.length : Int)) = true := decide_eq_true c12
                have c12b1 : decide (0 < x3_2.length) = true := decide_eq_true (by omega)
                clear c12
                have H' := Aside0.mk H
                clear H
                obtain ⟨Ao13, co13, eo13⟩ := Kd.R_slice HO_3.out
                subst eo13
                go_wp2
                go_loopg [7, 8] k2 (fun kq v7 v8 w' => ∃ (x3_3 : List Int) (x7_3 : Int) (x8_3 : Int), v7 = .int .u64 x7_3 ∧ v8 = .int .i64 x8_3 ∧ Aside0 (impl_digits.l2 kq l0 x3_3 x6_2 x7_3 x8_3 = some r) ∧ Aside0 (kq ≤ k2) ∧ Aside0 (Kd.R (Kd.int .u64) 77 w' w.heap.size (fun _ => True) (.slice Ao13 x3_2.length co13) x3_3) ∧ Aside0 (Kd.R (Kd.int .u8) 5 w' w.heap.size (fun _ => True) u6 x6_2) ∧ Aside0 (Below w.heap.size w w'))
                case atStart => exact ⟨(x3_2), (0), (wrap64 ((x3_2.length : Int) - 1)), (by first | rfl | (simp; done) | (simp [*]; done)), (by first | rfl | (simp; done) | (simp [*]; done)), H', ⟨Nat.le_refl _⟩, ⟨by (with_reducible repeat (first | apply Kd.R_alloc | apply Kd.R_drewN | apply Kd.R_drew)); exact HO_3.out⟩, ⟨by (with_reducible repeat (first | apply Kd.R_alloc | apply Kd.R_drewN | apply Kd.R_drew)); exact HO_6.out⟩, ⟨by repeat (first | (with_reducible first | exact HB.out | apply below_alloc | apply pw_below_drewN | apply below_drew1) | exact HB.out)⟩⟩
                case round =>
                  clear H'
                  try clear c1
                  try clear p1
                  try clear q1
                  try clear hx1
                  try clear c2
                  try clear c2b0
                  try clear c2b1
                  try clear p2
                  try clear c4
                  try clear c4b0
                  try clear c5
                  try clear c5b0
                  try clear c6
                  try clear c6b0
                  try clear p6
                  try clear c7
                  try clear c12
                  try clear c12b0
                  try clear c12b1
                  try clear p12
                  try clear q12
                  try clear hx12
                  try clear hx125_0
                  try clear p1
                  try clear p125
                  try clear p2
                  try clear p6
                  try clear q1
                  try clear q125
                  obtain ⟨x3_3, x7_3, x8_3, rfl, rfl, HA, HK3, HO_3, HO_6, HB⟩ := hrel
                  have hl3_3 := (Kd.R_reads' HO_3.out).1
                  rw [hl3_3] at HO_3
                  (try simp only [hl3_3])
                  (try simp only [hl3_3] at HO_6)
                  cases gk with
                  | zero => exact absurd HA.out (by simp [impl_digits.l2])
                  | succ k3 =>
                    have H := HA.out
                    clear HA
                    simp only [impl_digits.l2] at H
                    by_cases c14 : x8_3 ≥ 0
                    · rw [if_pos c14] at H
                      have c14b0 : decide (0 ≤ x8_3) = true := decide_eq_true c14
                      clear c14
                      by_cases c15 : 0 ≤ x8_3
                      · rw [if_pos c15] at H
                        have c15b0 : decide (0 ≤ x8_3) = true := decide_eq_true c15
                        clear c15
                        by_cases c16 : x8_3 < (x3_3.length : Int)
                        · rw [if_pos c16] at H
                          have c16b0 : decide (x8_3 < (x3_3.length : Int)) = true := decide_eq_true c16
                          clear c16
                          obtain ⟨y133, hy133⟩ : ∃ y_ : List Int, y_ = (x3_3.set (x8_3 : Int).toNat (IntKind.u64.wrap (Int.tdiv (Go.bits .or .u64 (IntKind.u64.wrap (x7_3 * 4294967296)) (rd x3_3 x8_3)) 1000000000))) := ⟨_, rfl⟩
                          replace H : (impl_digits.l2 k3 l0 y133 x6_2 (Int.tmod (Go.bits .or .u64 (IntKind.u64.wrap (x7_3 * 4294967296)) (rd x3_3 x8_3)) 1000000000) (wrap64 (x8_3 - 1))) = some r := by first | (rw [hy133]; with_reducible exact H) | (have H2_ := (Option.bind_some _ _).symm.trans H; rw [hy133]; with_reducible exact H2_) | (have H2_ := (Option.bind_some _ _).symm.trans H; with_reducible exact H2_) | with_reducible exact H | (rw [hy133]; exact H) | exact H
                          have Ny133 := Aside0.mk hy133
                          clear hy133
                          have H' := Aside0.mk H
                          clear H
                          have p132 : 0 ≤ (x8_3 : Int) := of_decide_eq_true (by first | (with_reducible assumption) | assumption)
                          have q132 : x8_3 < (x3_3.length : Int) := of_decide_eq_true (by first | (with_reducible assumption) | assumption)
                          obtain ⟨ad132, e132, hx132_0⟩ := Kd.at_int (Kd.R_reads' HO_3.out).2.2 x8_3 p132 q132
                          cases e132
                          replace p132 := eq_true p132
                          replace q132 := eq_true q132
                          have p17 : 0 ≤ (x8_3 : Int) := of_decide_eq_true (by first | (with_reducible assumption) | assumption)
                          have q17 : (x8_3 : Int) < ((x3_3.length : Int) : Int) := of_decide_eq_true (by first | (with_reducible assumption) | assumption)
                          obtain ⟨go17, co17, eo17, gb17, gl17, cl17, HG17⟩ := Kd.R_form HO_3.out (by omega)
                          (first | cases eo17 | (injection eo17 with ea_ en_ ec_; (first | subst ea_ | (injection ea_ with ea_; subst ea_)); subst ec_; clear en_))
                          have GB17 := Aside0.mk gb17
                          have GG17 := Aside0.mk HG17
                          clear gb17 gl17 HG17
                          (first | simp only [add_plain] at hx132_0 | skip)
                          obtain ⟨hx17_0, hf17_0⟩ := Kd.R_celln 0 HO_3.out (x8_3 : Int) p17 q17
                          replace p17 := eq_true p17
                          replace q17 := eq_true q17
                          have HP18 := Kd.R_putg HO_3.out (x8_3 : Int) (IntKind.u64.wrap (Int.tdiv (Go.bits .or .u64 (IntKind.u64.wrap (x7_3 * 4294967296)) (rd x3_3 x8_3)) 1000000000))
                          go_wp2_with (first | ((with_reducible refine gate_store (t := 77) (p := 48) rfl ?_); refine store_event (t := 77) (p := 48) (v := ?vo_w19) (w1 := (wr.setCell ⟨go17, (x8_3 : Int).toNat, none⟩ (.int .u64 (IntKind.u64.wrap (Int.tdiv (Go.bits .or .u64 (IntKind.u64.wrap (x7_3 * 4294967296)) (rd x3_3 x8_3)) 1000000000))))) ?hg ?ho ?hn ?hr ?_; (case ho => rfl); (case hg => rfl); (case hn => rfl); (case hr => first | (go_simp; done) | (go_simp; rfl)); intro w19 hw; have hg : wr.grownBy w19 (some go17) := (by rw [hw]; exact HP18.2); have hp_ : Kd.R (Kd.int .u64) 77 w19 w.heap.size (fun _ => True) (.slice (some ⟨go17, 0, none⟩) x3_3.length co13) y133 := (by rw [hw, Ny133.out]; exact HP18.1); clear HP18; have n0_ := Aside0.mk (hp_); have n1_ := Aside0.mk (Kd.R_over' (v := (.slice (some ⟨go17, 0, none⟩) x3_3.length co13)) (by (with_reducible repeat (first | apply Kd.R_alloc | apply Kd.R_drewN | apply Kd.R_drew)); exact HO_6.out) (Kd.R_typed HO_3.out) (by decide) hg); have n2_ := Aside0.mk ((by rw [hw]; exact below_set (HB.out) GB17.out : Below w.heap.size w w19)); clear HO_3; clear HO_6; clear HB; have HO_3 := n0_; have HO_6 := n1_; have HB := n2_; clear n0_ n1_ n2_; clear hg hw hp_))
                          (try simp only [← hl3_3])
                          go_roundg k3
                          case measure => have := HK1.out; have := HK2.out; have := HK3.out; omega
                          case rel => exact ⟨(y133), (Int.tmod (Go.bits .or .u64 (IntKind.u64.wrap (x7_3 * 4294967296)) (rd x3_3 x8_3)) 1000000000), (wrap64 (x8_3 - 1)), (by first | rfl | (simp; done) | (simp [*]; done)), (by first | rfl | (simp; done) | (simp [*]; done)), H', ⟨by have := HK1.out; have := HK2.out; have := HK3.out; omega⟩, ⟨by (try simp only [hl3_3]); (with_reducible repeat (first | apply Kd.R_alloc | apply Kd.R_drewN | apply Kd.R_drew)); exact HO_3.out⟩, ⟨by (try simp only [hl3_3]); (with_reducible repeat (first | apply Kd.R_alloc | apply Kd.R_drewN | apply Kd.R_drew)); exact HO_6.out⟩, ⟨by repeat (first | (with_reducible first | exact HB.out | apply below_alloc | apply pw_below_drewN | apply below_drew1) | exact HB.out)⟩⟩
                        · rw [if_neg c16] at H
                          exact absurd H (by simp)
                      · rw [if_neg c15] at H
                        exact absurd H (by simp)
                    · rw [if_neg c14] at H
                      have c14b0 : decide (0 ≤ x8_3) = false := decide_eq_false c14
                      clear c14
                      have HC20 := Aside0.mk H
                      clear H
                      go_upto_block 6 with (fail)
                      go_cut [3] (fun v3 wc => ∃ (kq : Nat) (x3_19 : List Int), Aside0 (impl_digits.j4 kq l0 x3_19 x6_2 x7_3 = some r) ∧ Aside0 (kq ≤ k3) ∧ Aside0 (Kd.R (Kd.int .u64) 77 wc w.heap.size (fun _ => True) v3 x3_19) ∧ Aside0 (Kd.R (Kd.int .u8) 5 wc w.heap.size (fun _ => True) u6 x6_2) ∧ Aside0 (Below w.heap.size w wc))
                      case first =>
                        have H := HC20.out
                        clear HC20
                        have H' := Aside0.mk H
                        clear H
                        go_wp2
                        go_loopg [3] k3 (fun kq v3 w' => ∃ (x3_4 : List Int), Aside0 (impl_digits.l3 kq l0 x3_4 x6_2 x7_3 = some r) ∧ Aside0 (kq ≤ k3) ∧ Aside0 (Kd.R (Kd.int .u64) 77 w' w.heap.size (fun _ => True) v3 x3_4) ∧ Aside0 (Kd.R (Kd.int .u8) 5 w' w.heap.size (fun _ => True) u6 x6_2) ∧ Aside0 (Below w.heap.size w w'))
                        case atStart => exact ⟨(x3_3), H', ⟨Nat.le_refl _⟩, ⟨by (try simp only [hl3_3]); (with_reducible repeat (first | apply Kd.R_alloc | apply Kd.R_drewN | apply Kd.R_drew)); exact HO_3.out⟩, ⟨by (try simp only [hl3_3]); (with_reducible repeat (first | apply Kd.R_alloc | apply Kd.R_drewN | apply Kd.R_drew)); exact HO_6.out⟩, ⟨by repeat (first | (with_reducible first | exact HB.out | apply below_alloc | apply pw_below_drewN | apply below_drew1) | exact HB.out)⟩⟩
                        case round =>
                          clear H'
                          try clear c1
                          try clear p1
                          try clear q1
                          try clear hx1
                          try clear hf1
                          try clear c2
                          try clear c2b0
                          try clear c2b1
                          try clear p2
                          try clear c4
                          try clear c4b0
                          try clear c5
                          try clear c5b0
                          try clear c6
                          try clear c6b0
                          try clear p6
                          try clear c7
                          try clear c12
                          try clear c12b0
                          try clear c12b1
                          try clear p12
                          try clear q12
                          try clear hx12
                          try clear p13
                          try clear q13
                          try clear hx13
                          try clear c14
                          try clear c14b0
                          try clear c15
                          try clear c15b0
                          try clear c16
                          try clear c16b0
                          try clear p17
                          try clear q17
                          try clear hx17
                          try clear hf17
                          try clear hx125_0
                          try clear hx132_0
                          try clear hx17_0
                          try clear p1
                          try clear p12
                          try clear p125
                          try clear p132
                          try clear p17
                          try clear p2
                          try clear p6
                          try clear q1
                          try clear q12
                          try clear q125
                          try clear q132
                          try clear q17
                          obtain ⟨x3_4, HA, HK4, HO_3, HO_6, HB⟩ := hrel
                          cases gk with
                          | zero => exact absurd HA.out (by simp [impl_digits.l3])
                          | succ k4 =>
                            have H := HA.out
                            clear HA
                            simp only [impl_digits.l3] at H
                            by_cases c21 : (x3_4.length : Int) > 0
                            · rw [if_pos c21] at H
                              have c21b0 : decide (0 < (x3_4.length : Int)) = true := decide_eq_true c21
                              have c21b1 : decide (0 < x3_4.length) = true := decide_eq_true (by omega)
                              clear c21
                              (first | rw [c21b0] | (simp only [i64_w, i32_w]; rw [c21b0]) | skip)
                              obtain ⟨ji22, hji22⟩ : ∃ j_ : Int, (wrap64 ((x3_4.length : Int) - 1)) = j_ := ⟨_, rfl⟩
                              replace H : (if 0 ≤ (ji22) then (if (ji22) < (x3_4.length : Int) then (if (rd x3_4 (ji22)) = 0 then (if (ji22) ≤ (x3_4.length : Int) then (impl_digits.l3 k4 l0 (x3_4.take ((ji22) : Int).toNat) x6_2 x7_3) else (none)) else (impl_digits.j4 k4 l0 x3_4 x6_2 x7_3)) else (none)) else (none)) = some r := by first | (rw [hji22] at H; exact H) | (simp only [hji22] at H ⊢; exact H)
                              have hji22w : (IntKind.i64.wrap ((x3_4.length : Int) - 1)) = ji22 := (i64_w _).trans hji22
                              by_cases c23 : 0 ≤ (ji22)
                              · rw [if_pos c23] at H
                                have c23b0 : decide (0 ≤ (ji22)) = true := decide_eq_true c23
                                clear c23
                                by_cases c24 : (ji22) < (x3_4.length : Int)
                                · rw [if_pos c24] at H
                                  have c24b0 : decide ((ji22) < (x3_4.length : Int)) = true := decide_eq_true c24
                                  clear c24
                                  by_cases c25 : (rd x3_4 (ji22)) = 0
                                  · rw [if_pos c25] at H
                                    have c25b0 : ((rd x3_4 (ji22)) == 0) = true := beq_iff_eq.mpr c25
                                    have c25b1 : ((rd x3_4 (ji22)) != 0) = false := bne_eq_false_iff_eq.mpr c25
                                    clear c25
                                    by_cases c26 : (ji22) ≤ (x3_4.length : Int)
                                    · rw [if_pos c26] at H
                                      have c26b0 := eq_true c26
                                      have c26b1 : decide ((ji22) ≤ (x3_4.length : Int)) = true := decide_eq_true c26
                                      clear c26
                                      obtain ⟨y135, hy135⟩ : ∃ y_ : List Int, y_ = (x3_4.take ((ji22) : Int).toNat) := ⟨_, rfl⟩
                                      replace H : (impl_digits.l3 k4 l0 y135 x6_2 x7_3) = some r := by first | (rw [hy135]; with_reducible exact H) | (have H2_ := (Option.bind_some _ _).symm.trans H; rw [hy135]; with_reducible exact H2_) | (have H2_ := (Option.bind_some _ _).symm.trans H; with_reducible exact H2_) | with_reducible exact H | (rw [hy135]; exact H) | exact H
                                      have Ny135 := Aside0.mk hy135
                                      clear hy135
                                      have H' := Aside0.mk H
                                      clear H
                                      obtain ⟨Ao27, co27, eo27⟩ := Kd.R_slice HO_3.out
                                      subst eo27
                                      have p134 : 0 ≤ ((ji22) : Int) := of_decide_eq_true (by first | (with_reducible assumption) | assumption)
                                      have q134 : (ji22) < (x3_4.length : Int) := of_decide_eq_true (by first | (with_reducible assumption) | assumption)
                                      obtain ⟨ad134, e134, hx134_0⟩ := Kd.at_int (Kd.R_reads' HO_3.out).2.2 (ji22) p134 q134
                                      cases e134
                                      replace p134 := eq_true p134
                                      replace q134 := eq_true q134
                                      have q28 : ((ji22) : Int) ≤ ((x3_4.length : Int) : Int) := of_decide_eq_true (by first | (with_reducible assumption) | assumption)
                                      obtain ⟨i028, hi028, _, hsz28, _⟩ := info_parts tinfo_u64
                                      have hcut28 := cut_to (P := Tryz.prog) 79 77 .i64 Tryz.underlying79 hi028 (some ad134) x3_4.length co27 (ji22) (of_decide_eq_true (by first | (with_reducible assumption) | assumption)) q28 (Kd.R_reads' HO_3.out).2.1
                                      have hr28 := Kd.R_take (m := ((ji22) : Int).toNat) HO_3.out (by omega)
                                      have hy28 : y135.length = ((ji22) : Int).toNat := (by rw [Ny135.out, List.length_take]; omega)
                                      rw [← Ny135.out] at hr28
                                      rw [← hy28] at hr28 hcut28
                                      clear hy28 hi028 hsz28 HO_3
                                      have HO137 := Aside0.mk hr28
                                      clear hr28
                                      replace q28 := eq_true q28
                                      go_wp2
                                      go_roundg k4
                                      case measure => have := HK1.out; have := HK2.out; have := HK3.out; have := HK4.out; omega
                                      case rel => exact ⟨(y135), H', ⟨by have := HK1.out; have := HK2.out; have := HK3.out; have := HK4.out; omega⟩, ⟨by (try simp only [hl3_3]); (with_reducible repeat (first | apply Kd.R_alloc | apply Kd.R_drewN | apply Kd.R_drew)); exact HO137.out⟩, ⟨by (try simp only [hl3_3]); (with_reducible repeat (first | apply Kd.R_alloc | apply Kd.R_drewN | apply Kd.R_drew)); exact HO_6.out⟩, ⟨by repeat (first | (with_reducible first | exact HB.out | apply below_alloc | apply pw_below_drewN | apply below_drew1) | exact HB.out)⟩⟩
                                    · rw [if_neg c26] at H
                                      exact absurd H (by simp)
                                  · rw [if_neg c25] at H
                                    have c25b0 : ((rd x3_4 (ji22)) == 0) = false := beq_eq_false_iff_ne.mpr c25
                                    have c25b1 : ((rd x3_4 (ji22)) != 0) = true := bne_iff_ne.mpr c25
                                    have H' := Aside0.mk H
                                    clear H
                                    obtain ⟨Ao29, co29, eo29⟩ := Kd.R_slice HO_3.out
                                    subst eo29
                                    have p134 : 0 ≤ ((ji22) : Int) := of_decide_eq_true (by first | (with_reducible assumption) | assumption)
                                    have q134 : (ji22) < (x3_4.length : Int) := of_decide_eq_true (by first | (with_reducible assumption) | assumption)
                                    obtain ⟨ad134, e134, hx134_0⟩ := Kd.at_int (Kd.R_reads' HO_3.out).2.2 (ji22) p134 q134
                                    cases e134
                                    replace p134 := eq_true p134
                                    replace q134 := eq_true q134
                                    go_wp2
                                    go_meet
                                    case rel => exact ⟨_, (x3_4), H', ⟨by have := HK1.out; have := HK2.out; have := HK3.out; have := HK4.out; first | omega | exact Nat.le_refl _⟩, ⟨by (try simp only [hl3_3]); (with_reducible repeat (first | apply Kd.R_alloc | apply Kd.R_drewN | apply Kd.R_drew)); exact HO_3.out⟩, ⟨by (try simp only [hl3_3]); (with_reducible repeat (first | apply Kd.R_alloc | apply Kd.R_drewN | apply Kd.R_drew)); exact HO_6.out⟩, ⟨by repeat (first | (with_reducible first | exact HB.out | apply below_alloc | apply pw_below_drewN | apply below_drew1) | exact HB.out)⟩⟩
                                · rw [if_neg c24] at H
                                  exact absurd H (by simp)
                              · rw [if_neg c23] at H
                                exact absurd H (by simp)
                            · rw [if_neg c21] at H
                              have c21b0 : decide (0 < (x3_4.length : Int)) = false := decide_eq_false c21
                              have c21b1 : decide (0 < x3_4.length) = false := decide_eq_false (by omega)
                              clear c21
                              (first | rw [c21b0] | (simp only [i64_w, i32_w]; rw [c21b0]) | skip)
                              have H' := Aside0.mk H
                              clear H
                              obtain ⟨Ao30, co30, eo30⟩ := Kd.R_slice HO_3.out
                              subst eo30
                              go_wp2
                              go_meet
                              case rel => exact ⟨_, (x3_4), H', ⟨by have := HK1.out; have := HK2.out; have := HK3.out; have := HK4.out; first | omega | exact Nat.le_refl _⟩, ⟨by (try simp only [hl3_3]); (with_reducible repeat (first | apply Kd.R_alloc | apply Kd.R_drewN | apply Kd.R_drew)); exact HO_3.out⟩, ⟨by (try simp only [hl3_3]); (with_reducible repeat (first | apply Kd.R_alloc | apply Kd.R_drewN | apply Kd.R_drew)); exact HO_6.out⟩, ⟨by repeat (first | (with_reducible first | exact HB.out | apply below_alloc | apply pw_below_drewN | apply below_drew1) | exact HB.out)⟩⟩
                      case rest =>
                        clear HC20
                        try clear c1
                        try clear p1
                        try clear q1
                        try clear hx1
                        try clear hf1
                        try clear c2
                        try clear c2b0
                        try clear c2b1
                        try clear p2
                        try clear q2
                        try clear c4
                        try clear c4b0
                        try clear c5
                        try clear c5b0
                        try clear c6
                        try clear c6b0
                        try clear p6
                        try clear c7
                        try clear c12
                        try clear c12b0
                        try clear c12b1
                        try clear p12
                        try clear q12
                        try clear hx12
                        try clear p13
                        try clear q13
                        try clear hx13
                        try clear c14
                        try clear c14b0
                        try clear c15
                        try clear c15b0
                        try clear c16
                        try clear c16b0
                        try clear p17
                        try clear q17
                        try clear hx17
                        try clear hf17
                        try clear c21
                        try clear c21b0
                        try clear c21b1
                        try clear c23
                        try clear c23b0
                        try clear c24
                        try clear c24b0
                        try clear c25
                        try clear c25b0
                        try clear c25b1
                        try clear c26
                        try clear c26b0
                        try clear c26b1
                        try clear q28
                        try clear hx125_0
                        try clear hx132_0
                        try clear hx134_0
                        try clear hx17_0
                        try clear p1
                        try clear p12
                        try clear p125
                        try clear p13
                        try clear p132
                        try clear p134
                        try clear p17
                        try clear p2
                        try clear p6
                        try clear q1
                        try clear q12
                        try clear q125
                        try clear q13
                        try clear q132
                        try clear q134
                        try clear q17
                        try clear q28
                        obtain ⟨kq, x3_19, HA, HJ19, HO_3, HO_6, HB⟩ := hcut
                        cases kq with
                        | zero => exact absurd HA.out (by simp [impl_digits.j4])
                        | succ kj19 =>
                          have H := HA.out
                          clear HA
                          simp only [impl_digits.j4] at H
                          have H' := Aside0.mk H
                          clear H
                          go_wp2
                          go_loopg [6, 7, 9] kj19 (fun kq v6 v7 v9 w' => ∃ (x6_5 : List Int) (x7_5 : Int) (x9_5 : Int), v7 = .int .u64 x7_5 ∧ v9 = .int .i64 x9_5 ∧ Aside0 (impl_digits.l4 kq l0 x3_19 x6_5 x7_5 x9_5 = some r) ∧ Aside0 (kq ≤ kj19) ∧ Aside0 (Kd.R (Kd.int .u64) 77 w' w.heap.size (fun _ => True) u3 x3_19) ∧ Aside0 (Kd.R (Kd.int .u8) 5 w' w.heap.size (fun _ => True) v6 x6_5) ∧ Aside0 (Below w.heap.size w w'))
                          case atStart => exact ⟨(x6_2), (x7_3), (0), (by first | rfl | (simp; done) | (simp [*]; done)), (by first | rfl | (simp; done) | (simp [*]; done)), H', ⟨Nat.le_refl _⟩, ⟨by (try simp only [hl3_3]); (with_reducible repeat (first | apply Kd.R_alloc | apply Kd.R_drewN | apply Kd.R_drew)); exact HO_3.out⟩, ⟨by (try simp only [hl3_3]); (with_reducible repeat (first | apply Kd.R_alloc | apply Kd.R_drewN | apply Kd.R_drew)); exact HO_6.out⟩, ⟨by repeat (first | (with_reducible first | exact HB.out | apply below_alloc | apply pw_below_drewN | apply below_drew1) | exact HB.out)⟩⟩
                          case round =>
                            clear H'
                            try clear c1
                            try clear p1
                            try clear q1
                            try clear hx1
                            try clear hf1
                            try clear c2
                            try clear c2b0
                            try clear c2b1
                            try clear p2
                            try clear q2
                            try clear c4
                            try clear c4b0
                            try clear c5
                            try clear c5b0
                            try clear c6
                            try clear c6b0
                            try clear p6
                            try clear c7
                            try clear c12
                            try clear c12b0
                            try clear c12b1
                            try clear p12
                            try clear q12
                            try clear hx12
                            try clear p13
                            try clear q13
                            try clear hx13
                            try clear c14
                            try clear c14b0
                            try clear c15
                            try clear c15b0
                            try clear c16
                            try clear c16b0
                            try clear p17
                            try clear q17
                            try clear hx17
                            try clear hf17
                            try clear c21
                            try clear c21b0
                            try clear c21b1
                            try clear c23
                            try clear c23b0
                            try clear c24
                            try clear c24b0
                            try clear c25
                            try clear c25b0
                            try clear c25b1
                            try clear c26
                            try clear c26b0
                            try clear c26b1
                            try clear q28
                            try clear hx125_0
                            try clear hx132_0
                            try clear hx134_0
                            try clear hx17_0
                            try clear p1
                            try clear p12
                            try clear p125
                            try clear p13
                            try clear p132
                            try clear p134
                            try clear p17
                            try clear p2
                            try clear p6
                            try clear q1
                            try clear q12
                            try clear q125
                            try clear q13
                            try clear q132
                            try clear q134
                            try clear q17
                            try clear q2
                            try clear q28
                            obtain ⟨x6_5, x7_5, x9_5, rfl, rfl, HA, HK5, HO_3, HO_6, HB⟩ := hrel
                            cases gk with
                            | zero => exact absurd HA.out (by simp [impl_digits.l4])
                            | succ k5 =>
                              have H := HA.out
                              clear HA
                              simp only [impl_digits.l4] at H
                              by_cases c31 : x9_5 < 9
                              · rw [if_pos c31] at H
                                have c31b0 : decide (x9_5 < 9) = true := decide_eq_true c31
                                clear c31
                                by_cases c32 : x7_5 = 0
                                · rw [if_pos c32] at H
                                  have c32b0 : (x7_5 == 0) = true := beq_iff_eq.mpr c32
                                  have c32b1 : (x7_5 != 0) = false := bne_eq_false_iff_eq.mpr c32
                                  clear c32
                                  by_cases c33 : (x3_19.length : Int) > 0
                                  · rw [if_pos c33] at H
                                    have c33b0 : decide (0 < (x3_19.length : Int)) = true := decide_eq_true c33
                                    have c33b1 : decide (0 < x3_19.length) = true := decide_eq_true (by omega)
                                    clear c33
                                    by_cases c34 : x6_5.length < 140737488355328
                                    · rw [if_pos c34] at H
                                      have LMc34 := Aside0.mk c34
                                      clear c34
                                      obtain ⟨y138, hy138⟩ : ∃ y_ : List Int, y_ = (x6_5 ++ [(IntKind.u64.wrap (48 + (Int.tmod x7_5 10))) % 256]) := ⟨_, rfl⟩
                                      replace H : (impl_digits.l4 k5 l0 x3_19 y138 (IntKind.u64.wrap (Int.tdiv x7_5 10)) (wrap64 (x9_5 + 1))) = some r := by first | (rw [hy138]; with_reducible exact H) | (have H2_ := (Option.bind_some _ _).symm.trans H; rw [hy138]; with_reducible exact H2_) | (have H2_ := (Option.bind_some _ _).symm.trans H; with_reducible exact H2_) | with_reducible exact H | (rw [hy138]; exact H) | exact H
                                      have Ny138 := Aside0.mk hy138
                                      clear hy138
                                      have H' := Aside0.mk H
                                      clear H
                                      obtain ⟨Ao35, co35, eo35⟩ := Kd.R_slice HO_3.out
                                      subst eo35
                                      go_wp2_with (first | ((with_reducible refine gate_builtin (b := .append) (xs := #[.tmp 81, .tmp 86]) rfl ?_); (try (refine gate_guard (by rfl) ?_; dsimp only)); at_builtin; refine Kd.R_append (Kd.int .u8) (w0 := w) w.heap.size rfl (.tmp 81) (.tmp 86) 54 5 (.int .u8 0) 1 rfl Tryz.underlying54 tinfo_u8 rfl (by decide) (by omega) u6 x6_5 ((IntKind.u64.wrap (48 + (Int.tmod x7_5 10))) % 256) [.int .u8 ((IntKind.u64.wrap (48 + (Int.tmod x7_5 10))) % 256)] (fun _ => True) (fun _ => False) rfl rfl ?aP (fun _ hk => hk.elim) ?aF ?aO ?aB ?aS ?aL ?_; (case aP => exact rfl); (case aB => exact (by repeat (first | (with_reducible first | exact HB.out | apply below_alloc | apply pw_below_drewN | apply below_drew1) | exact HB.out))); (case aF => exact (fun _ _ => trivial)); (case aO => exact (by (with_reducible repeat (first | apply Kd.R_alloc | apply Kd.R_drewN | apply Kd.R_drew)); exact HO_6.out)); (case aS => exact (below_size (by repeat (first | (with_reducible first | exact HB.out | apply below_alloc | apply pw_below_drewN | apply below_drew1) | exact HB.out)))); (case aL => have := LMc34.out; omega); intro v139 w36 ho hb hg hat; rw [← Ny138.out] at ho; have n0_ := Aside0.mk (Kd.R_over' (by (with_reducible repeat (first | apply Kd.R_alloc | apply Kd.R_drewN | apply Kd.R_drew)); exact HO_3.out) (Kd.R_typed (by (with_reducible repeat (first | apply Kd.R_alloc | apply Kd.R_drewN | apply Kd.R_drew)); exact HO_6.out)) (by decide) hg); have n1_ := Aside0.mk (hb); have n2_ := Aside0.mk (ho); clear HO_3; clear HB; clear HO_6; have HO_3 := n0_; have HB := n1_; have HO140 := n2_; clear n0_ n1_ n2_; clear ho hb hg hat))
                                      go_roundg k5
                                      case measure => have := HK1.out; have := HK2.out; have := HK3.out; have := HJ19.out; have := HK5.out; omega
                                      case rel => exact ⟨(y138), (IntKind.u64.wrap (Int.tdiv x7_5 10)), (wrap64 (x9_5 + 1)), (by first | rfl | (simp; done) | (simp [*]; done)), (by first | rfl | (simp; done) | (simp [*]; done)), H', ⟨by have := HK1.out; have := HK2.out; have := HK3.out; have := HJ19.out; have := HK5.out; omega⟩, ⟨by (try simp only [hl3_3]); (with_reducible repeat (first | apply Kd.R_alloc | apply Kd.R_drewN | apply Kd.R_drew)); exact HO_3.out⟩, ⟨by (try simp only [hl3_3]); (with_reducible repeat (first | apply Kd.R_alloc | apply Kd.R_drewN | apply Kd.R_drew)); exact HO140.out⟩, ⟨by repeat (first | (with_reducible first | exact HB.out | apply below_alloc | apply pw_below_drewN | apply below_drew1) | exact HB.out)⟩⟩
                                    · rw [if_neg c34] at H
                                      exact absurd H (by simp)
                                  · rw [if_neg c33] at H
                                    have c33b0 : decide (0 < (x3_19.length : Int)) = false := decide_eq_false c33
                                    have c33b1 : decide (0 < x3_19.length) = false := decide_eq_false (by omega)
                                    clear c33
                                    have H' := Aside0.mk H
                                    clear H
                                    obtain ⟨Ao37, co37, eo37⟩ := Kd.R_slice HO_3.out
                                    subst eo37
                                    go_wp2
                                    (try simp only [← hl3_3])
                                    go_roundg k5
                                    case measure => have := HK1.out; have := HK2.out; have := HK3.out; have := HJ19.out; have := HK5.out; omega
                                    case rel => exact ⟨(x3_19), (x6_5), H', ⟨by have := HK1.out; have := HK2.out; have := HK3.out; have := HJ19.out; have := HK5.out; omega⟩, ⟨by (try simp only [hl3_3]); (with_reducible repeat (first | apply Kd.R_alloc | apply Kd.R_drewN | apply Kd.R_drew)); exact HO_3.out⟩, ⟨by (try simp only [hl3_3]); (with_reducible repeat (first | apply Kd.R_alloc | apply Kd.R_drewN | apply Kd.R_drew)); exact HO_6.out⟩, ⟨by repeat (first | (with_reducible first | exact HB.out | apply below_alloc | apply pw_below_drewN | apply below_drew1) | exact HB.out)⟩⟩
                                · rw [if_neg c32] at H
                                  have c32b0 : (x7_5 == 0) = false := beq_eq_false_iff_ne.mpr c32
                                  have c32b1 : (x7_5 != 0) = true := bne_iff_ne.mpr c32
                                  by_cases c38 : x6_5.length < 140737488355328
                                  · rw [if_pos c38] at H
                                    have LMc38 := Aside0.mk c38
                                    clear c38
                                    obtain ⟨y141, hy141⟩ : ∃ y_ : List Int, y_ = (x6_5 ++ [(IntKind.u64.wrap (48 + (Int.tmod x7_5 10))) % 256]) := ⟨_, rfl⟩
                                    replace H : (impl_digits.l4 k5 l0 x3_19 y141 (IntKind.u64.wrap (Int.tdiv x7_5 10)) (wrap64 (x9_5 + 1))) = some r := by first | (rw [hy141]; with_reducible exact H) | (have H2_ := (Option.bind_some _ _).symm.trans H; rw [hy141]; with_reducible exact H2_) | (have H2_ := (Option.bind_some _ _).symm.trans H; with_reducible exact H2_) | with_reducible exact H | (rw [hy141]; exact H) | exact H
                                    have Ny141 := Aside0.mk hy141
                                    clear hy141
                                    have H' := Aside0.mk H
                                    clear H
                                    go_wp2_with (first | ((with_reducible refine gate_builtin (b := .append) (xs := #[.tmp 81, .tmp 86]) rfl ?_); (try (refine gate_guard (by rfl) ?_; dsimp only)); at_builtin; refine Kd.R_append (Kd.int .u8) (w0 := w) w.heap.size rfl (.tmp 81) (.tmp 86) 54 5 (.int .u8 0) 1 rfl Tryz.underlying54 tinfo_u8 rfl (by decide) (by omega) u6 x6_5 ((IntKind.u64.wrap (48 + (Int.tmod x7_5 10))) % 256) [.int .u8 ((IntKind.u64.wrap (48 + (Int.tmod x7_5 10))) % 256)] (fun _ => True) (fun _ => False) rfl rfl ?aP (fun _ hk => hk.elim) ?aF ?aO ?aB ?aS ?aL ?_; (case aP => exact rfl); (case aB => exact (by repeat (first | (with_reducible first | exact HB.out | apply below_alloc | apply pw_below_drewN | apply below_drew1) | exact HB.out))); (case aF => exact (fun _ _ => trivial)); (case aO => exact (by (with_reducible repeat (first | apply Kd.R_alloc | apply Kd.R_drewN | apply Kd.R_drew)); exact HO_6.out)); (case aS => exact (below_size (by repeat (first | (with_reducible first | exact HB.out | apply below_alloc | apply pw_below_drewN | apply below_drew1) | exact HB.out)))); (case aL => have := LMc38.out; omega); intro v142 w39 ho hb hg hat; rw [← Ny141.out] at ho; have n0_ := Aside0.mk (Kd.R_over' (by (with_reducible repeat (first | apply Kd.R_alloc | apply Kd.R_drewN | apply Kd.R_drew)); exact HO_3.out) (Kd.R_typed (by (with_reducible repeat (first | apply Kd.R_alloc | apply Kd.R_drewN | apply Kd.R_drew)); exact HO_6.out)) (by decide) hg); have n1_ := Aside0.mk (hb); have n2_ := Aside0.mk (ho); clear HO_3; clear HB; clear HO_6; have HO_3 := n0_; have HB := n1_; have HO143 := n2_; clear n0_ n1_ n2_; clear ho hb hg hat))
                                    go_roundg k5
                                    case measure => have := HK1.out; have := HK2.out; have := HK3.out; have := HJ19.out; have := HK5.out; omega
                                    case rel => exact ⟨(y141), (IntKind.u64.wrap (Int.tdiv x7_5 10)), (wrap64 (x9_5 + 1)), (by first | rfl | (simp; done) | (simp [*]; done)), (by first | rfl | (simp; done) | (simp [*]; done)), H', ⟨by have := HK1.out; have := HK2.out; have := HK3.out; have := HJ19.out; have := HK5.out; omega⟩, ⟨by (try simp only [hl3_3]); (with_reducible repeat (first | apply Kd.R_alloc | apply Kd.R_drewN | apply Kd.R_drew)); exact HO_3.out⟩, ⟨by (try simp only [hl3_3]); (with_reducible repeat (first | apply Kd.R_alloc | apply Kd.R_drewN | apply Kd.R_drew)); exact HO143.out⟩, ⟨by repeat (first | (with_reducible first | exact HB.out | apply below_alloc | apply pw_below_drewN | apply below_drew1) | exact HB.out)⟩⟩
                                  · rw [if_neg c38] at H
                                    exact absurd H (by simp)
                              · rw [if_neg c31] at H
                                have c31b0 : decide (x9_5 < 9) = false := decide_eq_false c31
                                clear c31
                                have H' := Aside0.mk H
                                clear H
                                go_wp2
                                (try simp only [← hl3_3])
                                go_roundg k5
                                case measure => have := HK1.out; have := HK2.out; have := HK3.out; have := HJ19.out; have := HK5.out; omega
                                case rel => exact ⟨(x3_19), (x6_5), H', ⟨by have := HK1.out; have := HK2.out; have := HK3.out; have := HJ19.out; have := HK5.out; omega⟩, ⟨by (try simp only [hl3_3]); (with_reducible repeat (first | apply Kd.R_alloc | apply Kd.R_drewN | apply Kd.R_drew)); exact HO_3.out⟩, ⟨by (try simp only [hl3_3]); (with_reducible repeat (first | apply Kd.R_alloc | apply Kd.R_drewN | apply Kd.R_drew)); exact HO_6.out⟩, ⟨by repeat (first | (with_reducible first | exact HB.out | apply below_alloc | apply pw_below_drewN | apply below_drew1) | exact HB.out)⟩⟩
              · rw [if_neg c12] at H
                have c12b0 : decide (0 < (x3_2.length : Int)) = false := decide_eq_false c12
                have c12b1 : decide (0 < x3_2.length) = false := decide_eq_false (by omega)
                clear c12
                by_cases c40 : (x6_2.length : Int) = 0
                · rw [if_pos c40] at H
                  have c40b0 : ((x6_2.length : Int) == 0) = true := beq_iff_eq.mpr c40
                  have c40b1 : ((x6_2.length : Int) != 0) = false := bne_eq_false_iff_eq.mpr c40
                  clear c40
                  obtain rfl := Option.some.inj H
                  obtain ⟨Ao41, co41, eo41⟩ := Kd.R_slice HO_3.out
                  subst eo41
                  obtain ⟨Ao42, co42, eo42⟩ := Kd.R_slice HO_6.out
                  subst eo42
                  go_wp2
                  go_ret
                  exact ⟨by first | rfl | (simp [errW_none, errW_some] <;> rfl) | (simp [*, errW_none, errW_some] <;> rfl), by repeat (first | (with_reducible first | exact HB.out | apply below_alloc | apply pw_below_drewN | apply below_drew1) | exact HB.out)⟩
                · rw [if_neg c40] at H
                  have c40b0 : ((x6_2.length : Int) == 0) = false := beq_eq_false_iff_ne.mpr c40
                  have c40b1 : ((x6_2.length : Int) != 0) = true := bne_iff_ne.mpr c40
                  have c40b2 : ¬ (x6_2 = []) := fun h_ => c40 (by rw [h_]; rfl)
                  have HC43 := Aside0.mk H
                  clear H
                  obtain ⟨Ao44, co44, eo44⟩ := Kd.R_slice HO_3.out
                  subst eo44
                  obtain ⟨Ao45, co45, eo45⟩ := Kd.R_slice HO_6.out
                  subst eo45
                  go_upto_if 95 with (go_at_call 40; refine (sign_is bs g b lx _ (HI.out.below HB.out)).mono ?_; rintro e w' ⟨rfl, rfl⟩)
                  go_cut [6] (fun v6 wc => ∃ (kq : Nat) (x6_42 : List Int), Aside0 (impl_digits.j6 kq x6_42 = some r) ∧ Aside0 (kq ≤ k2) ∧ Aside0 (Kd.R (Kd.int .u8) 5 wc w.heap.size (fun _ => True) v6 x6_42) ∧ Aside0 (Below w.heap.size w wc))
                  case first =>
                    have H := HC43.out
                    clear HC43
                    by_cases c46 : 0 < l0.length
                    · rw [if_pos c46] at H
                      have c46b0 : decide (sgnI b lx < 0) = true := HSG.out.trans (decide_eq_true c46)
                      clear c46
                      (first | rw [c46b0] | (simp only [i64_w, i32_w]; rw [c46b0]) | skip)
                      by_cases c47 : x6_2.length < 140737488355328
                      · rw [if_pos c47] at H
                        have LMc47 := Aside0.mk c47
                        clear c47
                        obtain ⟨y144, hy144⟩ : ∃ y_ : List Int, y_ = (x6_2 ++ [45]) := ⟨_, rfl⟩
                        replace H : (impl_digits.j6 k2 y144) = some r := by first | (rw [hy144]; with_reducible exact H) | (have H2_ := (Option.bind_some _ _).symm.trans H; rw [hy144]; with_reducible exact H2_) | (have H2_ := (Option.bind_some _ _).symm.trans H; with_reducible exact H2_) | with_reducible exact H | (rw [hy144]; exact H) | exact H
                        have Ny144 := Aside0.mk hy144
                        clear hy144
                        have H' := Aside0.mk H
                        clear H
                        go_wp2_with (first | ((with_reducible refine gate_builtin (b := .append) (xs := #[.tmp 96, .tmp 97]) rfl ?_); (try (refine gate_guard (by rfl) ?_; dsimp only)); at_builtin; refine Kd.R_append (Kd.int .u8) (w0 := w) w.heap.size rfl (.tmp 96) (.tmp 97) 54 5 (.int .u8 0) 1 rfl Tryz.underlying54 tinfo_u8 rfl (by decide) (by omega) (.slice Ao45 x6_2.length co45) x6_2 45 [.int .u8 45] (fun _ => True) (fun _ => False) rfl rfl ?aP (fun _ hk => hk.elim) ?aF ?aO ?aB ?aS ?aL ?_; (case aP => exact rfl); (case aB => exact (by repeat (first | (with_reducible first | exact HB.out | apply below_alloc | apply pw_below_drewN | apply below_drew1) | exact HB.out))); (case aF => exact (fun _ _ => trivial)); (case aO => exact (by (with_reducible repeat (first | apply Kd.R_alloc | apply Kd.R_drewN | apply Kd.R_drew)); exact HO_6.out)); (case aS => exact (below_size (by repeat (first | (with_reducible first | exact HB.out | apply below_alloc | apply pw_below_drewN | apply below_drew1) | exact HB.out)))); (case aL => have := LMc47.out; omega); intro v145 w48 ho hb hg hat; rw [← Ny144.out] at ho; have n0_ := Aside0.mk (Kd.R_over' (by (with_reducible repeat (first | apply Kd.R_alloc | apply Kd.R_drewN | apply Kd.R_drew)); exact HO_3.out) (Kd.R_typed (by (with_reducible repeat (first | apply Kd.R_alloc | apply Kd.R_drewN | apply Kd.R_drew)); exact HO_6.out)) (by decide) hg); have n1_ := Aside0.mk (hb); have n2_ := Aside0.mk (ho); clear HO_3; clear HB; clear HO_6; have HO_3 := n0_; have HB := n1_; have HO146 := n2_; clear n0_ n1_ n2_; clear ho hb hg hat))
                        go_meet
                        case rel => exact ⟨_, (y144), H', ⟨by have := HK1.out; have := HK2.out; first | omega | exact Nat.le_refl _⟩, ⟨by (with_reducible repeat (first | apply Kd.R_alloc | apply Kd.R_drewN | apply Kd.R_drew)); exact HO146.out⟩, ⟨by repeat (first | (with_reducible first | exact HB.out | apply below_alloc | apply pw_below_drewN | apply below_drew1) | exact HB.out)⟩⟩
                      · rw [if_neg c47] at H
                        exact absurd H (by simp)
                    · rw [if_neg c46] at H
                      have c46b0 : decide (sgnI b lx < 0) = false := HSG.out.trans (decide_eq_false c46)
                      clear c46
                      (first | rw [c46b0] | (simp only [i64_w, i32_w]; rw [c46b0]) | skip)
                      have H' := Aside0.mk H
                      clear H
                      go_wp2
                      go_meet
                      case rel => exact ⟨_, (x6_2), H', ⟨by have := HK1.out; have := HK2.out; first | omega | exact Nat.le_refl _⟩, ⟨by (with_reducible repeat (first | apply Kd.R_alloc | apply Kd.R_drewN | apply Kd.R_drew)); exact HO_6.out⟩, ⟨by repeat (first | (with_reducible first | exact HB.out | apply below_alloc | apply pw_below_drewN | apply below_drew1) | exact HB.out)⟩⟩
                  case rest =>
                    clear HC43
                    try clear c1
                    try clear p1
                    try clear q1
                    try clear hx1
                    try clear hf1
                    try clear c2
                    try clear c2b0
                    try clear c2b1
                    try clear p2
                    try clear q2
                    try clear c3
                    try clear c4
                    try clear c4b0
                    try clear c5
                    try clear c5b0
                    try clear c6
                    try clear c6b0
                    try clear p6
                    try clear c7
                    try clear c12
                    try clear c12b0
                    try clear c12b1
                    try clear p12
                    try clear q12
                    try clear hx12
                    try clear p13
                    try clear q13
                    try clear hx13
                    try clear c14
                    try clear c14b0
                    try clear c15
                    try clear c15b0
                    try clear c16
                    try clear c16b0
                    try clear p17
                    try clear q17
                    try clear hx17
                    try clear hf17
                    try clear c21
                    try clear c21b0
                    try clear c21b1
                    try clear c23
                    try clear c23b0
                    try clear c24
                    try clear c24b0
                    try clear c25
                    try clear c25b0
                    try clear c25b1
                    try clear c26
                    try clear c26b0
                    try clear c26b1
                    try clear q28
                    try clear c31
                    try clear c31b0
                    try clear c32
                    try clear c32b0
                    try clear c32b1
                    try clear c33
                    try clear c33b0
                    try clear c33b1
                    try clear c34
                    try clear c38
                    try clear c40
                    try clear c40b0
                    try clear c40b1
                    try clear c40b2
                    try clear c46
                    try clear c46b0
                    try clear c46b1
                    try clear c47
                    try clear hx125_0
                    try clear hx132_0
                    try clear hx134_0
                    try clear hx17_0
                    try clear p1
                    try clear p12
                    try clear p125
                    try clear p13
                    try clear p132
                    try clear p134
                    try clear p17
                    try clear p2
                    try clear p6
                    try clear q1
                    try clear q12
                    try clear q125
                    try clear q13
                    try clear q132
                    try clear q134
                    try clear q17
                    try clear q2
                    try clear q28
                    obtain ⟨kq, x6_42, HA, HJ42, HO_6, HB⟩ := hcut
                    cases kq with
                    | zero => exact absurd HA.out (by simp [impl_digits.j6])
                    | succ kj42 =>
                      have H := HA.out
                      clear HA
                      simp only [impl_digits.j6] at H
                      have H' := Aside0.mk H
                      clear H
                      obtain ⟨Ao49, co49, eo49⟩ := Kd.R_slice HO_6.out
                      subst eo49
                      go_wp2
                      go_loopg [10, 11] kj42 (fun kq v10 v11 w' => ∃ (x6_4 : List Int) (x10_4 : Int) (x11_4 : Int), v10 = .int .i64 x10_4 ∧ v11 = .int .i64 x11_4 ∧ Aside0 (impl_digits.l5 kq x6_4 x10_4 x11_4 = some r) ∧ Aside0 (kq ≤ kj42) ∧ Aside0 (Kd.R (Kd.int .u8) 5 w' w.heap.size (fun _ => True) (.slice Ao49 x6_42.length co49) x6_4) ∧ Aside0 (Below w.heap.size w w'))
                      case atStart => exact ⟨(x6_42), (0), (wrap64 ((x6_42.length : Int) - 1)), (by first | rfl | (simp; done) | (simp [*]; done)), (by first | rfl | (simp; done) | (simp [*]; done)), H', ⟨Nat.le_refl _⟩, ⟨by (with_reducible repeat (first | apply Kd.R_alloc | apply Kd.R_drewN | apply Kd.R_drew)); exact HO_6.out⟩, ⟨by repeat (first | (with_reducible first | exact HB.out | apply below_alloc | apply pw_below_drewN | apply below_drew1) | exact HB.out)⟩⟩
                      case round =>
                        clear H'
                        try clear c1
                        try clear p1
                        try clear q1
                        try clear hx1
                        try clear hf1
                        try clear c2
                        try clear c2b0
                        try clear c2b1
                        try clear p2
                        try clear q2
                        try clear c3
                        try clear c4
                        try clear c4b0
                        try clear c5
                        try clear c5b0
                        try clear c6
                        try clear c6b0
                        try clear p6
                        try clear c7
                        try clear c12
                        try clear c12b0
                        try clear c12b1
                        try clear p12
                        try clear q12
                        try clear hx12
                        try clear p13
                        try clear q13
                        try clear hx13
                        try clear c14
                        try clear c14b0
                        try clear c15
                        try clear c15b0
                        try clear c16
                        try clear c16b0
                        try clear p17
                        try clear q17
                        try clear hx17
                        try clear hf17
                        try clear c21
                        try clear c21b0
                        try clear c21b1
                        try clear c23
                        try clear c23b0
                        try clear c24
                        try clear c24b0
                        try clear c25
                        try clear c25b0
                        try clear c25b1
                        try clear c26
                        try clear c26b0
                        try clear c26b1
                        try clear q28
                        try clear c31
                        try clear c31b0
                        try clear c32
                        try clear c32b0
                        try clear c32b1
                        try clear c33
                        try clear c33b0
                        try clear c33b1
                        try clear c34
                        try clear c38
                        try clear c40
                        try clear c40b0
                        try clear c40b1
                        try clear c40b2
                        try clear c46
                        try clear c46b0
                        try clear c46b1
                        try clear c47
                        try clear hx125_0
                        try clear hx132_0
                        try clear hx134_0
                        try clear hx17_0
                        try clear p1
                        try clear p12
                        try clear p125
                        try clear p13
                        try clear p132
                        try clear p134
                        try clear p17
                        try clear p2
                        try clear p6
                        try clear q1
                        try clear q12
                        try clear q125
                        try clear q13
                        try clear q132
                        try clear q134
                        try clear q17
                        try clear q2
                        try clear q28
                        obtain ⟨x6_4, x10_4, x11_4, rfl, rfl, HA, HK4, HO_6, HB⟩ := hrel
                        have hl6_4 := (Kd.R_reads' HO_6.out).1
                        rw [hl6_4] at HO_6
                        (try simp only [hl6_4])
                        cases gk with
                        | zero => exact absurd HA.out (by simp [impl_digits.l5])
                        | succ k4 =>
                          have H := HA.out
                          clear HA
                          simp only [impl_digits.l5] at H
                          by_cases c50 : x10_4 < x11_4
                          · rw [if_pos c50] at H
                            have c50b0 : decide (x10_4 < x11_4) = true := decide_eq_true c50
                            clear c50
                            by_cases c51 : 0 ≤ x11_4
                            · rw [if_pos c51] at H
                              have c51b0 : decide (0 ≤ x11_4) = true := decide_eq_true c51
                              clear c51
                              by_cases c52 : x11_4 < (x6_4.length : Int)
                              · rw [if_pos c52] at H
                                have c52b0 : decide (x11_4 < (x6_4.length : Int)) = true := decide_eq_true c52
                                clear c52
                                by_cases c53 : 0 ≤ x10_4
                                · rw [if_pos c53] at H
                                  have c53b0 : decide (0 ≤ x10_4) = true := decide_eq_true c53
                                  clear c53
                                  by_cases c54 : x10_4 < (x6_4.length : Int)
                                  · rw [if_pos c54] at H
                                    have c54b0 : decide (x10_4 < (x6_4.length : Int)) = true := decide_eq_true c54
                                    clear c54
                                    obtain ⟨y149, hy149⟩ : ∃ y_ : List Int, y_ = (x6_4.set (x10_4 : Int).toNat (rd x6_4 x11_4)) := ⟨_, rfl⟩
                                    replace H : (impl_digits.l5 k4 (y149.set (x11_4 : Int).toNat (rd x6_4 x10_4)) (wrap64 (x10_4 + 1)) (wrap64 (x11_4 - 1))) = some r := by first | (rw [hy149]; with_reducible exact H) | (have H2_ := (Option.bind_some _ _).symm.trans H; rw [hy149]; with_reducible exact H2_) | (have H2_ := (Option.bind_some _ _).symm.trans H; with_reducible exact H2_) | with_reducible exact H | (rw [hy149]; exact H) | exact H
                                    have Ny149 := Aside0.mk hy149
                                    clear hy149
                                    obtain ⟨y150, hy150⟩ : ∃ y_ : List Int, y_ = (y149.set (x11_4 : Int).toNat (rd x6_4 x10_4)) := ⟨_, rfl⟩
                                    replace H : (impl_digits.l5 k4 y150 (wrap64 (x10_4 + 1)) (wrap64 (x11_4 - 1))) = some r := by first | (rw [hy150]; with_reducible exact H) | (have H2_ := (Option.bind_some _ _).symm.trans H; rw [hy150]; with_reducible exact H2_) | (have H2_ := (Option.bind_some _ _).symm.trans H; with_reducible exact H2_) | with_reducible exact H | (rw [hy150]; exact H) | exact H
                                    have Ny150 := Aside0.mk hy150
                                    clear hy150
                                    have H' := Aside0.mk H
                                    clear H
                                    try go_wp2
                                    have n0_ := Aside0.mk (Kd.R_drew HO_6.out)
                                    have n1_ := Aside0.mk (below_drew1 HB.out)
                                    clear HO_6
                                    clear HB
                                    have HO_6 := n0_
                                    have HB := n1_
                                    clear n0_ n1_
                                    have p147 : 0 ≤ (x11_4 : Int) := of_decide_eq_true (by first | (with_reducible assumption) | assumption)
                                    have q147 : x11_4 < (x6_4.length : Int) := of_decide_eq_true (by first | (with_reducible assumption) | assumption)
                                    obtain ⟨ad147, e147, hx147_0⟩ := Kd.at_int (Kd.R_reads' HO_6.out).2.2 x11_4 p147 q147
                                    cases e147
                                    replace p147 := eq_true p147
                                    replace q147 := eq_true q147
                                    have p148 : 0 ≤ (x10_4 : Int) := of_decide_eq_true (by first | (with_reducible assumption) | assumption)
                                    have q148 : x10_4 < (x6_4.length : Int) := of_decide_eq_true (by first | (with_reducible assumption) | assumption)
                                    obtain ⟨ad148, e148, hx148_0⟩ := Kd.at_int (Kd.R_reads' HO_6.out).2.2 x10_4 p148 q148
                                    obtain rfl : ad147 = ad148 := (by injection e148)
                                    replace p148 := eq_true p148
                                    replace q148 := eq_true q148
                                    have p55 : 0 ≤ (x10_4 : Int) := of_decide_eq_true (by first | (with_reducible assumption) | assumption)
                                    have q55 : (x10_4 : Int) < ((x6_4.length : Int) : Int) := of_decide_eq_true (by first | (with_reducible assumption) | assumption)
                                    obtain ⟨go55, co55, eo55, gb55, gl55, cl55, HG55⟩ := Kd.R_form HO_6.out (by omega)
                                    (first | cases eo55 | (injection eo55 with ea_ en_ ec_; (first | subst ea_ | (injection ea_ with ea_; subst ea_)); subst ec_; clear en_))
                                    have GB55 := Aside0.mk gb55
                                    have GG55 := Aside0.mk HG55
                                    clear gb55 gl55 HG55
                                    (first | simp only [add_plain] at hx147_0 | skip)
                                    (first | simp only [add_plain] at hx148_0 | skip)
                                    obtain ⟨hx55_0, hf55_0⟩ := Kd.R_celln 0 HO_6.out (x10_4 : Int) p55 q55
                                    replace p55 := eq_true p55
                                    replace q55 := eq_true q55
                                    have HP58 := Kd.R_putn HO_6.out (x10_4 : Int) (rd x6_4 x11_4)
                                    rw [← Ny149.out] at HP58
                                    have HQ58 := Aside0.mk HP58
                                    clear HP58
                                    have p56 : 0 ≤ (x11_4 : Int) := of_decide_eq_true (by first | (with_reducible assumption) | assumption)
                                    have q56 : (x11_4 : Int) < ((x6_4.length : Int) : Int) := of_decide_eq_true (by first | (with_reducible assumption) | assumption)
                                    obtain ⟨hx56_0, hf56_0⟩ := Kd.R_celln 0 HQ58.out (x11_4 : Int) p56 q56
                                    replace p56 := eq_true p56
                                    replace q56 := eq_true q56
                                    have HP59 := Kd.R_putn HQ58.out (x11_4 : Int) (rd x6_4 x10_4)
                                    rw [← Ny150.out] at HP59
                                    have HQ59 := Aside0.mk HP59
                                    clear HP59
                                    refine start_ (n := 16) (S := fun w' => w'.cell? ⟨go55, (x11_4).toNat, none⟩ = some (.int .u8 (rd x6_4 x11_4)) ∧ w'.cell? ⟨go55, (x10_4).toNat, none⟩ = some (.int .u8 (rd x6_4 x10_4))) (ds := [13, 15]) #[false, false, false, false, false, false, false, false, false, false, false, false, false, false, false, false] (by kernel_rfl) rfl rfl ⟨hx147_0, hx148_0⟩ (fun hHeld => ?_); refine with_tabW impl_digits.tab30 impl_digits.bits30 (fun HT_ HW_ => ?_)
                                    generalize wr.drew = w57 at HO_6 HB GG55 HQ58 HQ59 hf55_0 hf56_0 hx147_0 hx148_0 hx55_0 hx56_0 hHeld ⊢
                                    refine pure_ (i := 0) (N := some 109) (v := ?_) (a' := ?_) #[true, false, false, false, false, false, false, false, false, false, false, false, false, false, false, false] rfl rfl (any_of HT_.out (by kernel_rfl)) (fun _ _ _ h => h) (Or.inl ⟨by rfl, ?_⟩) ?_ ?_
                                    rotate_left
                                    · intro w'
                                      go_simp
                                      with_reducible rfl
                                    rotate_left
                                    · simp only [Act.put, List.setIfInBounds_toArray, List.set_cons_zero, List.set_cons_succ, i64_w, i32_w]
                                      rfl
                                    refine pure_ (i := 1) (N := some 110) (v := ?_) (a' := ?_) #[true, true, false, false, false, false, false, false, false, false, false, false, false, false, false, false] rfl rfl (any_of HT_.out (by kernel_rfl)) (fun _ _ _ h => h) (Or.inl ⟨by rfl, ?_⟩) ?_ ?_
                                    rotate_left
                                    · intro w'
                                      go_simp
                                      with_reducible rfl
                                    rotate_left
                                    · simp only [Act.put, List.setIfInBounds_toArray, List.set_cons_zero, List.set_cons_succ, i64_w, i32_w]
                                      rfl
                                    refine pure_ (i := 2) (N := some 111) (v := ?_) (a' := ?_) #[true, true, true, false, false, false, false, false, false, false, false, false, false, false, false, false] rfl rfl (any_of HT_.out (by kernel_rfl)) (fun _ _ _ h => h) (Or.inl ⟨by rfl, ?_⟩) ?_ ?_
                                    rotate_left
                                    · intro w'
                                      go_simp
                                      with_reducible rfl
                                    rotate_left
                                    · simp only [Act.put, List.setIfInBounds_toArray, List.set_cons_zero, List.set_cons_succ, i64_w, i32_w]
                                      rfl
                                    refine pure_ (i := 3) (N := some 112) (v := ?_) (a' := ?_) #[true, true, true, true, false, false, false, false, false, false, false, false, false, false, false, false] rfl rfl (any_of HT_.out (by kernel_rfl)) (fun _ _ _ h => h) (Or.inl ⟨by rfl, ?_⟩) ?_ ?_
                                    rotate_left
                                    · intro w'
                                      go_simp
                                      with_reducible rfl
                                    rotate_left
                                    · simp only [Act.put, List.setIfInBounds_toArray, List.set_cons_zero, List.set_cons_succ, i64_w, i32_w]
                                      rfl
                                    refine pure_ (i := 4) (N := some 113) (v := ?_) (a' := ?_) #[true, true, true, true, true, false, false, false, false, false, false, false, false, false, false, false] rfl rfl (any_of HT_.out (by kernel_rfl)) (fun _ _ _ h => h) (Or.inl ⟨by rfl, ?_⟩) ?_ ?_
                                    rotate_left
                                    · intro w'
                                      go_simp
                                      with_reducible rfl
                                    rotate_left
                                    · simp only [Act.put, List.setIfInBounds_toArray, List.set_cons_zero, List.set_cons_succ, i64_w, i32_w]
                                      rfl
                                    refine pure_ (i := 5) (N := some 114) (v := ?_) (a' := ?_) #[true, true, true, true, true, true, false, false, false, false, false, false, false, false, false, false] rfl rfl (any_of HT_.out (by kernel_rfl)) (fun _ _ _ h => h) (Or.inl ⟨by rfl, ?_⟩) ?_ ?_
                                    rotate_left
                                    · intro w'
                                      go_simp
                                      with_reducible rfl
                                    rotate_left
                                    · simp only [Act.put, List.setIfInBounds_toArray, List.set_cons_zero, List.set_cons_succ, i64_w, i32_w]
                                      rfl
                                    refine pure_ (i := 6) (N := some 115) (v := ?_) (a' := ?_) #[true, true, true, true, true, true, true, false, false, false, false, false, false, false, false, false] rfl rfl (any_of HT_.out (by kernel_rfl)) (fun _ _ _ h => h) (Or.inl ⟨by rfl, ?_⟩) ?_ ?_
                                    rotate_left
                                    · intro w'
                                      go_simp
                                      with_reducible rfl
                                    rotate_left
                                    · simp only [Act.put, List.setIfInBounds_toArray, List.set_cons_zero, List.set_cons_succ, i64_w, i32_w]
                                      rfl
                                    refine pure_ (i := 8) (N := some 117) (v := ?_) (a' := ?_) #[true, true, true, true, true, true, true, false, true, false, false, false, false, false, false, false] rfl rfl (any_of HT_.out (by kernel_rfl)) (fun _ _ _ h => h) (Or.inl ⟨by rfl, ?_⟩) ?_ ?_
                                    rotate_left
                                    · intro w'
                                      go_simp
                                      with_reducible rfl
                                    rotate_left
                                    · simp only [Act.put, List.setIfInBounds_toArray, List.set_cons_zero, List.set_cons_succ, i64_w, i32_w]
                                      rfl
                                    refine pure_ (i := 9) (N := some 118) (v := ?_) (a' := ?_) #[true, true, true, true, true, true, true, false, true, true, false, false, false, false, false, false] rfl rfl (any_of HT_.out (by kernel_rfl)) (fun _ _ _ h => h) (Or.inl ⟨by rfl, ?_⟩) ?_ ?_
                                    rotate_left
                                    · intro w'
                                      go_simp
                                      with_reducible rfl
                                    rotate_left
                                    · simp only [Act.put, List.setIfInBounds_toArray, List.set_cons_zero, List.set_cons_succ, i64_w, i32_w]
                                      rfl
                                    refine pure_ (i := 10) (N := some 119) (v := ?_) (a' := ?_) #[true, true, true, true, true, true, true, false, true, true, true, false, false, false, false, false] rfl rfl (any_of HT_.out (by kernel_rfl)) (fun _ _ _ h => h) (Or.inl ⟨by rfl, ?_⟩) ?_ ?_
                                    rotate_left
                                    · intro w'
                                      go_simp
                                      with_reducible rfl
                                    rotate_left
                                    · simp only [Act.put, List.setIfInBounds_toArray, List.set_cons_zero, List.set_cons_succ, i64_w, i32_w]
                                      rfl
                                    refine take_ (i := 7) (N := some 116) (v := ?_) (a' := ?_) #[true, true, true, true, true, true, true, true, true, true, true, false, false, false, false, false] rfl rfl (take_ofW HT_.out HW_.out (by kernel_rfl)) (fun _ _ _ h => h) (Or.inl ⟨by rfl, ?_⟩) hHeld ?_ ?_
                                    rotate_left
                                    · rintro w' ⟨s0, s1⟩
                                      go_simp
                                      with_reducible rfl
                                    rotate_left
                                    · simp only [Act.put, List.setIfInBounds_toArray, List.set_cons_zero, List.set_cons_succ, i64_w, i32_w]
                                      rfl
                                    refine take_ (i := 11) (N := some 120) (v := ?_) (a' := ?_) #[true, true, true, true, true, true, true, true, true, true, true, true, false, false, false, false] rfl rfl (take_ofW HT_.out HW_.out (by kernel_rfl)) (fun _ _ _ h => h) (Or.inl ⟨by rfl, ?_⟩) hHeld ?_ ?_
                                    rotate_left
                                    · rintro w' ⟨s0, s1⟩
                                      go_simp
                                      with_reducible rfl
                                    rotate_left
                                    · simp only [Act.put, List.setIfInBounds_toArray, List.set_cons_zero, List.set_cons_succ, i64_w, i32_w]
                                      rfl
                                    refine pure_ (i := 12) (N := some 121) (v := ?_) (a' := ?_) #[true, true, true, true, true, true, true, true, true, true, true, true, true, false, false, false] rfl rfl (any_of HT_.out (by kernel_rfl)) (fun _ _ _ h => h) (Or.inl ⟨by rfl, ?_⟩) ?_ ?_
                                    rotate_left
                                    · intro w'
                                      go_simp
                                      with_reducible rfl
                                    rotate_left
                                    · simp only [Act.put, List.setIfInBounds_toArray, List.set_cons_zero, List.set_cons_succ, i64_w, i32_w]
                                      rfl
                                    refine last_ (i := 13) (N := none) #[true, true, true, true, true, true, true, true, true, true, true, true, true, true, false, false] rfl rfl (one_of HT_.out (by kernel_rfl)) (by decide) (fun K hK => ?_)
                                    refine skip_ (w1 := ?_) (by rfl) rfl ?_ ?_
                                    rotate_left
                                    · go_simp
                                      rfl
                                    refine hK.out _ _ ?_
                                    clear hK K
                                    refine pure_ (i := 14) (N := some 122) (v := ?_) (a' := ?_) #[true, true, true, true, true, true, true, true, true, true, true, true, true, true, true, false] rfl rfl (any_of HT_.out (by kernel_rfl)) (fun _ _ _ h => h) (Or.inl ⟨by rfl, ?_⟩) ?_ ?_
                                    rotate_left
                                    · intro w'
                                      go_simp
                                      with_reducible rfl
                                    rotate_left
                                    · simp only [Act.put, List.setIfInBounds_toArray, List.set_cons_zero, List.set_cons_succ, i64_w, i32_w]
                                      rfl
                                    refine last_ (i := 15) (N := none) #[true, true, true, true, true, true, true, true, true, true, true, true, true, true, true, true] rfl rfl (one_of HT_.out (by kernel_rfl)) (by decide) (fun K hK => ?_)
                                    refine skip_ (w1 := ?_) (by rfl) rfl ?_ ?_
                                    rotate_left
                                    · go_simp
                                      rfl
                                    refine hK.out _ _ ?_
                                    clear hK K
                                    refine done_ (done_of HT_.out (by kernel_rfl)) ?_
                                    try go_wp2
                                    (try simp only [← hl6_4])
                                    go_roundg k4
                                    case measure => have := HK1.out; have := HK2.out; have := HJ42.out; have := HK4.out; omega
                                    case rel => exact ⟨(y150), (wrap64 (x10_4 + 1)), (wrap64 (x11_4 - 1)), (by first | rfl | (simp; done) | (simp [*]; done)), (by first | rfl | (simp; done) | (simp [*]; done)), H', ⟨by have := HK1.out; have := HK2.out; have := HJ42.out; have := HK4.out; omega⟩, ⟨by (try simp only [hl6_4]); (with_reducible repeat (first | apply Kd.R_alloc | apply Kd.R_drewN | apply Kd.R_drew)); exact HQ59.out⟩, ⟨by repeat (first | (with_reducible first | exact HB.out | apply below_alloc | apply pw_below_drewN | apply below_drew1 | refine below_set ?_ GB55.out | refine below_set ?_ GB55.out) | exact HB.out)⟩⟩
                                  · rw [if_neg c54] at H
                                    exact absurd H (by simp)
                                · rw [if_neg c53] at H
                                  exact absurd H (by simp)
                              · rw [if_neg c52] at H
                                exact absurd H (by simp)
                            · rw [if_neg c51] at H
                              exact absurd H (by simp)
                          · rw [if_neg c50] at H
                            have c50b0 : decide (x10_4 < x11_4) = false := decide_eq_false c50
                            clear c50
                            obtain rfl := Option.some.inj H
                            have hcv60 := own_string (P := Tryz.prog) Tryz.underlying54 Tryz.underlying5 Tryz.underlying9 (Kd.own_of_R HO_6.out)
                            go_wp2
                            go_ret
                            exact ⟨by first | rfl | (simp [errW_none, errW_some] <;> rfl) | (simp [*, errW_none, errW_some] <;> rfl), by repeat (first | (with_reducible first | exact HB.out | apply below_alloc | apply pw_below_drewN | apply below_drew1) | exact HB.out)⟩

end Go.Proofs.YtghabdpbacgicaaGreatDoor.S
