/-
  CONTRACTS: bigall_nat_zzBytes2. (Began as print.sh's text over a scratch copy; turned by wip/tools/transplant.py and by hand.)
-/
import Derived.Test.YtghabdpbacgicaaDoorS0
import Derived.Test.YtghabdpbacgicaaDoorTI
namespace Go.Proofs.YtghabdpbacgicaaDoor.S
open Go.RowKit Go.Proofs.YtghabdpbacgicaaDoorW.PrintWords Go.Proofs.YtghabdpbacgicaaDoorW.PrintLast Go.Proofs.YtghabdpbacgicaaDoorW.PrintMore
attribute [local go_sem] max2_int min2_int max_two min_two max_three min_three max_four min_four
set_option linter.unusedVariables false
set_option linter.unusedSimpArgs false

/-! ### bigall_nat_bytes -/

mutual
def bigall_nat_bytes.l0 : Nat → List Int → Int → List Int → Int → Int → Option (Int × List Int)
  | 0, _, _, _, _, _ => none
  | k + 1, x1, x4, x10, x11, x12 => if x12 < x11 then (if 0 ≤ x12 then (if x12 < (x10.length : Int) then (bigall_nat_bytes.l1 k x1 x4 (rd x10 x12) 0 x10 x11 x12) else (none)) else (none)) else (if x4 < 0 then (bigall_nat_bytes.j2 k x1 0) else (bigall_nat_bytes.j2 k x1 x4))
def bigall_nat_bytes.l1 : Nat → List Int → Int → Int → Int → List Int → Int → Int → Option (Int × List Int)
  | 0, _, _, _, _, _, _, _ => none
  | k + 1, x1, x4, x6, x7, x10, x11, x12 => if x7 < 8 then (if (wrap64 (x4 - 1)) ≥ 0 then (if 0 ≤ (wrap64 (x4 - 1)) then (if (wrap64 (x4 - 1)) < (x1.length : Int) then (bigall_nat_bytes.l1 k (x1.set ((wrap64 (x4 - 1)) : Int).toNat ((x6) % 256)) (wrap64 (x4 - 1)) (x6 / 256) (wrap64 (x7 + 1)) x10 x11 x12) else (none)) else (none)) else (if ((x6) % 256) = 0 then (bigall_nat_bytes.l1 k x1 (wrap64 (x4 - 1)) (x6 / 256) (wrap64 (x7 + 1)) x10 x11 x12) else (none))) else (bigall_nat_bytes.l0 k x1 x4 x10 x11 (wrap64 (x12 + 1)))
def bigall_nat_bytes.j2 : Nat → List Int → Int → Option (Int × List Int)
  | 0, _, _ => none
  | k + 1, x1, x4 => bigall_nat_bytes.l2 k x1 x4
def bigall_nat_bytes.l2 : Nat → List Int → Int → Option (Int × List Int)
  | 0, _, _ => none
  | k + 1, x1, x4 => if x4 < (x1.length : Int) then (if 0 ≤ x4 then (if (rd x1 x4) = 0 then (bigall_nat_bytes.l2 k x1 (wrap64 (x4 + 1))) else (some (x4, x1))) else (none)) else (some (x4, x1))
end
def bigall_nat_bytes.f (k : Nat) (l0 : List Int) (l1 : List Int) : Option (Int × List Int) := bigall_nat_bytes.l0 k l1 (l1.length : Int) l0 (l0.length : Int) 0
theorem bigall_nat_bytes.mono_l : ∀ k, (∀ y0 y1 y2 y3 y4, LeO (bigall_nat_bytes.l0 k y0 y1 y2 y3 y4) (bigall_nat_bytes.l0 (k + 1) y0 y1 y2 y3 y4)) ∧ (∀ y0 y1 y2 y3 y4 y5 y6, LeO (bigall_nat_bytes.l1 k y0 y1 y2 y3 y4 y5 y6) (bigall_nat_bytes.l1 (k + 1) y0 y1 y2 y3 y4 y5 y6)) ∧ (∀ y0 y1, LeO (bigall_nat_bytes.j2 k y0 y1) (bigall_nat_bytes.j2 (k + 1) y0 y1)) ∧ (∀ y0 y1, LeO (bigall_nat_bytes.l2 k y0 y1) (bigall_nat_bytes.l2 (k + 1) y0 y1))
  | 0 => ⟨fun _ _ _ _ _ r h => by simp [bigall_nat_bytes.l0] at h, fun _ _ _ _ _ _ _ r h => by simp [bigall_nat_bytes.l1] at h, fun _ _ r h => by simp [bigall_nat_bytes.j2] at h, fun _ _ r h => by simp [bigall_nat_bytes.l2] at h⟩
  | k + 1 => by
    obtain ⟨ih0, ih1, ih2, ih3⟩ := bigall_nat_bytes.mono_l k
    refine ⟨?_, ?_, ?_, ?_⟩
    · intro y0 y1 y2 y3 y4
      unfold bigall_nat_bytes.l0
      repeat' first
      | (with_reducible exact ih0 _ _ _ _ _)
      | (with_reducible exact ih1 _ _ _ _ _ _ _)
      | (with_reducible exact ih2 _ _)
      | (with_reducible exact ih3 _ _)
      | (with_reducible exact LeO.refl _)
      | (with_reducible exact LeO.none _)
      | (with_reducible refine LeO.ite ?_ ?_)
      | (with_reducible refine LeO.bind ?_ (fun _ => ?_))
      | exact ih0 _ _ _ _ _
      | exact ih1 _ _ _ _ _ _ _
      | exact ih2 _ _
      | exact ih3 _ _
      | exact LeO.none _
      | refine LeO.ite ?_ ?_
      | refine LeO.bind ?_ (fun _ => ?_)
    · intro y0 y1 y2 y3 y4 y5 y6
      unfold bigall_nat_bytes.l1
      repeat' first
      | (with_reducible exact ih0 _ _ _ _ _)
      | (with_reducible exact ih1 _ _ _ _ _ _ _)
      | (with_reducible exact ih2 _ _)
      | (with_reducible exact ih3 _ _)
      | (with_reducible exact LeO.refl _)
      | (with_reducible exact LeO.none _)
      | (with_reducible refine LeO.ite ?_ ?_)
      | (with_reducible refine LeO.bind ?_ (fun _ => ?_))
      | exact ih0 _ _ _ _ _
      | exact ih1 _ _ _ _ _ _ _
      | exact ih2 _ _
      | exact ih3 _ _
      | exact LeO.none _
      | refine LeO.ite ?_ ?_
      | refine LeO.bind ?_ (fun _ => ?_)
    · intro y0 y1
      unfold bigall_nat_bytes.j2
      repeat' first
      | (with_reducible exact ih0 _ _ _ _ _)
      | (with_reducible exact ih1 _ _ _ _ _ _ _)
      | (with_reducible exact ih2 _ _)
      | (with_reducible exact ih3 _ _)
      | (with_reducible exact LeO.refl _)
      | (with_reducible exact LeO.none _)
      | (with_reducible refine LeO.ite ?_ ?_)
      | (with_reducible refine LeO.bind ?_ (fun _ => ?_))
      | exact ih0 _ _ _ _ _
      | exact ih1 _ _ _ _ _ _ _
      | exact ih2 _ _
      | exact ih3 _ _
      | exact LeO.none _
      | refine LeO.ite ?_ ?_
      | refine LeO.bind ?_ (fun _ => ?_)
    · intro y0 y1
      unfold bigall_nat_bytes.l2
      repeat' first
      | (with_reducible exact ih0 _ _ _ _ _)
      | (with_reducible exact ih1 _ _ _ _ _ _ _)
      | (with_reducible exact ih2 _ _)
      | (with_reducible exact ih3 _ _)
      | (with_reducible exact LeO.refl _)
      | (with_reducible exact LeO.none _)
      | (with_reducible refine LeO.ite ?_ ?_)
      | (with_reducible refine LeO.bind ?_ (fun _ => ?_))
      | exact ih0 _ _ _ _ _
      | exact ih1 _ _ _ _ _ _ _
      | exact ih2 _ _
      | exact ih3 _ _
      | exact LeO.none _
      | refine LeO.ite ?_ ?_
      | refine LeO.bind ?_ (fun _ => ?_)
theorem bigall_nat_bytes.mono : ∀ a0 a1 k, LeO (bigall_nat_bytes.f k a0 a1) (bigall_nat_bytes.f (k + 1) a0 a1) := by
  intro a0 a1 k
  obtain ⟨ih0, ih1, ih2, ih3⟩ := bigall_nat_bytes.mono_l k
  unfold bigall_nat_bytes.f
  repeat' first
      | (with_reducible exact ih0 _ _ _ _ _)
      | (with_reducible exact ih1 _ _ _ _ _ _ _)
      | (with_reducible exact ih2 _ _)
      | (with_reducible exact ih3 _ _)
      | (with_reducible exact LeO.refl _)
      | (with_reducible exact LeO.none _)
      | (with_reducible refine LeO.ite ?_ ?_)
      | (with_reducible refine LeO.bind ?_ (fun _ => ?_))
      | exact ih0 _ _ _ _ _
      | exact ih1 _ _ _ _ _ _ _
      | exact ih2 _ _
      | exact ih3 _ _
      | exact LeO.none _
      | refine LeO.ite ?_ ?_
      | refine LeO.bind ?_ (fun _ => ?_)
set_option maxHeartbeats 8000000 in
set_option maxRecDepth 100000 in
theorem bigall_nat_bytes.calls (k : Nat) (A0 : Option Addr) (c0 : Nat) (l0 : List Int) (P1_ : Nat → Prop) (u9000_ : Value) (l1 : List Int) (r1 : Int) (r2 : List Int) (w0 w : World) (hB : Below w0.heap.size w0 w) (hr0 : ∀ W_, Kept w W_ (fun k_ => P1_ k_) → Kd.C (Kd.int .u64) W_ A0 l0.length l0) (hc0 : l0.length ≤ c0) (ho1 : Kd.R (Kd.int .u8) 5 w w0.heap.size P1_ u9000_ l1) (h : bigall_nat_bytes.f k l0 l1 = some (r1, r2)) :
    Calls Tryd.prog 41 #[.slice A0 l0.length c0, u9000_] w fun e w' => e = .returned (.int .i64 r1) ∧ Kd.R (Kd.int .u8) 5 w' w0.heap.size (fun k_ => (P1_ k_ ∨ w.heap.size ≤ k_)) u9000_ r2 ∧ Below w0.heap.size w0 w' ∧ Kept w w' (fun k_ => P1_ k_) := by
  have HR0 := Aside0.mk hr0
  have HC0 := Aside0.mk hc0
  clear hr0 hc0
  have HO1 := Aside0.mk (show Kd.R (Kd.int .u8) 5 w w0.heap.size (fun k_ => (P1_ k_ ∨ w.heap.size ≤ k_)) u9000_ l1 from Kd.R_mono ho1 (fun k_ hk => (.inl hk)))
  have HK := Aside0.mk (Kept.refl w (fun k_ => P1_ k_))
  have HW0 := Aside0.mk hB.size
  have HB := Aside0.mk hB
  clear hB
  have H : (bigall_nat_bytes.l0 k l1 (l1.length : Int) l0 (l0.length : Int) 0) = some (r1, r2) := h
  clear h
  have H' := Aside0.mk H
  clear H
  obtain ⟨Ao3, co3, eo3⟩ := Kd.R_slice HO1.out
  subst eo3
  go_enter Tryd.func41, Tryd.ntmps41
  go_wp2
  go_loopg [4, 12] k (fun kq v4 v12 w' => ∃ (x1_1 : List Int) (x4_1 : Int) (x12_1 : Int), v4 = .int .i64 x4_1 ∧ v12 = .int .i64 x12_1 ∧ Aside0 (bigall_nat_bytes.l0 kq x1_1 x4_1 l0 (l0.length : Int) x12_1 = some (r1, r2)) ∧ Aside0 (kq ≤ k) ∧ Aside0 (Kd.R (Kd.int .u8) 5 w' w0.heap.size (fun k_ => (P1_ k_ ∨ w.heap.size ≤ k_)) (.slice Ao3 l1.length co3) x1_1) ∧ Aside0 (Kept w w' (fun k_ => P1_ k_)) ∧ Aside0 (Below w0.heap.size w0 w'))
  case atStart => exact ⟨(l1), ((l1.length : Int)), (0), (by first | rfl | (simp; done) | (simp [*]; done)), (by first | rfl | (simp; done) | (simp [*]; done)), H', ⟨Nat.le_refl _⟩, ⟨by (with_reducible repeat (first | apply Kd.R_alloc | apply Kd.R_drewN | apply Kd.R_drew)); exact HO1.out⟩, ⟨by repeat (first | (with_reducible first | exact HK.out | apply Kept.alloc | apply Kept.drewN | apply Kept.drew) | exact HK.out)⟩, ⟨by repeat (first | (with_reducible first | exact HB.out | apply below_alloc | apply pw_below_drewN | apply below_drew1) | exact HB.out)⟩⟩
  case round =>
    clear H'
    try clear p2
    obtain ⟨x1_1, x4_1, x12_1, rfl, rfl, HA, HK1, HO_1, HK, HB⟩ := hrel
    have hl1_1 := (Kd.R_reads' HO_1.out).1
    rw [hl1_1] at HO_1
    (try simp only [hl1_1])
    cases gk with
    | zero => exact absurd HA.out (by simp [bigall_nat_bytes.l0])
    | succ k1 =>
      have H := HA.out
      clear HA
      simp only [bigall_nat_bytes.l0] at H
      by_cases c4 : x12_1 < (l0.length : Int)
      · rw [if_pos c4] at H
        have c4b0 : decide (x12_1 < (l0.length : Int)) = true := decide_eq_true c4
        clear c4
        by_cases c5 : 0 ≤ x12_1
        · rw [if_pos c5] at H
          have c5b0 : decide (0 ≤ x12_1) = true := decide_eq_true c5
          clear c5
          by_cases c6 : x12_1 < (l0.length : Int)
          · rw [if_pos c6] at H
            have c6b0 : decide (x12_1 < (l0.length : Int)) = true := decide_eq_true c6
            clear c6
            have H' := Aside0.mk H
            clear H
            have p113 : 0 ≤ (x12_1 : Int) := of_decide_eq_true (by first | (with_reducible assumption) | assumption)
            have q113 : x12_1 < (l0.length : Int) := of_decide_eq_true (by first | (with_reducible assumption) | assumption)
            obtain ⟨ad113, e113, hx113_0⟩ := Kd.at_int (Kd.C_kept_now HR0.out HK.out) x12_1 p113 q113
            cases e113
            replace p113 := eq_true p113
            replace q113 := eq_true q113
            go_wp2
            go_loopg [4, 6, 7] k1 (fun kq v4 v6 v7 w' => ∃ (x1_2 : List Int) (x4_2 : Int) (x6_2 : Int) (x7_2 : Int), v4 = .int .i64 x4_2 ∧ v6 = .int .u64 x6_2 ∧ v7 = .int .i64 x7_2 ∧ Aside0 (bigall_nat_bytes.l1 kq x1_2 x4_2 x6_2 x7_2 l0 (l0.length : Int) x12_1 = some (r1, r2)) ∧ Aside0 (kq ≤ k1) ∧ Aside0 (Kd.R (Kd.int .u8) 5 w' w0.heap.size (fun k_ => (P1_ k_ ∨ w.heap.size ≤ k_)) (.slice Ao3 x1_1.length co3) x1_2) ∧ Aside0 (Kept w w' (fun k_ => P1_ k_)) ∧ Aside0 (Below w0.heap.size w0 w'))
            case atStart => exact ⟨(x1_1), (x4_1), (rd l0 x12_1), (0), (by first | rfl | (simp; done) | (simp [*]; done)), (by first | rfl | (simp; done) | (simp [*]; done)), (by first | rfl | (simp; done) | (simp [*]; done)), H', ⟨Nat.le_refl _⟩, ⟨by (try simp only [hl1_1]); (with_reducible repeat (first | apply Kd.R_alloc | apply Kd.R_drewN | apply Kd.R_drew)); exact HO_1.out⟩, ⟨by repeat (first | (with_reducible first | exact HK.out | apply Kept.alloc | apply Kept.drewN | apply Kept.drew) | exact HK.out)⟩, ⟨by repeat (first | (with_reducible first | exact HB.out | apply below_alloc | apply pw_below_drewN | apply below_drew1) | exact HB.out)⟩⟩
            case round =>
              clear H'
              try clear p1
              try clear q1
              try clear hx1
              try clear p2
              try clear c4
              try clear c4b0
              try clear c5
              try clear c5b0
              try clear c6
              try clear c6b0
              try clear hx113_0
              try clear p113
              try clear p2
              try clear q113
              obtain ⟨x1_2, x4_2, x6_2, x7_2, rfl, rfl, rfl, HA, HK2, HO_1, HK, HB⟩ := hrel
              have hl1_2 := (Kd.R_reads' HO_1.out).1
              rw [hl1_2] at HO_1
              (try simp only [hl1_2])
              cases gk with
              | zero => exact absurd HA.out (by simp [bigall_nat_bytes.l1])
              | succ k2 =>
                have H := HA.out
                clear HA
                simp only [bigall_nat_bytes.l1] at H
                by_cases c7 : x7_2 < 8
                · rw [if_pos c7] at H
                  have c7b0 : decide (x7_2 < 8) = true := decide_eq_true c7
                  clear c7
                  by_cases c8 : (wrap64 (x4_2 - 1)) ≥ 0
                  · rw [if_pos c8] at H
                    have c8b0 : decide (0 ≤ (wrap64 (x4_2 - 1))) = true := decide_eq_true c8
                    clear c8
                    obtain ⟨ji9, hji9⟩ : ∃ j_ : Int, (wrap64 (x4_2 - 1)) = j_ := ⟨_, rfl⟩
                    replace H : (if 0 ≤ (ji9) then (if (ji9) < (x1_2.length : Int) then (bigall_nat_bytes.l1 k2 (x1_2.set ((ji9) : Int).toNat ((x6_2) % 256)) ji9 (x6_2 / 256) (wrap64 (x7_2 + 1)) l0 (l0.length : Int) x12_1) else (none)) else (none)) = some (r1, r2) := by first | (rw [hji9] at H; exact H) | (simp only [hji9] at H ⊢; exact H)
                    (try rw [hji9] at c8b0)
                    have hji9w : (IntKind.i64.wrap (x4_2 - 1)) = ji9 := (i64_w _).trans hji9
                    by_cases c10 : 0 ≤ (ji9)
                    · rw [if_pos c10] at H
                      have c10b0 : decide (0 ≤ (ji9)) = true := decide_eq_true c10
                      clear c10
                      by_cases c11 : (ji9) < (x1_2.length : Int)
                      · rw [if_pos c11] at H
                        have c11b0 : decide ((ji9) < (x1_2.length : Int)) = true := decide_eq_true c11
                        clear c11
                        obtain ⟨y114, hy114⟩ : ∃ y_ : List Int, y_ = (x1_2.set ((ji9) : Int).toNat ((x6_2) % 256)) := ⟨_, rfl⟩
                        replace H : (bigall_nat_bytes.l1 k2 y114 ji9 (x6_2 / 256) (wrap64 (x7_2 + 1)) l0 (l0.length : Int) x12_1) = some (r1, r2) := by first | (rw [hy114]; with_reducible exact H) | (have H2_ := (Option.bind_some _ _).symm.trans H; rw [hy114]; with_reducible exact H2_) | (have H2_ := (Option.bind_some _ _).symm.trans H; with_reducible exact H2_) | with_reducible exact H | (rw [hy114]; exact H) | exact H
                        have Ny114 := Aside0.mk hy114
                        clear hy114
                        have H' := Aside0.mk H
                        clear H
                        have p12 : 0 ≤ ((ji9) : Int) := of_decide_eq_true (by first | (with_reducible assumption) | assumption)
                        have q12 : ((ji9) : Int) < ((x1_2.length : Int) : Int) := of_decide_eq_true (by first | (with_reducible assumption) | assumption)
                        obtain ⟨go12, co12, eo12, gb12, gl12, cl12, HG12⟩ := Kd.R_form HO_1.out (by omega)
                        (first | cases eo12 | (injection eo12 with ea_ en_ ec_; (first | subst ea_ | (injection ea_ with ea_; subst ea_)); subst ec_; clear en_))
                        have GB12 := Aside0.mk gb12
                        have GG12 := Aside0.mk HG12
                        clear gb12 gl12 HG12
                        have HMgo12 := Aside0.mk (show (P1_ go12 ∨ w.heap.size ≤ go12) from (HO_1.out.1 _ rfl))
                        obtain ⟨hx12_0, hf12_0⟩ := Kd.R_celln 0 HO_1.out ((ji9) : Int) p12 q12
                        replace p12 := eq_true p12
                        replace q12 := eq_true q12
                        have HP13 := Kd.R_putg HO_1.out ((ji9) : Int) ((x6_2) % 256)
                        go_wp2_with (first | ((with_reducible refine gate_store (t := 5) (p := 28) rfl ?_); refine store_event (t := 5) (p := 28) (v := ?vo_w14) (w1 := (wr.setCell ⟨go12, ((ji9) : Int).toNat, none⟩ (.int .u8 ((x6_2) % 256)))) ?hg ?ho ?hn ?hr ?_; (case ho => rfl); (case hg => rfl); (case hn => rfl); (case hr => first | (go_simp; done) | (go_simp; rfl)); intro w14 hw; have hg : wr.grownBy w14 (some go12) := (by rw [hw]; exact HP13.2); have hp_ : Kd.R (Kd.int .u8) 5 w14 w0.heap.size (fun k_ => (P1_ k_ ∨ w.heap.size ≤ k_)) (.slice (some ⟨go12, 0, none⟩) x1_2.length co3) y114 := (by rw [hw, Ny114.out]; exact HP13.1); clear HP13; have n0_ := Aside0.mk (hp_); have n1_ := Aside0.mk ((by rw [hw]; exact below_set (HB.out) GB12.out : Below w0.heap.size w0 w14)); have n2_ := Aside0.mk (Kept.of_grown (S := (fun k_ => P1_ k_)) hg (by repeat (first | (with_reducible first | exact HK.out | apply Kept.alloc | apply Kept.drewN | apply Kept.drew) | exact HK.out)) (fun k_ e_ => (HO_1.out.1 k_ e_))); clear HO_1; clear HB; clear HK; have HO_1 := n0_; have HB := n1_; have HK := n2_; clear n0_ n1_ n2_; clear hg hw hp_))
                        (try simp only [← hl1_2])
                        go_roundg k2
                        case measure => have := HK1.out; have := HK2.out; omega
                        case rel => exact ⟨(y114), (ji9), (x6_2 / 256), (wrap64 (x7_2 + 1)), (by first | rfl | (simp; done) | (simp only [← hji9] <;> (first | rfl | simp)) | (simp [*]; done)), (by first | rfl | (simp; done) | (simp [*]; done)), (by first | rfl | (simp; done) | (simp [*]; done)), H', ⟨by have := HK1.out; have := HK2.out; omega⟩, ⟨by (try simp only [hl1_1]); (try simp only [hl1_2]); (with_reducible repeat (first | apply Kd.R_alloc | apply Kd.R_drewN | apply Kd.R_drew)); exact HO_1.out⟩, ⟨by repeat (first | (with_reducible first | exact HK.out | apply Kept.alloc | apply Kept.drewN | apply Kept.drew) | exact HK.out)⟩, ⟨by repeat (first | (with_reducible first | exact HB.out | apply below_alloc | apply pw_below_drewN | apply below_drew1) | exact HB.out)⟩⟩
                      · rw [if_neg c11] at H
                        exact absurd H (by simp)
                    · rw [if_neg c10] at H
                      exact absurd H (by simp)
                  · rw [if_neg c8] at H
                    have c8b0 : decide (0 ≤ (wrap64 (x4_2 - 1))) = false := decide_eq_false c8
                    clear c8
                    by_cases c15 : ((x6_2) % 256) = 0
                    · rw [if_pos c15] at H
                      have c15b0 : (((x6_2) % 256) == 0) = true := beq_iff_eq.mpr c15
                      have c15b1 : (((x6_2) % 256) != 0) = false := bne_eq_false_iff_eq.mpr c15
                      clear c15
                      have H' := Aside0.mk H
                      clear H
                      go_wp2
                      (try simp only [← hl1_2])
                      go_roundg k2
                      case measure => have := HK1.out; have := HK2.out; omega
                      case rel => exact ⟨(x1_2), (wrap64 (x4_2 - 1)), (x6_2 / 256), (wrap64 (x7_2 + 1)), (by first | rfl | (simp; done) | (simp [*]; done)), (by first | rfl | (simp; done) | (simp [*]; done)), (by first | rfl | (simp; done) | (simp [*]; done)), H', ⟨by have := HK1.out; have := HK2.out; omega⟩, ⟨by (try simp only [hl1_1]); (try simp only [hl1_2]); (with_reducible repeat (first | apply Kd.R_alloc | apply Kd.R_drewN | apply Kd.R_drew)); exact HO_1.out⟩, ⟨by repeat (first | (with_reducible first | exact HK.out | apply Kept.alloc | apply Kept.drewN | apply Kept.drew) | exact HK.out)⟩, ⟨by repeat (first | (with_reducible first | exact HB.out | apply below_alloc | apply pw_below_drewN | apply below_drew1) | exact HB.out)⟩⟩
                    · rw [if_neg c15] at H
                      exact absurd H (by simp)
                · rw [if_neg c7] at H
                  have c7b0 : decide (x7_2 < 8) = false := decide_eq_false c7
                  clear c7
                  have H' := Aside0.mk H
                  clear H
                  go_wp2
                  (try simp only [← hl1_1, ← hl1_2])
                  go_roundg k2
                  case measure => have := HK1.out; have := HK2.out; omega
                  case rel => exact ⟨(x1_2), (x4_2), (wrap64 (x12_1 + 1)), (by first | rfl | (simp; done) | (simp [*]; done)), (by first | rfl | (simp; done) | (simp [*]; done)), H', ⟨by have := HK1.out; have := HK2.out; omega⟩, ⟨by (try simp only [hl1_1]); (try simp only [hl1_2]); (with_reducible repeat (first | apply Kd.R_alloc | apply Kd.R_drewN | apply Kd.R_drew)); exact HO_1.out⟩, ⟨by repeat (first | (with_reducible first | exact HK.out | apply Kept.alloc | apply Kept.drewN | apply Kept.drew) | exact HK.out)⟩, ⟨by repeat (first | (with_reducible first | exact HB.out | apply below_alloc | apply pw_below_drewN | apply below_drew1) | exact HB.out)⟩⟩
          · rw [if_neg c6] at H
            exact absurd H (by simp)
        · rw [if_neg c5] at H
          exact absurd H (by simp)
      · rw [if_neg c4] at H
        have c4b0 : decide (x12_1 < (l0.length : Int)) = false := decide_eq_false c4
        clear c4
        have HC16 := Aside0.mk H
        clear H
        go_upto_if 37 with (fail)
        go_cut [4] (fun v4 wc => ∃ (kq : Nat) (x4_15 : Int), v4 = .int .i64 x4_15 ∧ Aside0 (bigall_nat_bytes.j2 kq x1_1 x4_15 = some (r1, r2)) ∧ Aside0 (kq ≤ k1) ∧ Aside0 (Kd.R (Kd.int .u8) 5 wc w0.heap.size (fun k_ => (P1_ k_ ∨ w.heap.size ≤ k_)) (.slice Ao3 x1_1.length co3) x1_1) ∧ Aside0 (Kept w wc (fun k_ => P1_ k_)) ∧ Aside0 (Below w0.heap.size w0 wc))
        case first =>
          have H := HC16.out
          clear HC16
          by_cases c17 : x4_1 < 0
          · rw [if_pos c17] at H
            have c17b0 : decide (x4_1 < 0) = true := decide_eq_true c17
            clear c17
            (first | rw [c17b0] | (simp only [i64_w, i32_w]; rw [c17b0]) | skip)
            have H' := Aside0.mk H
            clear H
            go_wp2
            go_meet
            case rel => exact ⟨_, (0), (by first | rfl | (simp; done) | (simp [*]; done)), H', ⟨by have := HK1.out; first | omega | exact Nat.le_refl _⟩, ⟨by (try simp only [hl1_1]); (with_reducible repeat (first | apply Kd.R_alloc | apply Kd.R_drewN | apply Kd.R_drew)); exact HO_1.out⟩, ⟨by repeat (first | (with_reducible first | exact HK.out | apply Kept.alloc | apply Kept.drewN | apply Kept.drew) | exact HK.out)⟩, ⟨by repeat (first | (with_reducible first | exact HB.out | apply below_alloc | apply pw_below_drewN | apply below_drew1) | exact HB.out)⟩⟩
          · rw [if_neg c17] at H
            have c17b0 : decide (x4_1 < 0) = false := decide_eq_false c17
            clear c17
            (first | rw [c17b0] | (simp only [i64_w, i32_w]; rw [c17b0]) | skip)
            have H' := Aside0.mk H
            clear H
            go_wp2
            go_meet
            case rel => exact ⟨_, (x4_1), (by first | rfl | (simp; done) | (simp [*]; done)), H', ⟨by have := HK1.out; first | omega | exact Nat.le_refl _⟩, ⟨by (try simp only [hl1_1]); (with_reducible repeat (first | apply Kd.R_alloc | apply Kd.R_drewN | apply Kd.R_drew)); exact HO_1.out⟩, ⟨by repeat (first | (with_reducible first | exact HK.out | apply Kept.alloc | apply Kept.drewN | apply Kept.drew) | exact HK.out)⟩, ⟨by repeat (first | (with_reducible first | exact HB.out | apply below_alloc | apply pw_below_drewN | apply below_drew1) | exact HB.out)⟩⟩
        case rest =>
          clear HC16
          try clear c1
          try clear p1
          try clear q1
          try clear hx1
          try clear p2
          try clear c4
          try clear c4b0
          try clear c5
          try clear c5b0
          try clear c6
          try clear c6b0
          try clear p6
          try clear c7
          try clear c7b0
          try clear c8
          try clear c8b0
          try clear c9
          try clear c10
          try clear c10b0
          try clear c11
          try clear c11b0
          try clear p11
          try clear q11
          try clear hx11
          try clear p12
          try clear q12
          try clear hx12
          try clear hf12
          try clear c15
          try clear c15b0
          try clear c15b1
          try clear c17
          try clear c17b0
          try clear hx113_0
          try clear hx12_0
          try clear p1
          try clear p113
          try clear p12
          try clear p2
          try clear q1
          try clear q113
          try clear q12
          obtain ⟨kq, x4_15, rfl, HA, HJ15, HO_1, HK, HB⟩ := hcut
          cases kq with
          | zero => exact absurd HA.out (by simp [bigall_nat_bytes.j2])
          | succ kj15 =>
            have H := HA.out
            clear HA
            simp only [bigall_nat_bytes.j2] at H
            have H' := Aside0.mk H
            clear H
            go_wp2
            go_loopg [4] kj15 (fun kq v4 w' => ∃ (x4_3 : Int), v4 = .int .i64 x4_3 ∧ Aside0 (bigall_nat_bytes.l2 kq x1_1 x4_3 = some (r1, r2)) ∧ Aside0 (kq ≤ kj15) ∧ Aside0 (Kd.R (Kd.int .u8) 5 w' w0.heap.size (fun k_ => (P1_ k_ ∨ w.heap.size ≤ k_)) (.slice Ao3 x1_1.length co3) x1_1) ∧ Aside0 (Kept w w' (fun k_ => P1_ k_)) ∧ Aside0 (Below w0.heap.size w0 w'))
            case atStart => exact ⟨(x4_15), (by first | rfl | (simp; done) | (simp [*]; done)), H', ⟨Nat.le_refl _⟩, ⟨by (try simp only [hl1_1]); (with_reducible repeat (first | apply Kd.R_alloc | apply Kd.R_drewN | apply Kd.R_drew)); exact HO_1.out⟩, ⟨by repeat (first | (with_reducible first | exact HK.out | apply Kept.alloc | apply Kept.drewN | apply Kept.drew) | exact HK.out)⟩, ⟨by repeat (first | (with_reducible first | exact HB.out | apply below_alloc | apply pw_below_drewN | apply below_drew1) | exact HB.out)⟩⟩
            case round =>
              clear H'
              try clear c1
              try clear p1
              try clear q1
              try clear hx1
              try clear p2
              try clear c4
              try clear c4b0
              try clear c5
              try clear c5b0
              try clear c6
              try clear c6b0
              try clear p6
              try clear c7
              try clear c7b0
              try clear c8
              try clear c8b0
              try clear c9
              try clear c10
              try clear c10b0
              try clear c11
              try clear c11b0
              try clear p11
              try clear q11
              try clear hx11
              try clear p12
              try clear q12
              try clear hx12
              try clear hf12
              try clear c15
              try clear c15b0
              try clear c15b1
              try clear c17
              try clear c17b0
              try clear hx113_0
              try clear hx12_0
              try clear p1
              try clear p11
              try clear p113
              try clear p12
              try clear p2
              try clear p6
              try clear q1
              try clear q11
              try clear q113
              try clear q12
              obtain ⟨x4_3, rfl, HA, HK3, HO_1, HK, HB⟩ := hrel
              cases gk with
              | zero => exact absurd HA.out (by simp [bigall_nat_bytes.l2])
              | succ k3 =>
                have H := HA.out
                clear HA
                simp only [bigall_nat_bytes.l2] at H
                by_cases c18 : x4_3 < (x1_1.length : Int)
                · rw [if_pos c18] at H
                  have c18b0 : decide (x4_3 < (x1_1.length : Int)) = true := decide_eq_true c18
                  clear c18
                  by_cases c19 : 0 ≤ x4_3
                  · rw [if_pos c19] at H
                    have c19b0 : decide (0 ≤ x4_3) = true := decide_eq_true c19
                    clear c19
                    by_cases c20 : (rd x1_1 x4_3) = 0
                    · rw [if_pos c20] at H
                      have c20b0 : ((rd x1_1 x4_3) == 0) = true := beq_iff_eq.mpr c20
                      have c20b1 : ((rd x1_1 x4_3) != 0) = false := bne_eq_false_iff_eq.mpr c20
                      clear c20
                      have H' := Aside0.mk H
                      clear H
                      have p115 : 0 ≤ (x4_3 : Int) := of_decide_eq_true (by first | (with_reducible assumption) | assumption)
                      have q115 : x4_3 < (x1_1.length : Int) := of_decide_eq_true (by first | (with_reducible assumption) | assumption)
                      obtain ⟨ad115, e115, hx115_0⟩ := Kd.at_int (Kd.R_reads' HO_1.out).2.2 x4_3 p115 q115
                      cases e115
                      replace p115 := eq_true p115
                      replace q115 := eq_true q115
                      go_wp2
                      go_roundg k3
                      case measure => have := HK1.out; have := HJ15.out; have := HK3.out; omega
                      case rel => exact ⟨(wrap64 (x4_3 + 1)), (by first | rfl | (simp; done) | (simp [*]; done)), H', ⟨by have := HK1.out; have := HJ15.out; have := HK3.out; omega⟩, ⟨by (try simp only [hl1_1]); (with_reducible repeat (first | apply Kd.R_alloc | apply Kd.R_drewN | apply Kd.R_drew)); exact HO_1.out⟩, ⟨by repeat (first | (with_reducible first | exact HK.out | apply Kept.alloc | apply Kept.drewN | apply Kept.drew) | exact HK.out)⟩, ⟨by repeat (first | (with_reducible first | exact HB.out | apply below_alloc | apply pw_below_drewN | apply below_drew1) | exact HB.out)⟩⟩
                    · rw [if_neg c20] at H
                      have c20b0 : ((rd x1_1 x4_3) == 0) = false := beq_eq_false_iff_ne.mpr c20
                      have c20b1 : ((rd x1_1 x4_3) != 0) = true := bne_iff_ne.mpr c20
                      simp only [Option.some.injEq, Prod.mk.injEq] at H
                      obtain ⟨rfl, rfl⟩ := H
                      have p115 : 0 ≤ (x4_3 : Int) := of_decide_eq_true (by first | (with_reducible assumption) | assumption)
                      have q115 : x4_3 < (x1_1.length : Int) := of_decide_eq_true (by first | (with_reducible assumption) | assumption)
                      obtain ⟨ad115, e115, hx115_0⟩ := Kd.at_int (Kd.R_reads' HO_1.out).2.2 x4_3 p115 q115
                      cases e115
                      replace p115 := eq_true p115
                      replace q115 := eq_true q115
                      go_wp2
                      go_ret
                      exact ⟨by first | rfl | (simp [errW_none, errW_some] <;> rfl) | (simp [*, errW_none, errW_some] <;> rfl), (by first | exact (by (with_reducible repeat (first | apply Kd.R_alloc | apply Kd.R_drewN | apply Kd.R_drew)); exact HO_1.out) | (simp only [hl1_1]; exact (by (with_reducible repeat (first | apply Kd.R_alloc | apply Kd.R_drewN | apply Kd.R_drew)); exact HO_1.out))), by repeat (first | (with_reducible first | exact HB.out | apply below_alloc | apply pw_below_drewN | apply below_drew1) | exact HB.out), by repeat (first | (with_reducible first | exact HK.out | apply Kept.alloc | apply Kept.drewN | apply Kept.drew) | exact HK.out)⟩
                  · rw [if_neg c19] at H
                    exact absurd H (by simp)
                · rw [if_neg c18] at H
                  have c18b0 : decide (x4_3 < (x1_1.length : Int)) = false := decide_eq_false c18
                  clear c18
                  simp only [Option.some.injEq, Prod.mk.injEq] at H
                  obtain ⟨rfl, rfl⟩ := H
                  go_wp2
                  go_ret
                  exact ⟨by first | rfl | (simp [errW_none, errW_some] <;> rfl) | (simp [*, errW_none, errW_some] <;> rfl), (by first | exact (by (with_reducible repeat (first | apply Kd.R_alloc | apply Kd.R_drewN | apply Kd.R_drew)); exact HO_1.out) | (simp only [hl1_1]; exact (by (with_reducible repeat (first | apply Kd.R_alloc | apply Kd.R_drewN | apply Kd.R_drew)); exact HO_1.out))), by repeat (first | (with_reducible first | exact HB.out | apply below_alloc | apply pw_below_drewN | apply below_drew1) | exact HB.out), by repeat (first | (with_reducible first | exact HK.out | apply Kept.alloc | apply Kept.drewN | apply Kept.drew) | exact HK.out)⟩

end Go.Proofs.YtghabdpbacgicaaDoor.S
