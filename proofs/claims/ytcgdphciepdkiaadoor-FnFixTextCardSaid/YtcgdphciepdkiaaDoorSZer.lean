/- CONTRACTS of spec_zeros: each as the plain function beside it. (Began as print.sh's text for this seat; the turns are those of wip/tools/split.py.) -/
import Derived.Test.YtcgdphciepdkiaaDoorS0
namespace Go.Proofs.YtcgdphciepdkiaaDoor.S
open Go.RowKit Go.Proofs.YtcgdphciepdkiaaDoorW.PrintWords Go.Proofs.YtcgdphciepdkiaaDoorW.PrintLast Go.Proofs.YtcgdphciepdkiaaDoorW.PrintMore
attribute [local go_sem] max2_int min2_int max_two min_two max_three min_three max_four min_four   -- for this text's walks alone
set_option linter.unusedVariables false
set_option linter.unusedSimpArgs false

/-! ### spec_zeros: function 45 -/
def spec_zeros.l0 : Nat → List Int → Int → Int → Option (ByteArray)
  | 0, _, _, _ => none
  | k + 1, x3, x9, x10 => if x10 < x9 then (if 0 ≤ x10 then (if x10 < (x3.length : Int) then (spec_zeros.l0 k (x3.set (x10 : Int).toNat 48) x9 (wrap64 (x10 + 1))) else (none)) else (none)) else (some (strOfNums x3))
def spec_zeros.f (k : Nat) (a0 : Int) : Option (ByteArray) := if 0 ≤ (mx a0 0) then (if (mx a0 0 : Int).toNat ≤ 281474976710656 then ((some (List.replicate (mx a0 0 : Int).toNat 0 : List Int)).bind fun y140 => (spec_zeros.l0 k y140 (y140.length : Int) 0)) else (none)) else (none)
theorem spec_zeros.mono_l : ∀ k, (∀ y0 y1 y2, LeO (spec_zeros.l0 k y0 y1 y2) (spec_zeros.l0 (k + 1) y0 y1 y2))
  | 0 => fun _ _ _ r h => by simp [spec_zeros.l0] at h
  | k + 1 => by
    have ih0 := spec_zeros.mono_l k
    · intro y0 y1 y2
      unfold spec_zeros.l0
      repeat' first
      | (with_reducible exact ih0 _ _ _)
      | (with_reducible exact LeO.refl _)
      | (with_reducible exact LeO.none _)
      | (with_reducible refine LeO.ite ?_ ?_)
      | (with_reducible refine LeO.bind ?_ (fun _ => ?_))
      | exact ih0 _ _ _
      | exact LeO.none _
      | refine LeO.ite ?_ ?_
      | refine LeO.bind ?_ (fun _ => ?_)
theorem spec_zeros.mono : ∀ a0 k, LeO (spec_zeros.f k a0) (spec_zeros.f (k + 1) a0) := by
  intro a0 k
  have ih0 := spec_zeros.mono_l k
  unfold spec_zeros.f
  repeat' first
      | (with_reducible exact ih0 _ _ _)
      | (with_reducible exact LeO.refl _)
      | (with_reducible exact LeO.none _)
      | (with_reducible refine LeO.ite ?_ ?_)
      | (with_reducible refine LeO.bind ?_ (fun _ => ?_))
      | exact ih0 _ _ _
      | exact LeO.none _
      | refine LeO.ite ?_ ?_
      | refine LeO.bind ?_ (fun _ => ?_)
set_option maxHeartbeats 8000000 in
set_option maxRecDepth 100000 in
theorem spec_zeros.calls (k : Nat) (a0 : Int) (r : ByteArray) (w : World) (h : spec_zeros.f k a0 = some r) :
    Calls Tryd.prog 45 #[.int .i64 a0] w fun e w' => e = .returned (.string r) ∧ Below w.heap.size w w' := by
  have HB := Aside0.mk (Below.refl w.heap.size w)
  have H : (if 0 ≤ (mx a0 0) then (if (mx a0 0 : Int).toNat ≤ 281474976710656 then ((some (List.replicate (mx a0 0 : Int).toNat 0 : List Int)).bind fun y140 => (spec_zeros.l0 k y140 (y140.length : Int) 0)) else (none)) else (none)) = some r := h
  clear h
  obtain ⟨ji2, hji2⟩ : ∃ j_ : Int, (mx a0 0) = j_ := ⟨_, rfl⟩
  replace H : (if 0 ≤ (ji2) then (if (ji2 : Int).toNat ≤ 281474976710656 then ((some (List.replicate (ji2 : Int).toNat 0 : List Int)).bind fun y140 => (spec_zeros.l0 k y140 (y140.length : Int) 0)) else (none)) else (none)) = some r := by first | (rw [hji2] at H; exact H) | (simp only [hji2] at H ⊢; exact H)
  (try (have hji2l : 0 ≤ ji2 := by (rw [← hji2]; unfold mx; (repeat' split) <;> omega)))
  (try (have hji2m : 0 ≤ ji2 := by omega))
  have hji2_ : (if a0 < 0 then 0 else a0) = ji2 := hji2
  by_cases c3 : 0 ≤ (ji2)
  · rw [if_pos c3] at H
    have c3b0 := eq_true c3
    have c3b1 : decide (0 ≤ (ji2)) = true := decide_eq_true c3
    clear c3
    by_cases c4 : (ji2 : Int).toNat ≤ 281474976710656
    · rw [if_pos c4] at H
      have c4b0 := eq_true c4
      have c4b1 : decide ((ji2 : Int).toNat ≤ 281474976710656) = true := decide_eq_true c4
      clear c4
      obtain ⟨y140, hy140⟩ : ∃ y_ : List Int, y_ = (List.replicate (ji2 : Int).toNat 0) := ⟨_, rfl⟩
      replace H : (spec_zeros.l0 k y140 (y140.length : Int) 0) = some r := by first | (rw [hy140]; with_reducible exact H) | (have H2_ := (Option.bind_some _ _).symm.trans H; rw [hy140]; with_reducible exact H2_) | (have H2_ := (Option.bind_some _ _).symm.trans H; with_reducible exact H2_) | with_reducible exact H | (rw [hy140]; exact H) | exact H
      have Ny140 := Aside0.mk hy140
      clear hy140
      have H' := Aside0.mk H
      clear H
      go_enter Tryd.func45, Tryd.ntmps45
      go_wp2_with (first | ((with_reducible refine gate_dst (N := 7) rfl ?_); refine Kd.R_make (Kd.int .u8) _ 5 rfl (N := 7) rfl 98 _ _ rfl ji2 rfl rfl Tryd.underlying98 (.int .u8 0) 1 info5 rfl (by decide) (by omega) 0 (ok := fun _ => True) (okp := fun _ => True) rfl (fun _ hk => hk) trivial (of_decide_eq_true (by first | (with_reducible assumption) | assumption)) (Nat.le_trans (Nat.mul_le_mul_right _ (of_decide_eq_true (by first | (with_reducible assumption) | assumption) : ji2.toNat ≤ 281474976710656)) (by omega)) (Below.refl _ _) (Nat.le_refl _) ?_; intro v141 w5 ho6 hb hg_ hnew_; clear hg_ hnew_; (first | rw [← Ny140.out] at ho6 | (simp only [Int.reduceToNat] at ho6; rw [← Ny140.out] at ho6)); have n0_ := Aside0.mk (Kd.R_lower ho6 (below_size (by repeat (first | (with_reducible first | exact HB.out | apply below_alloc | apply pw_below_drewN | apply below_drew1) | exact HB.out)))); have n1_ := Aside0.mk (below_step (by repeat (first | (with_reducible first | exact HB.out | apply below_alloc | apply pw_below_drewN | apply below_drew1) | exact HB.out)) hb); clear HB; have HO142 := n0_; have HB := n1_; clear n0_ n1_; clear hb ho6; obtain ⟨Ao7, co7, eo7⟩ := Kd.R_slice HO142.out; subst eo7))
      go_loopg [10] k (fun kq v10 w' => ∃ (x3_1 : List Int) (x10_1 : Int), v10 = .int .i64 x10_1 ∧ Aside0 (spec_zeros.l0 kq x3_1 (y140.length : Int) x10_1 = some r) ∧ Aside0 (kq ≤ k) ∧ Aside0 (Kd.R (Kd.int .u8) 5 w' w.heap.size (fun _ => True) (.slice Ao7 y140.length co7) x3_1) ∧ Aside0 (Below w.heap.size w w'))
      case atStart => exact ⟨(y140), (0), (by first | rfl | (simp; done) | (simp [*]; done)), H', ⟨Nat.le_refl _⟩, ⟨by (with_reducible repeat (first | apply Kd.R_alloc | apply Kd.R_drewN | apply Kd.R_drew)); exact HO142.out⟩, ⟨by repeat (first | (with_reducible first | exact HB.out | apply below_alloc | apply pw_below_drewN | apply below_drew1) | exact HB.out)⟩⟩
      case round =>
        clear H'
        try clear p2
        try clear c3
        try clear c3b0
        try clear c3b1
        try clear c4
        try clear c4b0
        try clear c4b1
        obtain ⟨x3_1, x10_1, rfl, HA, HK1, HO_3, HB⟩ := hrel
        have hl3_1 := (Kd.R_reads' HO_3.out).1
        rw [hl3_1] at HO_3
        (try simp only [hl3_1])
        cases gk with
        | zero => exact absurd HA.out (by simp [spec_zeros.l0])
        | succ k1 =>
          have H := HA.out
          clear HA
          simp only [spec_zeros.l0] at H
          by_cases c8 : x10_1 < (y140.length : Int)
          · rw [if_pos c8] at H
            have c8b0 : decide (x10_1 < (y140.length : Int)) = true := decide_eq_true c8
            clear c8
            by_cases c9 : 0 ≤ x10_1
            · rw [if_pos c9] at H
              have c9b0 : decide (0 ≤ x10_1) = true := decide_eq_true c9
              clear c9
              by_cases c10 : x10_1 < (x3_1.length : Int)
              · rw [if_pos c10] at H
                have c10b0 : decide (x10_1 < (x3_1.length : Int)) = true := decide_eq_true c10
                clear c10
                obtain ⟨y143, hy143⟩ : ∃ y_ : List Int, y_ = (x3_1.set (x10_1 : Int).toNat 48) := ⟨_, rfl⟩
                replace H : (spec_zeros.l0 k1 y143 (y140.length : Int) (wrap64 (x10_1 + 1))) = some r := by first | (rw [hy143]; with_reducible exact H) | (have H2_ := (Option.bind_some _ _).symm.trans H; rw [hy143]; with_reducible exact H2_) | (have H2_ := (Option.bind_some _ _).symm.trans H; with_reducible exact H2_) | with_reducible exact H | (rw [hy143]; exact H) | exact H
                have Ny143 := Aside0.mk hy143
                clear hy143
                have H' := Aside0.mk H
                clear H
                have p11 : 0 ≤ (x10_1 : Int) := of_decide_eq_true (by first | (with_reducible assumption) | assumption)
                have q11 : (x10_1 : Int) < ((x3_1.length : Int) : Int) := of_decide_eq_true (by first | (with_reducible assumption) | assumption)
                obtain ⟨go11, co11, eo11, gb11, gl11, cl11, HG11⟩ := Kd.R_form HO_3.out (by omega)
                (first | cases eo11 | (injection eo11 with ea_ en_ ec_; (first | subst ea_ | (injection ea_ with ea_; subst ea_)); subst ec_; clear en_))
                have GB11 := Aside0.mk gb11
                have GG11 := Aside0.mk HG11
                clear gb11 gl11 HG11
                obtain ⟨hx11_0, hf11_0⟩ := Kd.R_celln 0 HO_3.out (x10_1 : Int) p11 q11
                replace p11 := eq_true p11
                replace q11 := eq_true q11
                have HP12 := Kd.R_putg HO_3.out (x10_1 : Int) 48
                go_wp2_with (first | ((with_reducible refine gate_store (t := 5) (p := 15) rfl ?_); refine store_event (t := 5) (p := 15) (v := ?vo_w13) (w1 := (wr.setCell ⟨go11, (x10_1 : Int).toNat, none⟩ (.int .u8 48))) ?hg ?ho ?hn ?hr ?_; (case ho => rfl); (case hg => rfl); (case hn => rfl); (case hr => first | (go_simp; done) | (go_simp; rfl)); intro w13 hw; have hg : wr.grownBy w13 (some go11) := (by rw [hw]; exact HP12.2); have hp_ : Kd.R (Kd.int .u8) 5 w13 w.heap.size (fun _ => True) (.slice (some ⟨go11, 0, none⟩) x3_1.length co7) y143 := (by rw [hw, Ny143.out]; exact HP12.1); clear HP12; have n0_ := Aside0.mk (hp_); have n1_ := Aside0.mk ((by rw [hw]; exact below_set (HB.out) GB11.out : Below w.heap.size w w13)); clear HO_3; clear HB; have HO_3 := n0_; have HB := n1_; clear n0_ n1_; clear hg hw hp_))
                (try simp only [← hl3_1])
                go_roundg k1
                case measure => have := HK1.out; omega
                case rel => exact ⟨(y143), (wrap64 (x10_1 + 1)), (by first | rfl | (simp; done) | (simp [*]; done)), H', ⟨by have := HK1.out; omega⟩, ⟨by (try simp only [hl3_1]); (with_reducible repeat (first | apply Kd.R_alloc | apply Kd.R_drewN | apply Kd.R_drew)); exact HO_3.out⟩, ⟨by repeat (first | (with_reducible first | exact HB.out | apply below_alloc | apply pw_below_drewN | apply below_drew1) | exact HB.out)⟩⟩
              · rw [if_neg c10] at H
                exact absurd H (by simp)
            · rw [if_neg c9] at H
              exact absurd H (by simp)
          · rw [if_neg c8] at H
            have c8b0 : decide (x10_1 < (y140.length : Int)) = false := decide_eq_false c8
            clear c8
            obtain rfl := Option.some.inj H
            have hcv14 := own_string (P := Tryd.prog) Tryd.underlying98 Tryd.underlying5 Tryd.underlying9 (Kd.own_of_R HO_3.out)
            (try rw [hl3_1] at c8b0)
            go_wp2
            go_ret
            exact ⟨by first | rfl | (simp [errW_none, errW_some] <;> rfl) | (simp only [← hji2]; first | rfl | (simp [errW_none, errW_some] <;> rfl)) | (simp [*, errW_none, errW_some] <;> rfl), by repeat (first | (with_reducible first | exact HB.out | apply below_alloc | apply pw_below_drewN | apply below_drew1) | exact HB.out)⟩
    · rw [if_neg c4] at H
      exact absurd H (by simp)
  · rw [if_neg c3] at H
    exact absurd H (by simp)


end Go.Proofs.YtcgdphciepdkiaaDoor.S
