/- CONTRACTS of bigall_nat_norm, impl_places: each as the plain function beside it. (Began as print.sh's text for this seat; the turns are those of wip/tools/split.py.) -/
import Derived.Test.YtghabdpbacgicaaGreatDoorS0
namespace Go.Proofs.YtghabdpbacgicaaGreatDoor.S
open Go.RowKit Go.Proofs.YtghabdpbacgicaaGreatDoorW.PrintWords Go.Proofs.YtghabdpbacgicaaGreatDoorW.PrintLast Go.Proofs.YtghabdpbacgicaaGreatDoorW.PrintMore
attribute [local go_sem] max2_int min2_int max_two min_two max_three min_three max_four min_four   -- for this text's walks alone
set_option linter.unusedVariables false
set_option linter.unusedSimpArgs false

/-! ### bigall_nat_norm: function 46 -/
def bigall_nat_norm.l0 : Nat → List Int → Int → Option (List Int)
  | 0, _, _ => none
  | k + 1, x0, x3 => if x3 > 0 then (if 0 ≤ (wrap64 (x3 - 1)) then (if (wrap64 (x3 - 1)) < (x0.length : Int) then (if (rd x0 (wrap64 (x3 - 1))) = 0 then (bigall_nat_norm.l0 k x0 (wrap64 (x3 - 1))) else (if 0 ≤ x3 then (if x3 ≤ (x0.length : Int) then (some ((x0.take (x3 : Int).toNat).drop 0)) else (none)) else (none))) else (none)) else (none)) else (if 0 ≤ x3 then (if x3 ≤ (x0.length : Int) then (some ((x0.take (x3 : Int).toNat).drop 0)) else (none)) else (none))
def bigall_nat_norm.f (k : Nat) (l0 : List Int) : Option (List Int) := bigall_nat_norm.l0 k l0 (l0.length : Int)
theorem bigall_nat_norm.mono_l : ∀ k, (∀ y0 y1, LeO (bigall_nat_norm.l0 k y0 y1) (bigall_nat_norm.l0 (k + 1) y0 y1))
  | 0 => fun _ _ r h => by simp [bigall_nat_norm.l0] at h
  | k + 1 => by
    have ih0 := bigall_nat_norm.mono_l k
    · intro y0 y1
      unfold bigall_nat_norm.l0
      repeat' first
      | (with_reducible exact ih0 _ _)
      | (with_reducible exact LeO.refl _)
      | (with_reducible exact LeO.none _)
      | (with_reducible refine LeO.ite ?_ ?_)
      | (with_reducible refine LeO.bind ?_ (fun _ => ?_))
      | exact ih0 _ _
      | exact LeO.none _
      | refine LeO.ite ?_ ?_
      | refine LeO.bind ?_ (fun _ => ?_)
theorem bigall_nat_norm.mono : ∀ a0 k, LeO (bigall_nat_norm.f k a0) (bigall_nat_norm.f (k + 1) a0) := by
  intro a0 k
  have ih0 := bigall_nat_norm.mono_l k
  unfold bigall_nat_norm.f
  repeat' first
      | (with_reducible exact ih0 _ _)
      | (with_reducible exact LeO.refl _)
      | (with_reducible exact LeO.none _)
      | (with_reducible refine LeO.ite ?_ ?_)
      | (with_reducible refine LeO.bind ?_ (fun _ => ?_))
      | exact ih0 _ _
      | exact LeO.none _
      | refine LeO.ite ?_ ?_
      | refine LeO.bind ?_ (fun _ => ?_)
set_option maxHeartbeats 8000000 in
set_option maxRecDepth 100000 in
theorem bigall_nat_norm.calls (k : Nat) (P0_ : Nat → Prop) (A0 : Option Addr) (c0 : Nat) (l0 : List Int) (r : List Int) (w : World) (hs0 : Kd.V (Kd.int .u64) 81 w w.heap.size (fun k_ => P0_ k_) (.slice A0 l0.length c0) l0) (h : bigall_nat_norm.f k l0 = some r) :
    Calls Tryz.prog 46 #[.slice A0 l0.length c0] w fun e w' => ∃ v0_ : Value, e = .returned (v0_) ∧ Kd.V (Kd.int .u64) 81 w' w.heap.size (fun k_ => (P0_ k_ ∨ w.heap.size ≤ k_)) v0_ r ∧ Below w.heap.size w w' := by
  have HO0 := Aside0.mk (show Kd.V (Kd.int .u64) 81 w w.heap.size (fun k_ => (P0_ k_ ∨ w.heap.size ≤ k_)) (.slice A0 l0.length c0) l0 from Kd.V_mono hs0 (fun k_ hk => .inl hk))
  have HB := Aside0.mk (Below.refl w.heap.size w)
  have H : (bigall_nat_norm.l0 k l0 (l0.length : Int)) = some r := h
  clear h
  have H' := Aside0.mk H
  clear H
  go_enter Tryz.func46, Tryz.ntmps46
  go_wp2
  go_loopg [3] k (fun kq v3 w' => ∃ (x3_1 : Int), v3 = .int .i64 x3_1 ∧ Aside0 (bigall_nat_norm.l0 kq l0 x3_1 = some r) ∧ Aside0 (kq ≤ k) ∧ Aside0 (Kd.V (Kd.int .u64) 81 w' w.heap.size (fun k_ => (P0_ k_ ∨ w.heap.size ≤ k_)) (.slice A0 l0.length c0) l0) ∧ Aside0 (Below w.heap.size w w'))
  case atStart => exact ⟨((l0.length : Int)), (by first | rfl | (simp; done) | (simp [*]; done)), H', ⟨Nat.le_refl _⟩, ⟨by (with_reducible repeat (first | apply Kd.V_alloc | apply Kd.V_drewN | apply Kd.V_drew)); exact HO0.out⟩, ⟨by repeat (first | (with_reducible first | exact HB.out | apply below_alloc | apply pw_below_drewN | apply below_drew1) | exact HB.out)⟩⟩
  case round =>
    clear H'
    obtain ⟨x3_1, rfl, HA, HK1, HO_0, HB⟩ := hrel
    cases gk with
    | zero => exact absurd HA.out (by simp [bigall_nat_norm.l0])
    | succ k1 =>
      have H := HA.out
      clear HA
      simp only [bigall_nat_norm.l0] at H
      by_cases c2 : x3_1 > 0
      · rw [if_pos c2] at H
        have c2b0 : decide (0 < x3_1) = true := decide_eq_true c2
        clear c2
        obtain ⟨ji3, hji3⟩ : ∃ j_ : Int, (wrap64 (x3_1 - 1)) = j_ := ⟨_, rfl⟩
        replace H : (if 0 ≤ (ji3) then (if (ji3) < (l0.length : Int) then (if (rd l0 (ji3)) = 0 then (bigall_nat_norm.l0 k1 l0 ji3) else (if 0 ≤ x3_1 then (if x3_1 ≤ (l0.length : Int) then (some ((l0.take (x3_1 : Int).toNat).drop 0)) else (none)) else (none))) else (none)) else (none)) = some r := by first | (rw [hji3] at H; exact H) | (simp only [hji3] at H ⊢; exact H)
        have hji3w : (IntKind.i64.wrap (x3_1 - 1)) = ji3 := (i64_w _).trans hji3
        by_cases c4 : 0 ≤ (ji3)
        · rw [if_pos c4] at H
          have c4b0 : decide (0 ≤ (ji3)) = true := decide_eq_true c4
          clear c4
          by_cases c5 : (ji3) < (l0.length : Int)
          · rw [if_pos c5] at H
            have c5b0 : decide ((ji3) < (l0.length : Int)) = true := decide_eq_true c5
            clear c5
            by_cases c6 : (rd l0 (ji3)) = 0
            · rw [if_pos c6] at H
              have c6b0 : ((rd l0 (ji3)) == 0) = true := beq_iff_eq.mpr c6
              have c6b1 : ((rd l0 (ji3)) != 0) = false := bne_eq_false_iff_eq.mpr c6
              clear c6
              have H' := Aside0.mk H
              clear H
              have p228 : 0 ≤ ((ji3) : Int) := of_decide_eq_true (by first | (with_reducible assumption) | assumption)
              have q228 : (ji3) < (l0.length : Int) := of_decide_eq_true (by first | (with_reducible assumption) | assumption)
              obtain ⟨ad228, e228, hx228_0⟩ := Kd.at_int (Kd.V_reads' HO_0.out).2.2 (ji3) p228 q228
              cases e228
              replace p228 := eq_true p228
              replace q228 := eq_true q228
              go_wp2
              go_roundg k1
              case measure => have := HK1.out; omega
              case rel => exact ⟨(ji3), (by first | rfl | (simp; done) | (simp only [← hji3] <;> (first | rfl | simp)) | (simp [*]; done)), H', ⟨by have := HK1.out; omega⟩, ⟨by (with_reducible repeat (first | apply Kd.V_alloc | apply Kd.V_drewN | apply Kd.V_drew)); exact HO_0.out⟩, ⟨by repeat (first | (with_reducible first | exact HB.out | apply below_alloc | apply pw_below_drewN | apply below_drew1) | exact HB.out)⟩⟩
            · rw [if_neg c6] at H
              have c6b0 : ((rd l0 (ji3)) == 0) = false := beq_eq_false_iff_ne.mpr c6
              have c6b1 : ((rd l0 (ji3)) != 0) = true := bne_iff_ne.mpr c6
              by_cases c7 : 0 ≤ x3_1
              · rw [if_pos c7] at H
                have c7b0 := eq_true c7
                have c7b1 : decide (0 ≤ x3_1) = true := decide_eq_true c7
                clear c7
                by_cases c8 : x3_1 ≤ (l0.length : Int)
                · rw [if_pos c8] at H
                  have c8b0 := eq_true c8
                  have c8b1 : decide (x3_1 ≤ (l0.length : Int)) = true := decide_eq_true c8
                  clear c8
                  obtain ⟨y229, hy229⟩ : ∃ y_ : List Int, y_ = ((l0.take (x3_1 : Int).toNat).drop 0) := ⟨_, rfl⟩
                  replace H : (some y229) = some r := by first | (rw [hy229]; with_reducible exact H) | (have H2_ := (Option.bind_some _ _).symm.trans H; rw [hy229]; with_reducible exact H2_) | (have H2_ := (Option.bind_some _ _).symm.trans H; with_reducible exact H2_) | with_reducible exact H | (rw [hy229]; exact H) | exact H
                  have Ny229 := Aside0.mk hy229
                  clear hy229
                  obtain rfl := Option.some.inj H
                  have p228 : 0 ≤ ((ji3) : Int) := of_decide_eq_true (by first | (with_reducible assumption) | assumption)
                  have q228 : (ji3) < (l0.length : Int) := of_decide_eq_true (by first | (with_reducible assumption) | assumption)
                  obtain ⟨ad228, e228, hx228_0⟩ := Kd.at_int (Kd.V_reads' HO_0.out).2.2 (ji3) p228 q228
                  cases e228
                  replace p228 := eq_true p228
                  replace q228 := eq_true q228
                  have q9 : (x3_1 : Int) ≤ ((l0.length : Int) : Int) := of_decide_eq_true (by first | (with_reducible assumption) | assumption)
                  obtain ⟨i09, hi09, _, hsz9, _⟩ := info_parts info81
                  have hroom9 : l0.length ≤ c0 := (Kd.V_reads' HO_0.out).2.1
                  have hC9 : Kd.F (Kd.int .u64) _ _ (some ad228) l0.length l0 := (Kd.V_at (base := w.heap.size) HO_0.out).2.2
                  have ql9 : (0 : Int) ≤ (x3_1 : Int) := of_decide_eq_true (by first | (with_reducible assumption) | assumption)
                  have hcut9 := cut_mid (P := Tryz.prog) 63 81 .i64 .i64 Tryz.underlying63 hi09 1 hsz9 (some ad228) l0.length c0 0 x3_1 (by omega) ql9 q9 hroom9
                  have hr9 := Kd.F_mid (lo := (0 : Int).toNat) (hi := (x3_1 : Int).toNat) (c := c0) hC9 (by omega) (by omega) hroom9
                  obtain ⟨A9, hA9⟩ : ∃ A1, A1 = (if c0 = (0 : Int).toNat then (some ad228) else ((some ad228) : Option Addr).map (·.add ((0 : Int).toNat * 1))) := ⟨_, rfl⟩
                  obtain ⟨c9, hc9⟩ : ∃ c1, c1 = c0 - (0 : Int).toNat := ⟨_, rfl⟩
                  have hy9 : y229.length = (x3_1 : Int).toNat - (0 : Int).toNat := (by rw [Ny229.out, List.length_drop, List.length_take] <;> omega)
                  rw [show ((l0).take (x3_1 : Int).toNat).drop (0 : Int).toNat = y229 from Ny229.out.symm] at hr9
                  replace hr9 : Kd.F (Kd.int .u64) _ _ A9 y229.length y229 := (by rw [hA9]; exact hr9)
                  rw [← hy9, ← hA9, ← hc9] at hcut9
                  have HO233 := Aside0.mk (show Kd.V (Kd.int .u64) 81 _ w.heap.size _ (.slice A9 y229.length c9) y229 from Kd.V_mk (by rw [hy9, hc9]; exact Nat.sub_le_sub_right (Nat.le_trans (by omega) hroom9) _) hr9)
                  have HC233 := Aside0.mk (show y229.length ≤ c9 from by rw [hy9, hc9]; exact Nat.sub_le_sub_right (Nat.le_trans (by omega) hroom9) _)
                  clear hr9 hC9 hroom9 hi09 hsz9 hc9
                  have KY9 := Aside0.mk hy9
                  have KA9 := Aside0.mk hA9
                  clear hy9 hA9
                  replace q9 := eq_true q9
                  go_wp2
                  go_ret
                  exact ⟨_, by first | rfl | (simp [errW_none, errW_some] <;> rfl) | (simp only [← hji3]; first | rfl | (simp [errW_none, errW_some] <;> rfl)) | (simp [*, errW_none, errW_some] <;> rfl), by (with_reducible repeat (first | apply Kd.V_alloc | apply Kd.V_drewN | apply Kd.V_drew)); exact HO233.out, by repeat (first | (with_reducible first | exact HB.out | apply below_alloc | apply pw_below_drewN | apply below_drew1) | exact HB.out)⟩
                · rw [if_neg c8] at H
                  exact absurd H (by simp)
              · rw [if_neg c7] at H
                exact absurd H (by simp)
          · rw [if_neg c5] at H
            exact absurd H (by simp)
        · rw [if_neg c4] at H
          exact absurd H (by simp)
      · rw [if_neg c2] at H
        have c2b0 : decide (0 < x3_1) = false := decide_eq_false c2
        clear c2
        by_cases c10 : 0 ≤ x3_1
        · rw [if_pos c10] at H
          have c10b0 := eq_true c10
          have c10b1 : decide (0 ≤ x3_1) = true := decide_eq_true c10
          clear c10
          by_cases c11 : x3_1 ≤ (l0.length : Int)
          · rw [if_pos c11] at H
            have c11b0 := eq_true c11
            have c11b1 : decide (x3_1 ≤ (l0.length : Int)) = true := decide_eq_true c11
            clear c11
            obtain ⟨y234, hy234⟩ : ∃ y_ : List Int, y_ = ((l0.take (x3_1 : Int).toNat).drop 0) := ⟨_, rfl⟩
            replace H : (some y234) = some r := by first | (rw [hy234]; with_reducible exact H) | (have H2_ := (Option.bind_some _ _).symm.trans H; rw [hy234]; with_reducible exact H2_) | (have H2_ := (Option.bind_some _ _).symm.trans H; with_reducible exact H2_) | with_reducible exact H | (rw [hy234]; exact H) | exact H
            have Ny234 := Aside0.mk hy234
            clear hy234
            obtain rfl := Option.some.inj H
            have q12 : (x3_1 : Int) ≤ ((l0.length : Int) : Int) := of_decide_eq_true (by first | (with_reducible assumption) | assumption)
            obtain ⟨i012, hi012, _, hsz12, _⟩ := info_parts info81
            have hroom12 : l0.length ≤ c0 := (Kd.V_reads' HO_0.out).2.1
            have hC12 : Kd.F (Kd.int .u64) _ _ A0 l0.length l0 := (Kd.V_at (base := w.heap.size) HO_0.out).2.2
            have ql12 : (0 : Int) ≤ (x3_1 : Int) := of_decide_eq_true (by first | (with_reducible assumption) | assumption)
            have hcut12 := cut_mid (P := Tryz.prog) 63 81 .i64 .i64 Tryz.underlying63 hi012 1 hsz12 A0 l0.length c0 0 x3_1 (by omega) ql12 q12 hroom12
            have hr12 := Kd.F_mid (lo := (0 : Int).toNat) (hi := (x3_1 : Int).toNat) (c := c0) hC12 (by omega) (by omega) hroom12
            obtain ⟨A12, hA12⟩ : ∃ A1, A1 = (if c0 = (0 : Int).toNat then A0 else (A0 : Option Addr).map (·.add ((0 : Int).toNat * 1))) := ⟨_, rfl⟩
            obtain ⟨c12, hc12⟩ : ∃ c1, c1 = c0 - (0 : Int).toNat := ⟨_, rfl⟩
            have hy12 : y234.length = (x3_1 : Int).toNat - (0 : Int).toNat := (by rw [Ny234.out, List.length_drop, List.length_take] <;> omega)
            rw [show ((l0).take (x3_1 : Int).toNat).drop (0 : Int).toNat = y234 from Ny234.out.symm] at hr12
            replace hr12 : Kd.F (Kd.int .u64) _ _ A12 y234.length y234 := (by rw [hA12]; exact hr12)
            rw [← hy12, ← hA12, ← hc12] at hcut12
            have HO238 := Aside0.mk (show Kd.V (Kd.int .u64) 81 _ w.heap.size _ (.slice A12 y234.length c12) y234 from Kd.V_mk (by rw [hy12, hc12]; exact Nat.sub_le_sub_right (Nat.le_trans (by omega) hroom12) _) hr12)
            have HC238 := Aside0.mk (show y234.length ≤ c12 from by rw [hy12, hc12]; exact Nat.sub_le_sub_right (Nat.le_trans (by omega) hroom12) _)
            clear hr12 hC12 hroom12 hi012 hsz12 hc12
            have KY12 := Aside0.mk hy12
            have KA12 := Aside0.mk hA12
            clear hy12 hA12
            replace q12 := eq_true q12
            go_wp2
            go_ret
            exact ⟨_, by first | rfl | (simp [errW_none, errW_some] <;> rfl) | (simp [*, errW_none, errW_some] <;> rfl), by (with_reducible repeat (first | apply Kd.V_alloc | apply Kd.V_drewN | apply Kd.V_drew)); exact HO238.out, by repeat (first | (with_reducible first | exact HB.out | apply below_alloc | apply pw_below_drewN | apply below_drew1) | exact HB.out)⟩
          · rw [if_neg c11] at H
            exact absurd H (by simp)
        · rw [if_neg c10] at H
          exact absurd H (by simp)

-- NOT PRINTED: function 37 (bigall_Int_SetBits)

-- NOT PRINTED: function 52 (bigall_nat_make)

-- NOT PRINTED: function 51 (bigall_nat_set)

-- NOT PRINTED: function 47 (bigall_Int_Set)

-- NOT PRINTED: function 38 (bigall_Int_Neg)

-- NOT PRINTED: function 21 (impl_whole)


/-! ### impl_places: function 22 -/
def impl_places.f (a0 : Int) : Option (Bool) := if a0 ≥ (-400) then (some (decide (a0 ≤ 400))) else (some false)
set_option maxHeartbeats 8000000 in
set_option maxRecDepth 100000 in
theorem impl_places.calls (a0 : Int) (r : Bool) (w : World) (h : impl_places.f a0 = some r) :
    Calls Tryz.prog 22 #[.int .i64 a0] w fun e w' => e = .returned (.bool r) ∧ Drawn0 w w' := by
  have H : (if a0 ≥ (-400) then (some (decide (a0 ≤ 400))) else (some false)) = some r := h
  clear h
  by_cases c2 : a0 ≥ (-400)
  · rw [if_pos c2] at H
    have c2b0 : decide ((-400) ≤ a0) = true := decide_eq_true c2
    clear c2
    obtain rfl := Option.some.inj H
    go_enter Tryz.func22, Tryz.ntmps22
    go_wp2
    go_ret
    exact ⟨by first | rfl | (simp; done) | (simp [*]; done), by repeat (first | exact Drawn0.refl _ | apply Drawn0.step)⟩
  · rw [if_neg c2] at H
    have c2b0 : decide ((-400) ≤ a0) = false := decide_eq_false c2
    clear c2
    obtain rfl := Option.some.inj H
    go_enter Tryz.func22, Tryz.ntmps22
    go_wp2
    go_ret
    exact ⟨by first | rfl | (simp; done) | (simp [*]; done), by repeat (first | exact Drawn0.refl _ | apply Drawn0.step)⟩

-- NOT PRINTED: function 23 (shopspring_ZzMake)

-- NOT PRINTED: function 12 (impl_made)

-- NOT PRINTED: function 39 (bigall_Int_Bits)


end Go.Proofs.YtghabdpbacgicaaGreatDoor.S
