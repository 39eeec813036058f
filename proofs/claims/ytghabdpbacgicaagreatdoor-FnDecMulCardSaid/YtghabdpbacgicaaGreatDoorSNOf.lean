/- CONTRACTS of spec_NatOf: each as the plain function beside it. (Began as print.sh's text for this seat; the turns are those of wip/tools/split.py.) -/
import Derived.Test.YtghabdpbacgicaaGreatDoorSMul
namespace Go.Proofs.YtghabdpbacgicaaGreatDoor.S
open Go.RowKit Go.Proofs.YtghabdpbacgicaaGreatDoorW.PrintWords Go.Proofs.YtghabdpbacgicaaGreatDoorW.PrintLast Go.Proofs.YtghabdpbacgicaaGreatDoorW.PrintMore
attribute [local go_sem] max2_int min2_int max_two min_two max_three min_three max_four min_four   -- for this text's walks alone
set_option linter.unusedVariables false
set_option linter.unusedSimpArgs false

/-! ### spec_NatOf: function 43 -/
mutual
def spec_NatOf.l0 : Nat → ByteArray → List Int → Int → Option (List Int × Bool)
  | 0, _, _, _ => none
  | k + 1, x0, x4, x5 => if x5 > 0 then (spec_NatOf.l1 k x0 x4 x5 0 (mx 0 (wrap64 (x5 - 9)))) else ((spec_natTrim.f k x4).bind fun t118 => (some (t118, (x0.toList != ([] : List UInt8)))))
def spec_NatOf.l1 : Nat → ByteArray → List Int → Int → Int → Int → Option (List Int × Bool)
  | 0, _, _, _, _, _ => none
  | k + 1, x0, x4, x5, x6, x7 => if x7 < x5 then (if 0 ≤ x7 then (if x7 < (x0.size : Int) then (if (bt x0 x7) < 48 then (some (([] : List Int), false)) else (if (bt x0 x7) > 57 then (some (([] : List Int), false)) else (spec_NatOf.l1 k x0 x4 x5 ((((x6 * 10) % 4294967296) + (((bt x0 x7) - 48) % 256)) % 4294967296) (wrap64 (x7 + 1))))) else (none)) else (none)) else (if x4.length < 35184372088832 then (spec_NatOf.l0 k x0 (x4 ++ [x6]) (wrap64 (x5 - 9))) else (none))
end
def spec_NatOf.f (k : Nat) (a0 : ByteArray) : Option (List Int × Bool) := spec_NatOf.l0 k a0 ([] : List Int) (a0.size : Int)
theorem spec_NatOf.mono_l : ∀ k, (∀ y0 y1 y2, LeO (spec_NatOf.l0 k y0 y1 y2) (spec_NatOf.l0 (k + 1) y0 y1 y2)) ∧ (∀ y0 y1 y2 y3 y4, LeO (spec_NatOf.l1 k y0 y1 y2 y3 y4) (spec_NatOf.l1 (k + 1) y0 y1 y2 y3 y4))
  | 0 => ⟨fun _ _ _ r h => by simp [spec_NatOf.l0] at h, fun _ _ _ _ _ r h => by simp [spec_NatOf.l1] at h⟩
  | k + 1 => by
    obtain ⟨ih0, ih1⟩ := spec_NatOf.mono_l k
    refine ⟨?_, ?_⟩
    · intro y0 y1 y2
      unfold spec_NatOf.l0
      repeat' first
      | (with_reducible exact ih0 _ _ _)
      | (with_reducible exact ih1 _ _ _ _ _)
      | (with_reducible exact spec_natTrim.mono _ _)
      | (with_reducible exact LeO.refl _)
      | (with_reducible exact LeO.none _)
      | (with_reducible refine LeO.ite ?_ ?_)
      | (with_reducible refine LeO.bind ?_ (fun _ => ?_))
      | exact ih0 _ _ _
      | exact ih1 _ _ _ _ _
      | exact spec_natTrim.mono _ _
      | exact LeO.none _
      | refine LeO.ite ?_ ?_
      | refine LeO.bind ?_ (fun _ => ?_)
    · intro y0 y1 y2 y3 y4
      unfold spec_NatOf.l1
      repeat' first
      | (with_reducible exact ih0 _ _ _)
      | (with_reducible exact ih1 _ _ _ _ _)
      | (with_reducible exact spec_natTrim.mono _ _)
      | (with_reducible exact LeO.refl _)
      | (with_reducible exact LeO.none _)
      | (with_reducible refine LeO.ite ?_ ?_)
      | (with_reducible refine LeO.bind ?_ (fun _ => ?_))
      | exact ih0 _ _ _
      | exact ih1 _ _ _ _ _
      | exact spec_natTrim.mono _ _
      | exact LeO.none _
      | refine LeO.ite ?_ ?_
      | refine LeO.bind ?_ (fun _ => ?_)
theorem spec_NatOf.mono : ∀ a0 k, LeO (spec_NatOf.f k a0) (spec_NatOf.f (k + 1) a0) := by
  intro a0 k
  obtain ⟨ih0, ih1⟩ := spec_NatOf.mono_l k
  unfold spec_NatOf.f
  repeat' first
      | (with_reducible exact ih0 _ _ _)
      | (with_reducible exact ih1 _ _ _ _ _)
      | (with_reducible exact spec_natTrim.mono _ _)
      | (with_reducible exact LeO.refl _)
      | (with_reducible exact LeO.none _)
      | (with_reducible refine LeO.ite ?_ ?_)
      | (with_reducible refine LeO.bind ?_ (fun _ => ?_))
      | exact ih0 _ _ _
      | exact ih1 _ _ _ _ _
      | exact spec_natTrim.mono _ _
      | exact LeO.none _
      | refine LeO.ite ?_ ?_
      | refine LeO.bind ?_ (fun _ => ?_)
set_option maxHeartbeats 8000000 in
set_option maxRecDepth 100000 in
theorem spec_NatOf.calls (k : Nat) (a0 : ByteArray) (r1 : List Int) (r2 : Bool) (w : World) (h : spec_NatOf.f k a0 = some (r1, r2)) :
    Calls Tryz.prog 43 #[.string a0] w fun e w' => ∃ v0_ : Value, e = .returned (.tuple #[v0_, .bool r2]) ∧ Kd.V (Kd.int .u32) 76 w' w.heap.size (fun k_ => (w.heap.size ≤ k_)) v0_ r1 ∧ Below w.heap.size w w' := by
  have HB := Aside0.mk (Below.refl w.heap.size w)
  have H : (spec_NatOf.l0 k a0 ([] : List Int) (a0.size : Int)) = some (r1, r2) := h
  clear h
  have H' := Aside0.mk H
  clear H
  go_enter Tryz.func43, Tryz.ntmps43
  go_wp2
  go_loopg [4, 5] k (fun kq v4 v5 w' => ∃ (x4_1 : List Int) (x5_1 : Int), v5 = .int .i64 x5_1 ∧ Aside0 (spec_NatOf.l0 kq a0 x4_1 x5_1 = some (r1, r2)) ∧ Aside0 (kq ≤ k) ∧ Aside0 (Kd.R (Kd.int .u32) 76 w' w.heap.size (fun k_ => (w.heap.size ≤ k_)) v4 x4_1) ∧ Aside0 (Below w.heap.size w w'))
  case atStart => exact ⟨(([] : List Int)), ((a0.size : Int)), (by first | rfl | (simp; done) | (simp [*]; done)), H', ⟨Nat.le_refl _⟩, ⟨by first | exact Kd.R_nil _ _ _ _ _ | exact Kd.N_nil _ _ _ _ _ | exact Kd.V_nil _ _ _ _ _ | exact Kd.Q_nil _ _ _ _ _ | exact Kd.S_nil _ _ _ _ _⟩, ⟨by repeat (first | (with_reducible first | exact HB.out | apply below_alloc | apply pw_below_drewN | apply below_drew1) | exact HB.out)⟩⟩
  case round =>
    clear H'
    obtain ⟨x4_1, x5_1, rfl, HA, HK1, HO_4, HB⟩ := hrel
    cases gk with
    | zero => exact absurd HA.out (by simp [spec_NatOf.l0])
    | succ k1 =>
      have H := HA.out
      clear HA
      simp only [spec_NatOf.l0] at H
      by_cases c2 : x5_1 > 0
      · rw [if_pos c2] at H
        have c2b0 : decide (0 < x5_1) = true := decide_eq_true c2
        clear c2
        obtain ⟨ji3, hji3⟩ : ∃ j_ : Int, (mx 0 (wrap64 (x5_1 - 9))) = j_ := ⟨_, rfl⟩
        replace H : (spec_NatOf.l1 k1 a0 x4_1 x5_1 0 ji3) = some (r1, r2) := by first | (rw [hji3] at H; exact H) | (simp only [hji3] at H ⊢; exact H)
        have hji3_ : (if 0 < (wrap64 (x5_1 - 9)) then (wrap64 (x5_1 - 9)) else 0) = ji3 := hji3
        have H' := Aside0.mk H
        clear H
        go_wp2
        go_loopg [6, 7] k1 (fun kq v6 v7 w' => ∃ (x6_2 : Int) (x7_2 : Int), v6 = .int .u32 x6_2 ∧ v7 = .int .i64 x7_2 ∧ Aside0 (spec_NatOf.l1 kq a0 x4_1 x5_1 x6_2 x7_2 = some (r1, r2)) ∧ Aside0 (kq ≤ k1) ∧ Aside0 (Kd.R (Kd.int .u32) 76 w' w.heap.size (fun k_ => (w.heap.size ≤ k_)) u4 x4_1) ∧ Aside0 (Below w.heap.size w w'))
        case atStart => exact ⟨(0), (ji3), (by first | rfl | (simp; done) | (simp [*]; done)), (by first | rfl | (simp; done) | (simp only [← hji3] <;> (first | rfl | simp)) | (simp [*]; done)), H', ⟨Nat.le_refl _⟩, ⟨by (with_reducible repeat (first | apply Kd.R_alloc | apply Kd.R_drewN | apply Kd.R_drew)); exact HO_4.out⟩, ⟨by repeat (first | (with_reducible first | exact HB.out | apply below_alloc | apply pw_below_drewN | apply below_drew1) | exact HB.out)⟩⟩
        case round =>
          clear H'
          try clear c2
          try clear c2b0
          try clear p2
          obtain ⟨x6_2, x7_2, rfl, rfl, HA, HK2, HO_4, HB⟩ := hrel
          cases gk with
          | zero => exact absurd HA.out (by simp [spec_NatOf.l1])
          | succ k2 =>
            have H := HA.out
            clear HA
            simp only [spec_NatOf.l1] at H
            by_cases c4 : x7_2 < x5_1
            · rw [if_pos c4] at H
              have c4b0 : decide (x7_2 < x5_1) = true := decide_eq_true c4
              clear c4
              by_cases c5 : 0 ≤ x7_2
              · rw [if_pos c5] at H
                have c5b0 : decide (0 ≤ x7_2) = true := decide_eq_true c5
                clear c5
                by_cases c6 : x7_2 < (a0.size : Int)
                · rw [if_pos c6] at H
                  have c6b0 : decide (x7_2 < (a0.size : Int)) = true := decide_eq_true c6
                  clear c6
                  by_cases c8 : (bt a0 x7_2) < 48
                  · rw [if_pos c8] at H
                    have c8b0 : decide ((bt a0 x7_2) < 48) = true := decide_eq_true c8
                    clear c8
                    simp only [Option.some.injEq, Prod.mk.injEq] at H
                    obtain ⟨rfl, rfl⟩ := H
                    have p7 : 0 ≤ (x7_2 : Int) := of_decide_eq_true (by first | (with_reducible assumption) | assumption)
                    have q7 : x7_2 < (a0.size : Int) := of_decide_eq_true (by first | (with_reducible assumption) | assumption)
                    have hx7 := bt_at a0 x7_2
                    replace p7 := eq_true p7
                    replace q7 := eq_true q7
                    go_wp2
                    go_ret2
                    exact ⟨_, by first | rfl | (simp [errW_none, errW_some] <;> rfl) | (simp only [← hji3]; first | rfl | (simp [errW_none, errW_some] <;> rfl)) | (simp [*, errW_none, errW_some] <;> rfl), (Kd.V_nil _ _ _ _ _), by repeat (first | (with_reducible first | exact HB.out | apply below_alloc | apply pw_below_drewN | apply below_drew1) | exact HB.out)⟩
                  · rw [if_neg c8] at H
                    have c8b0 : decide ((bt a0 x7_2) < 48) = false := decide_eq_false c8
                    clear c8
                    by_cases c10 : (bt a0 x7_2) > 57
                    · rw [if_pos c10] at H
                      have c10b0 : decide (57 < (bt a0 x7_2)) = true := decide_eq_true c10
                      clear c10
                      simp only [Option.some.injEq, Prod.mk.injEq] at H
                      obtain ⟨rfl, rfl⟩ := H
                      have p7 : 0 ≤ (x7_2 : Int) := of_decide_eq_true (by first | (with_reducible assumption) | assumption)
                      have q7 : x7_2 < (a0.size : Int) := of_decide_eq_true (by first | (with_reducible assumption) | assumption)
                      have hx7 := bt_at a0 x7_2
                      replace p7 := eq_true p7
                      replace q7 := eq_true q7
                      have p9 : 0 ≤ (x7_2 : Int) := of_decide_eq_true (by first | (with_reducible assumption) | assumption)
                      have q9 : x7_2 < (a0.size : Int) := of_decide_eq_true (by first | (with_reducible assumption) | assumption)
                      have hx9 := bt_at a0 x7_2
                      replace p9 := eq_true p9
                      replace q9 := eq_true q9
                      go_wp2
                      go_ret2
                      exact ⟨_, by first | rfl | (simp [errW_none, errW_some] <;> rfl) | (simp only [← hji3]; first | rfl | (simp [errW_none, errW_some] <;> rfl)) | (simp [*, errW_none, errW_some] <;> rfl), (Kd.V_nil _ _ _ _ _), by repeat (first | (with_reducible first | exact HB.out | apply below_alloc | apply pw_below_drewN | apply below_drew1) | exact HB.out)⟩
                    · rw [if_neg c10] at H
                      have c10b0 : decide (57 < (bt a0 x7_2)) = false := decide_eq_false c10
                      clear c10
                      have H' := Aside0.mk H
                      clear H
                      have p7 : 0 ≤ (x7_2 : Int) := of_decide_eq_true (by first | (with_reducible assumption) | assumption)
                      have q7 : x7_2 < (a0.size : Int) := of_decide_eq_true (by first | (with_reducible assumption) | assumption)
                      have hx7 := bt_at a0 x7_2
                      replace p7 := eq_true p7
                      replace q7 := eq_true q7
                      have p9 : 0 ≤ (x7_2 : Int) := of_decide_eq_true (by first | (with_reducible assumption) | assumption)
                      have q9 : x7_2 < (a0.size : Int) := of_decide_eq_true (by first | (with_reducible assumption) | assumption)
                      have hx9 := bt_at a0 x7_2
                      replace p9 := eq_true p9
                      replace q9 := eq_true q9
                      have p11 : 0 ≤ (x7_2 : Int) := of_decide_eq_true (by first | (with_reducible assumption) | assumption)
                      have q11 : x7_2 < (a0.size : Int) := of_decide_eq_true (by first | (with_reducible assumption) | assumption)
                      have hx11 := bt_at a0 x7_2
                      replace p11 := eq_true p11
                      replace q11 := eq_true q11
                      go_wp2
                      go_roundg k2
                      case measure => have := HK1.out; have := HK2.out; omega
                      case rel => exact ⟨((((x6_2 * 10) % 4294967296) + (((bt a0 x7_2) - 48) % 256)) % 4294967296), (wrap64 (x7_2 + 1)), (by first | rfl | (simp; done) | (simp [*]; done)), (by first | rfl | (simp; done) | (simp [*]; done)), H', ⟨by have := HK1.out; have := HK2.out; omega⟩, ⟨by (with_reducible repeat (first | apply Kd.R_alloc | apply Kd.R_drewN | apply Kd.R_drew)); exact HO_4.out⟩, ⟨by repeat (first | (with_reducible first | exact HB.out | apply below_alloc | apply pw_below_drewN | apply below_drew1) | exact HB.out)⟩⟩
                · rw [if_neg c6] at H
                  exact absurd H (by simp)
              · rw [if_neg c5] at H
                exact absurd H (by simp)
            · rw [if_neg c4] at H
              have c4b0 : decide (x7_2 < x5_1) = false := decide_eq_false c4
              clear c4
              by_cases c12 : x4_1.length < 35184372088832
              · rw [if_pos c12] at H
                have LMc12 := Aside0.mk c12
                clear c12
                obtain ⟨y121, hy121⟩ : ∃ y_ : List Int, y_ = (x4_1 ++ [x6_2]) := ⟨_, rfl⟩
                replace H : (spec_NatOf.l0 k2 a0 y121 (wrap64 (x5_1 - 9))) = some (r1, r2) := by first | (rw [hy121]; with_reducible exact H) | (have H2_ := (Option.bind_some _ _).symm.trans H; rw [hy121]; with_reducible exact H2_) | (have H2_ := (Option.bind_some _ _).symm.trans H; with_reducible exact H2_) | with_reducible exact H | (rw [hy121]; exact H) | exact H
                have Ny121 := Aside0.mk hy121
                clear hy121
                have H' := Aside0.mk H
                clear H
                go_wp2_with (first | ((with_reducible refine gate_builtin (b := .append) (xs := #[.tmp 40, .tmp 42]) rfl ?_); at_builtin; refine Kd.R_append (Kd.int .u32) (w0 := w) w.heap.size rfl (.tmp 40) (.tmp 42) 26 76 (.int .u32 0) 4 rfl Tryz.underlying26 info76 rfl (by decide) (by omega) u4 x4_1 x6_2 [.int .u32 x6_2] (fun k_ => (w.heap.size ≤ k_)) (fun _ => False) rfl rfl ?aP (fun _ hk => hk.elim) ?aF ?aO ?aB ?aS ?aL ?_; (case aP => exact rfl); (case aB => exact (by repeat (first | (with_reducible first | exact HB.out | apply below_alloc | apply pw_below_drewN | apply below_drew1) | exact HB.out))); (case aF => exact (fun k_ hk => (Nat.le_trans (below_size (by repeat (first | (with_reducible first | exact HB.out | apply below_alloc | apply pw_below_drewN | apply below_drew1) | exact HB.out))) hk))); (case aO => exact (by (with_reducible repeat (first | apply Kd.R_alloc | apply Kd.R_drewN | apply Kd.R_drew)); exact HO_4.out)); (case aS => exact (below_size (by repeat (first | (with_reducible first | exact HB.out | apply below_alloc | apply pw_below_drewN | apply below_drew1) | exact HB.out)))); (case aL => have := LMc12.out; omega); intro v122 w13 ho hb hg hat; rw [← Ny121.out] at ho; have n0_ := Aside0.mk (hb); have n1_ := Aside0.mk (ho); clear HB; clear HO_4; have HB := n0_; have HO123 := n1_; clear n0_ n1_; clear ho hb hg hat))
                go_roundg k2
                case measure => have := HK1.out; have := HK2.out; omega
                case rel => exact ⟨(y121), (wrap64 (x5_1 - 9)), (by first | rfl | (simp; done) | (simp [*]; done)), H', ⟨by have := HK1.out; have := HK2.out; omega⟩, ⟨by (with_reducible repeat (first | apply Kd.R_alloc | apply Kd.R_drewN | apply Kd.R_drew)); exact HO123.out⟩, ⟨by repeat (first | (with_reducible first | exact HB.out | apply below_alloc | apply pw_below_drewN | apply below_drew1) | exact HB.out)⟩⟩
              · rw [if_neg c12] at H
                exact absurd H (by simp)
      · rw [if_neg c2] at H
        have c2b0 : decide (0 < x5_1) = false := decide_eq_false c2
        clear c2
        replace H := Option.bind_eq_some_iff.mp H
        obtain ⟨t118, A140, H⟩ := H
        replace H : (some (t118, (a0.toList != ([] : List UInt8)))) = some (r1, r2) := H
        have A14 := Aside0.mk A140
        clear A140
        simp only [Option.some.injEq, Prod.mk.injEq] at H
        obtain ⟨rfl, rfl⟩ := H
        obtain ⟨Ao15, co15, eo15⟩ := Kd.R_slice HO_4.out
        subst eo15
        go_wp2_with (first | ((with_reducible refine gate_callee (f := 36) rfl ?_); refine goesL_ (some 45) rfl rfl Tryz.func36 (by kernel_rfl) rfl #[.slice Ao15 x4_1.length co15] rfl (by (try simp only [List.map_toArray, List.map_cons, List.map_nil]); first | done | rfl | (simp only [List.length_drop, List.length_take]; rfl)) ?_; (with_reducible refine (spec_natTrim.calls k1 (fun k_ => some k_ = (.slice Ao15 x4_1.length co15 : Value).ownBlock) _ _ x4_1 t118 _ ?side1 A14.out).mono ?_); (case side1 => exact Kd.R_V (Kd.R_tight rfl (HO_4.out))); rintro e w16 ⟨v119, rfl, ho0, hb⟩; refine ⟨_, rfl, ?_⟩; have n0_ := Aside0.mk (Kd.R_below (by (with_reducible repeat (first | apply Kd.R_alloc | apply Kd.R_drewN | apply Kd.R_drew)); exact HO_4.out) hb); have n1_ := Aside0.mk (Kd.V_lower (Kd.V_mono (ok' := fun k_ => (w.heap.size ≤ k_)) ho0 (fun k_ hk_ => Or.elim hk_ (fun hs_ => ((HO_4.out).1 k_ hs_.symm)) (fun hn_ => (Nat.le_trans (below_size (by repeat (first | (with_reducible first | exact HB.out | apply below_alloc | apply pw_below_drewN | apply below_drew1) | exact HB.out))) hn_)))) (below_size (by repeat (first | (with_reducible first | exact HB.out | apply below_alloc | apply pw_below_drewN | apply below_drew1) | exact HB.out)))); have n2_ := Aside0.mk (below_step (by repeat (first | (with_reducible first | exact HB.out | apply below_alloc | apply pw_below_drewN | apply below_drew1) | exact HB.out)) hb); clear HO_4; clear HB; have HO_4 := n0_; have HO120 := n1_; have HB := n2_; clear n0_ n1_ n2_; (try clear hb); (try clear hb2); (try clear hk); (try clear hi); (try clear ho0)))
        go_ret2
        exact ⟨v119, by first | rfl | (rw [show (a0.toList != ([] : List UInt8)) = !a0.toList.isEmpty from by cases a0.toList <;> rfl]; rfl) | (simp [errW_none, errW_some] <;> rfl) | (simp [*, errW_none, errW_some] <;> rfl), by (with_reducible repeat (first | apply Kd.V_alloc | apply Kd.V_drewN | apply Kd.V_drew)); exact HO120.out, by repeat (first | (with_reducible first | exact HB.out | apply below_alloc | apply pw_below_drewN | apply below_drew1) | exact HB.out)⟩


end Go.Proofs.YtghabdpbacgicaaGreatDoor.S
