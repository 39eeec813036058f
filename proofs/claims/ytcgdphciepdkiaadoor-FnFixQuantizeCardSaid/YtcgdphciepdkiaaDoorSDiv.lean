/- CONTRACTS of spec_NatDiv: each as the plain function beside it. (Began as print.sh's text for this seat; the turns are those of wip/tools/split.py.) -/
import Derived.Test.YtcgdphciepdkiaaDoorSFrom
import Derived.Test.YtcgdphciepdkiaaDoorSMul
import Derived.Test.YtcgdphciepdkiaaDoorSCmp
import Derived.Test.YtcgdphciepdkiaaDoorSShort
namespace Go.Proofs.YtcgdphciepdkiaaDoor.S
open Go.RowKit Go.Proofs.YtcgdphciepdkiaaDoorW.PrintWords Go.Proofs.YtcgdphciepdkiaaDoorW.PrintLast Go.Proofs.YtcgdphciepdkiaaDoorW.PrintMore
attribute [local go_sem] max2_int min2_int max_two min_two max_three min_three max_four min_four   -- for this text's walks alone
set_option linter.unusedVariables false
set_option linter.unusedSimpArgs false

/-! ### spec_NatDiv: function 60 -/
mutual
def spec_NatDiv.l0 : Nat → List Int → List Int → List Int → List Int → List Int → Int → Option (List Int × List Int)
  | 0, _, _, _, _, _, _ => none
  | k + 1, x4, x5, x8, x9, x10, x11 => if x11 ≥ 0 then (if 0 ≤ x11 then (if x11 < (x9.length : Int) then ((some (([rd x9 x11] : List Int) : List Int)).bind fun y328 => (if y328.length + x5.length < 35184372088832 then ((spec_natTrim.f k (y328 ++ x5)).bind fun t334 => ((spec_natGuess.f t334 x10).bind fun t337 => ((spec_NatFrom.f k t337).bind fun t338 => ((spec_NatMul.f k x10 t338).bind fun t341 => (spec_NatDiv.l1 k x4 t334 x8 x9 x10 x11 t337 t341))))) else (none))) else (none)) else (none)) else (if 0 < (x8.length : Int) then ((spec_natShort.f k x5 (rd x8 0)).bind fun bt320 => ((spec_natTrim.f k x4).bind fun t324 => (some (t324, bt320.1)))) else (none))
def spec_NatDiv.l1 : Nat → List Int → List Int → List Int → List Int → List Int → Int → Int → List Int → Option (List Int × List Int)
  | 0, _, _, _, _, _, _, _, _ => none
  | k + 1, x4, x5, x8, x9, x10, x11, x12, x13 => (spec_NatCmp.f k x13 x5).bind fun t344 => (if t344 > 0 then ((spec_NatSub.f k x13 x10).bind fun t345 => (spec_NatDiv.l1 k x4 x5 x8 x9 x10 x11 (IntKind.u64.wrap (x12 - 1)) t345)) else ((spec_NatSub.f k x5 x13).bind fun t348 => (if 0 ≤ x11 then (if x11 < (x4.length : Int) then (spec_NatDiv.l0 k (x4.set (x11 : Int).toNat ((x12) % 4294967296)) t348 x8 x9 x10 (wrap64 (x11 - 1))) else (none)) else (none))))
end
def spec_NatDiv.f (k : Nat) (l0 : List Int) (l1 : List Int) : Option (List Int × List Int) := (spec_NatCmp.f k l0 l1).bind fun t291 => (if t291 < 0 then ((some (([] : List Int) : List Int)).bind fun y292 => (if y292.length + l0.length < 35184372088832 then (some (([] : List Int), (y292 ++ l0))) else (none))) else (if (l1.length : Int) = 1 then (if 0 < (l1.length : Int) then ((spec_natShort.f k l0 (rd l1 0)).bind fun bt299 => ((spec_NatFrom.f k (IntKind.u64.wrap (bt299.2))).bind fun t303 => (some (bt299.1, t303)))) else (none)) else (if 0 ≤ (wrap64 ((l1.length : Int) - 1)) then (if (wrap64 ((l1.length : Int) - 1)) < (l1.length : Int) then (if (IntKind.u64.wrap ((IntKind.u64.wrap (rd l1 (wrap64 ((l1.length : Int) - 1)))) + 1)) = 0 then (none) else ((some (([(IntKind.u64.wrap (Int.tdiv 1000000000 (IntKind.u64.wrap ((IntKind.u64.wrap (rd l1 (wrap64 ((l1.length : Int) - 1)))) + 1)))) % 4294967296] : List Int) : List Int)).bind fun y307 => ((spec_NatMul.f k l0 y307).bind fun t310 => ((spec_NatMul.f k l1 y307).bind fun t313 => (if 0 ≤ (t310.length : Int) then (if ((t310.length : Int) : Int).toNat ≤ 70368744177664 then (spec_NatDiv.l0 k (List.replicate ((t310.length : Int) : Int).toNat 0) ([] : List Int) y307 t310 t313 (wrap64 ((t310.length : Int) - 1))) else (none)) else (none)))))) else (none)) else (none))))
theorem spec_NatDiv.mono_l : ∀ k, (∀ y0 y1 y2 y3 y4 y5, LeO (spec_NatDiv.l0 k y0 y1 y2 y3 y4 y5) (spec_NatDiv.l0 (k + 1) y0 y1 y2 y3 y4 y5)) ∧ (∀ y0 y1 y2 y3 y4 y5 y6 y7, LeO (spec_NatDiv.l1 k y0 y1 y2 y3 y4 y5 y6 y7) (spec_NatDiv.l1 (k + 1) y0 y1 y2 y3 y4 y5 y6 y7))
  | 0 => ⟨fun _ _ _ _ _ _ r h => by simp [spec_NatDiv.l0] at h, fun _ _ _ _ _ _ _ _ r h => by simp [spec_NatDiv.l1] at h⟩
  | k + 1 => by
    obtain ⟨ih0, ih1⟩ := spec_NatDiv.mono_l k
    refine ⟨?_, ?_⟩
    · intro y0 y1 y2 y3 y4 y5
      unfold spec_NatDiv.l0
      repeat' first
      | (with_reducible exact ih0 _ _ _ _ _ _)
      | (with_reducible exact ih1 _ _ _ _ _ _ _ _)
      | (with_reducible exact spec_NatCmp.mono _ _ _)
      | (with_reducible exact spec_NatFrom.mono _ _)
      | (with_reducible exact spec_NatMul.mono _ _ _)
      | (with_reducible exact spec_NatSub.mono _ _ _)
      | (with_reducible exact spec_natShort.mono _ _ _)
      | (with_reducible exact spec_natTrim.mono _ _)
      | (with_reducible exact LeO.refl _)
      | (with_reducible exact LeO.none _)
      | (with_reducible refine LeO.ite ?_ ?_)
      | (with_reducible refine LeO.bind ?_ (fun _ => ?_))
      | exact ih0 _ _ _ _ _ _
      | exact ih1 _ _ _ _ _ _ _ _
      | exact spec_NatCmp.mono _ _ _
      | exact spec_NatFrom.mono _ _
      | exact spec_NatMul.mono _ _ _
      | exact spec_NatSub.mono _ _ _
      | exact spec_natShort.mono _ _ _
      | exact spec_natTrim.mono _ _
      | exact LeO.none _
      | refine LeO.ite ?_ ?_
      | refine LeO.bind ?_ (fun _ => ?_)
    · intro y0 y1 y2 y3 y4 y5 y6 y7
      unfold spec_NatDiv.l1
      repeat' first
      | (with_reducible exact ih0 _ _ _ _ _ _)
      | (with_reducible exact ih1 _ _ _ _ _ _ _ _)
      | (with_reducible exact spec_NatCmp.mono _ _ _)
      | (with_reducible exact spec_NatFrom.mono _ _)
      | (with_reducible exact spec_NatMul.mono _ _ _)
      | (with_reducible exact spec_NatSub.mono _ _ _)
      | (with_reducible exact spec_natShort.mono _ _ _)
      | (with_reducible exact spec_natTrim.mono _ _)
      | (with_reducible exact LeO.refl _)
      | (with_reducible exact LeO.none _)
      | (with_reducible refine LeO.ite ?_ ?_)
      | (with_reducible refine LeO.bind ?_ (fun _ => ?_))
      | exact ih0 _ _ _ _ _ _
      | exact ih1 _ _ _ _ _ _ _ _
      | exact spec_NatCmp.mono _ _ _
      | exact spec_NatFrom.mono _ _
      | exact spec_NatMul.mono _ _ _
      | exact spec_NatSub.mono _ _ _
      | exact spec_natShort.mono _ _ _
      | exact spec_natTrim.mono _ _
      | exact LeO.none _
      | refine LeO.ite ?_ ?_
      | refine LeO.bind ?_ (fun _ => ?_)
theorem spec_NatDiv.mono : ∀ a0 a1 k, LeO (spec_NatDiv.f k a0 a1) (spec_NatDiv.f (k + 1) a0 a1) := by
  intro a0 a1 k
  obtain ⟨ih0, ih1⟩ := spec_NatDiv.mono_l k
  unfold spec_NatDiv.f
  repeat' first
      | (with_reducible exact ih0 _ _ _ _ _ _)
      | (with_reducible exact ih1 _ _ _ _ _ _ _ _)
      | (with_reducible exact spec_NatCmp.mono _ _ _)
      | (with_reducible exact spec_NatFrom.mono _ _)
      | (with_reducible exact spec_NatMul.mono _ _ _)
      | (with_reducible exact spec_NatSub.mono _ _ _)
      | (with_reducible exact spec_natShort.mono _ _ _)
      | (with_reducible exact spec_natTrim.mono _ _)
      | (with_reducible exact LeO.refl _)
      | (with_reducible exact LeO.none _)
      | (with_reducible refine LeO.ite ?_ ?_)
      | (with_reducible refine LeO.bind ?_ (fun _ => ?_))
      | exact ih0 _ _ _ _ _ _
      | exact ih1 _ _ _ _ _ _ _ _
      | exact spec_NatCmp.mono _ _ _
      | exact spec_NatFrom.mono _ _
      | exact spec_NatMul.mono _ _ _
      | exact spec_NatSub.mono _ _ _
      | exact spec_natShort.mono _ _ _
      | exact spec_natTrim.mono _ _
      | exact LeO.none _
      | refine LeO.ite ?_ ?_
      | refine LeO.bind ?_ (fun _ => ?_)
set_option maxHeartbeats 8000000 in
set_option maxRecDepth 100000 in
theorem spec_NatDiv.calls (k : Nat) (A0 : Option Addr) (c0 : Nat) (l0 : List Int) (A1 : Option Addr) (c1 : Nat) (l1 : List Int) (r1 : List Int) (r2 : List Int) (w : World) (hr0 : Kd.C (Kd.int .u32) w A0 l0.length l0) (hc0 : l0.length ≤ c0) (hr1 : Kd.C (Kd.int .u32) w A1 l1.length l1) (hc1 : l1.length ≤ c1) (h : spec_NatDiv.f k l0 l1 = some (r1, r2)) :
    Calls Tryd.prog 60 #[.slice A0 l0.length c0, .slice A1 l1.length c1] w fun e w' => ∃ v0_ v1_ : Value, e = .returned (.tuple #[v0_, v1_]) ∧ Kd.V (Kd.int .u32) 59 w' w.heap.size (fun k_ => (w.heap.size ≤ k_)) v0_ r1 ∧ Kd.V (Kd.int .u32) 59 w' w.heap.size (fun k_ => (w.heap.size ≤ k_)) v1_ r2 ∧ Below w.heap.size w w' := by
  have HR0 := Aside0.mk hr0
  have HC0 := Aside0.mk hc0
  clear hr0 hc0
  have HR1 := Aside0.mk hr1
  have HC1 := Aside0.mk hc1
  clear hr1 hc1
  have HB := Aside0.mk (Below.refl w.heap.size w)
  have H : ((spec_NatCmp.f k l0 l1).bind fun t291 => (if t291 < 0 then ((some (([] : List Int) : List Int)).bind fun y292 => (if y292.length + l0.length < 35184372088832 then (some (([] : List Int), (y292 ++ l0))) else (none))) else (if (l1.length : Int) = 1 then (if 0 < (l1.length : Int) then ((spec_natShort.f k l0 (rd l1 0)).bind fun bt299 => ((spec_NatFrom.f k (IntKind.u64.wrap (bt299.2))).bind fun t303 => (some (bt299.1, t303)))) else (none)) else (if 0 ≤ (wrap64 ((l1.length : Int) - 1)) then (if (wrap64 ((l1.length : Int) - 1)) < (l1.length : Int) then (if (IntKind.u64.wrap ((IntKind.u64.wrap (rd l1 (wrap64 ((l1.length : Int) - 1)))) + 1)) = 0 then (none) else ((some (([(IntKind.u64.wrap (Int.tdiv 1000000000 (IntKind.u64.wrap ((IntKind.u64.wrap (rd l1 (wrap64 ((l1.length : Int) - 1)))) + 1)))) % 4294967296] : List Int) : List Int)).bind fun y307 => ((spec_NatMul.f k l0 y307).bind fun t310 => ((spec_NatMul.f k l1 y307).bind fun t313 => (if 0 ≤ (t310.length : Int) then (if ((t310.length : Int) : Int).toNat ≤ 70368744177664 then (spec_NatDiv.l0 k (List.replicate ((t310.length : Int) : Int).toNat 0) ([] : List Int) y307 t310 t313 (wrap64 ((t310.length : Int) - 1))) else (none)) else (none)))))) else (none)) else (none))))) = some (r1, r2) := h
  clear h
  replace H := Option.bind_eq_some_iff.mp H
  obtain ⟨t291, A30, H⟩ := H
  replace H : (if t291 < 0 then ((some (([] : List Int) : List Int)).bind fun y292 => (if y292.length + l0.length < 35184372088832 then (some (([] : List Int), (y292 ++ l0))) else (none))) else (if (l1.length : Int) = 1 then (if 0 < (l1.length : Int) then ((spec_natShort.f k l0 (rd l1 0)).bind fun bt299 => ((spec_NatFrom.f k (IntKind.u64.wrap (bt299.2))).bind fun t303 => (some (bt299.1, t303)))) else (none)) else (if 0 ≤ (wrap64 ((l1.length : Int) - 1)) then (if (wrap64 ((l1.length : Int) - 1)) < (l1.length : Int) then (if (IntKind.u64.wrap ((IntKind.u64.wrap (rd l1 (wrap64 ((l1.length : Int) - 1)))) + 1)) = 0 then (none) else ((some (([(IntKind.u64.wrap (Int.tdiv 1000000000 (IntKind.u64.wrap ((IntKind.u64.wrap (rd l1 (wrap64 ((l1.length : Int) - 1)))) + 1)))) % 4294967296] : List Int) : List Int)).bind fun y307 => ((spec_NatMul.f k l0 y307).bind fun t310 => ((spec_NatMul.f k l1 y307).bind fun t313 => (if 0 ≤ (t310.length : Int) then (if ((t310.length : Int) : Int).toNat ≤ 70368744177664 then (spec_NatDiv.l0 k (List.replicate ((t310.length : Int) : Int).toNat 0) ([] : List Int) y307 t310 t313 (wrap64 ((t310.length : Int) - 1))) else (none)) else (none)))))) else (none)) else (none)))) = some (r1, r2) := H
  have A3 := Aside0.mk A30
  clear A30
  by_cases c4 : t291 < 0
  · rw [if_pos c4] at H
    have c4b0 : decide (t291 < 0) = true := decide_eq_true c4
    clear c4
    obtain ⟨y292, hy292⟩ : ∃ y_ : List Int, y_ = (([] : List Int)) := ⟨_, rfl⟩
    replace H : (if y292.length + l0.length < 35184372088832 then (some (([] : List Int), (y292 ++ l0))) else (none)) = some (r1, r2) := by first | (rw [hy292]; with_reducible exact H) | (have H2_ := (Option.bind_some _ _).symm.trans H; rw [hy292]; with_reducible exact H2_) | (have H2_ := (Option.bind_some _ _).symm.trans H; with_reducible exact H2_) | with_reducible exact H | (rw [hy292]; exact H) | exact H
    have Ny292 := Aside0.mk hy292
    clear hy292
    by_cases c5 : y292.length + l0.length < 35184372088832
    · rw [if_pos c5] at H
      have LMc5 := Aside0.mk c5
      clear c5
      obtain ⟨y295, hy295⟩ : ∃ y_ : List Int, y_ = (y292 ++ l0) := ⟨_, rfl⟩
      replace H : (some (([] : List Int), y295)) = some (r1, r2) := by first | (rw [hy295]; with_reducible exact H) | (have H2_ := (Option.bind_some _ _).symm.trans H; rw [hy295]; with_reducible exact H2_) | (have H2_ := (Option.bind_some _ _).symm.trans H; with_reducible exact H2_) | with_reducible exact H | (rw [hy295]; exact H) | exact H
      have Ny295 := Aside0.mk hy295
      clear hy295
      simp only [Option.some.injEq, Prod.mk.injEq] at H
      obtain ⟨rfl, rfl⟩ := H
      go_enter Tryd.func60, Tryd.ntmps60
      go_wp2_with (first | ((with_reducible refine gate_callee (f := 30) rfl ?_); refine goesL_ (some 16) rfl rfl Tryd.func30 (by kernel_rfl) rfl #[.slice A0 l0.length c0, .slice A1 l1.length c1] rfl (by (try simp only [List.map_toArray, List.map_cons, List.map_nil]); first | done | rfl | (simp only [List.length_drop, List.length_take]; rfl)) ?_; (with_reducible refine (spec_NatCmp.calls k _ _ l0 _ _ l1 t291 _ ?side1 ?side2 ?side3 ?side4 A3.out).mono ?_); (case side1 => repeat (first | exact HR0.out | (with_reducible refine Kd.C_alloc ?_ _) | (with_reducible refine Kd.C_drewN ?_ _) | (with_reducible refine Kd.C_drew ?_))); (case side2 => exact HC0.out); (case side3 => repeat (first | exact HR1.out | (with_reducible refine Kd.C_alloc ?_ _) | (with_reducible refine Kd.C_drewN ?_ _) | (with_reducible refine Kd.C_drew ?_))); (case side4 => exact HC1.out); rintro e w' ⟨rfl, ⟨nd, rfl⟩⟩; refine ⟨_, rfl, ?_⟩) | ((with_reducible refine gate_dst (N := 18) rfl ?_); refine Kd.R_lit (Kd.int .u32) _ 59 ?hg (N := 18) ?hd (xs := ([] : List Int)) (inner := []) (ok := fun _ => True) (okp := fun _ => True) ?hr ?hp (fun _ hk => hk) trivial (Below.refl _ _) (Nat.le_refl _) (by simp) ?_; (case hd => rfl); (case hg => rfl); (case hr => first | (go_simp; done) | (go_simp; rfl)); (case hp => exact (Reps.none _ _)); intro v293 w6 ho7 hb hg_ hnew_; clear hg_ hnew_; (first | rw [← Ny292.out] at ho7 | (simp only [Int.reduceToNat] at ho7; rw [← Ny292.out] at ho7)); have n0_ := Aside0.mk (Kd.R_lower (Kd.R_newM (M := fun k_ => (w.heap.size ≤ k_)) ho7 (below_size (by repeat (first | (with_reducible first | exact HB.out | apply below_alloc | apply pw_below_drewN | apply below_drew1) | exact HB.out))) (fun k_ h_ => h_)) (below_size (by repeat (first | (with_reducible first | exact HB.out | apply below_alloc | apply pw_below_drewN | apply below_drew1) | exact HB.out)))); have n1_ := Aside0.mk (below_step (by repeat (first | (with_reducible first | exact HB.out | apply below_alloc | apply pw_below_drewN | apply below_drew1) | exact HB.out)) hb); clear HB; have HO294 := n0_; have HB := n1_; clear n0_ n1_; clear hb ho7) | ((with_reducible refine gate_builtin (b := .append) (xs := #[.tmp 18, .tmp 19]) rfl ?_); at_builtin; refine Kd.R_append_rows (Kd.int .u32) (w0 := w) w.heap.size rfl (.tmp 18) (.tmp 19) 28 59 (.int .u32 0) 4 rfl Tryd.underlying28 info59 rfl (by decide) (by omega) v293 y292 l0 _ _ _ (fun k_ => (w.heap.size ≤ k_)) (fun _ => False) rfl rfl ?aO ?aR (fun _ _ h => h) (fun _ h => h.elim) ?aF ?aB ?aS ?aL ?_; (case aR => repeat (first | exact (Kd.C_below HR0.out HB.out) | (with_reducible refine Kd.C_alloc ?_ _) | (with_reducible refine Kd.C_drewN ?_ _) | (with_reducible refine Kd.C_drew ?_))); (case aB => exact (by repeat (first | (with_reducible first | exact HB.out | apply below_alloc | apply pw_below_drewN | apply below_drew1) | exact HB.out))); (case aF => exact (fun k_ hk => (Nat.le_trans (below_size (by repeat (first | (with_reducible first | exact HB.out | apply below_alloc | apply pw_below_drewN | apply below_drew1) | exact HB.out))) hk))); (case aO => exact (by (with_reducible repeat (first | apply Kd.R_alloc | apply Kd.R_drewN | apply Kd.R_drew)); exact Kd.R_mono HO294.out (fun _ hk => hk.1))); (case aS => exact (below_size (by repeat (first | (with_reducible first | exact HB.out | apply below_alloc | apply pw_below_drewN | apply below_drew1) | exact HB.out)))); (case aL => have := LMc5.out; omega); intro v296 w8 ho hb hg hat; rw [← Ny295.out] at ho; have n0_ := Aside0.mk (hb); have n1_ := Aside0.mk (ho); clear HB; clear HO294; have HB := n0_; have HO297 := n1_; clear n0_ n1_; clear ho hb hg hat))
      go_ret2
      exact ⟨.slice none 0 0, _, by first | rfl | (simp [errW_none, errW_some] <;> rfl) | (simp [*, errW_none, errW_some] <;> rfl), (Kd.V_nil _ _ _ _ _), Kd.R_V (by (with_reducible repeat (first | apply Kd.R_alloc | apply Kd.R_drewN | apply Kd.R_drew)); exact HO297.out), by repeat (first | (with_reducible first | exact HB.out | apply below_alloc | apply pw_below_drewN | apply below_drew1) | exact HB.out)⟩
    · rw [if_neg c5] at H
      exact absurd H (by simp)
  · rw [if_neg c4] at H
    have c4b0 : decide (t291 < 0) = false := decide_eq_false c4
    clear c4
    by_cases c9 : (l1.length : Int) = 1
    · rw [if_pos c9] at H
      have c9b0 : ((l1.length : Int) == 1) = true := beq_iff_eq.mpr c9
      have c9b1 : ((l1.length : Int) != 1) = false := bne_eq_false_iff_eq.mpr c9
      clear c9
      by_cases c10 : 0 < (l1.length : Int)
      · rw [if_pos c10] at H
        have c10b0 : decide (0 < (l1.length : Int)) = true := decide_eq_true c10
        have c10b1 : decide (0 < l1.length) = true := decide_eq_true (by omega)
        clear c10
        replace H := Option.bind_eq_some_iff.mp H
        obtain ⟨⟨t299, t302⟩, A110, H⟩ := H
        replace H : ((spec_NatFrom.f k (IntKind.u64.wrap (t302))).bind fun t303 => (some (t299, t303))) = some (r1, r2) := H
        have A11 := Aside0.mk A110
        clear A110
        replace H := Option.bind_eq_some_iff.mp H
        obtain ⟨t303, A120, H⟩ := H
        replace H : (some (t299, t303)) = some (r1, r2) := H
        have A12 := Aside0.mk A120
        clear A120
        simp only [Option.some.injEq, Prod.mk.injEq] at H
        obtain ⟨rfl, rfl⟩ := H
        go_enter Tryd.func60, Tryd.ntmps60
        go_wp2_with (first | ((with_reducible refine gate_callee (f := 30) rfl ?_); refine goesL_ (some 16) rfl rfl Tryd.func30 (by kernel_rfl) rfl #[.slice A0 l0.length c0, .slice A1 l1.length c1] rfl (by (try simp only [List.map_toArray, List.map_cons, List.map_nil]); first | done | rfl | (simp only [List.length_drop, List.length_take]; rfl)) ?_; (with_reducible refine (spec_NatCmp.calls k _ _ l0 _ _ l1 t291 _ ?side1 ?side2 ?side3 ?side4 A3.out).mono ?_); (case side1 => repeat (first | exact HR0.out | (with_reducible refine Kd.C_alloc ?_ _) | (with_reducible refine Kd.C_drewN ?_ _) | (with_reducible refine Kd.C_drew ?_))); (case side2 => exact HC0.out); (case side3 => repeat (first | exact HR1.out | (with_reducible refine Kd.C_alloc ?_ _) | (with_reducible refine Kd.C_drewN ?_ _) | (with_reducible refine Kd.C_drew ?_))); (case side4 => exact HC1.out); rintro e w' ⟨rfl, ⟨nd, rfl⟩⟩; refine ⟨_, rfl, ?_⟩; have p298 : 0 ≤ (0 : Int) := (by omega); have q298 : 0 < (l1.length : Int) := of_decide_eq_true (by first | (with_reducible assumption) | assumption); obtain ⟨ad298, e298, hx298_0⟩ := Kd.at_int HR1.out 0 p298 q298; cases e298; have qi298 : (0 < l1.length) = True := eq_true (by omega); (try rw [show ((0 : Int)).toNat = 0 from rfl] at hx298_0); (try rw [Addr.add_zero'] at hx298_0); replace p298 := eq_true p298; replace q298 := eq_true q298) | ((with_reducible refine gate_callee (f := 71) rfl ?_); refine goesL_ (some 29) rfl rfl Tryd.func71 (by kernel_rfl) rfl #[.slice A0 l0.length c0, .int .u32 (rd l1 0)] rfl (by (try simp only [List.map_toArray, List.map_cons, List.map_nil]); first | done | rfl | (simp only [List.length_drop, List.length_take]; rfl)) ?_; (with_reducible refine (spec_natShort.calls k _ _ l0 (rd l1 0) t299 t302 _ ?side1 ?side2 A11.out).mono ?_); (case side1 => repeat (first | exact HR0.out | (with_reducible refine Kd.C_alloc ?_ _) | (with_reducible refine Kd.C_drewN ?_ _) | (with_reducible refine Kd.C_drew ?_))); (case side2 => exact HC0.out); rintro e w13 ⟨v300, rfl, ho0, hb⟩; refine ⟨_, rfl, ?_⟩; have n0_ := Aside0.mk (Kd.V_lower (Kd.V_mono (ok' := fun k_ => (w.heap.size ≤ k_)) ho0 (fun k_ hk_ => (Nat.le_trans (below_size (by repeat (first | (with_reducible first | exact HB.out | apply below_alloc | apply pw_below_drewN | apply below_drew1) | exact HB.out))) hk_))) (below_size (by repeat (first | (with_reducible first | exact HB.out | apply below_alloc | apply pw_below_drewN | apply below_drew1) | exact HB.out)))); have n1_ := Aside0.mk (below_step (by repeat (first | (with_reducible first | exact HB.out | apply below_alloc | apply pw_below_drewN | apply below_drew1) | exact HB.out)) hb); clear HB; have HO301 := n0_; have HB := n1_; clear n0_ n1_; (try clear hb); (try clear hb2); (try clear hk); (try clear hi); (try clear ho0)) | ((with_reducible refine gate_callee (f := 13) rfl ?_); refine goesL_ (some 35) rfl rfl Tryd.func13 (by kernel_rfl) rfl #[.int .u64 (IntKind.u64.wrap (t302))] rfl (by (try simp only [List.map_toArray, List.map_cons, List.map_nil]); first | done | rfl | (simp only [List.length_drop, List.length_take]; rfl)) ?_; (with_reducible refine (spec_NatFrom.calls k (IntKind.u64.wrap (t302)) t303 _ A12.out).mono ?_); rintro e w14 ⟨v304, rfl, ho0, hb⟩; refine ⟨_, rfl, ?_⟩; have n0_ := Aside0.mk (Kd.V_elder' (by (with_reducible repeat (first | apply Kd.V_alloc | apply Kd.V_drewN | apply Kd.V_drew)); exact HO301.out) (Kd.R_base ho0) hb); have n1_ := Aside0.mk (Kd.R_lower (Kd.R_newM (M := fun k_ => (w.heap.size ≤ k_)) ho0 (below_size (by repeat (first | (with_reducible first | exact HB.out | apply below_alloc | apply pw_below_drewN | apply below_drew1) | exact HB.out))) (fun k_ h_ => h_)) (below_size (by repeat (first | (with_reducible first | exact HB.out | apply below_alloc | apply pw_below_drewN | apply below_drew1) | exact HB.out)))); have n2_ := Aside0.mk (below_step (by repeat (first | (with_reducible first | exact HB.out | apply below_alloc | apply pw_below_drewN | apply below_drew1) | exact HB.out)) hb); clear HO301; clear HB; have HO301 := n0_; have HO305 := n1_; have HB := n2_; clear n0_ n1_ n2_; (try clear hb); (try clear hb2); (try clear hk); (try clear hi); (try clear ho0)))
        go_ret2
        exact ⟨_, _, by first | rfl | (simp [errW_none, errW_some] <;> rfl) | (simp [*, errW_none, errW_some] <;> rfl), by (with_reducible repeat (first | apply Kd.V_alloc | apply Kd.V_drewN | apply Kd.V_drew)); exact Kd.V_mono HO301.out (fun _ hk => hk.1), Kd.R_V (by (with_reducible repeat (first | apply Kd.R_alloc | apply Kd.R_drewN | apply Kd.R_drew)); exact Kd.R_mono HO305.out (fun _ hk => hk.1)), by repeat (first | (with_reducible first | exact HB.out | apply below_alloc | apply pw_below_drewN | apply below_drew1) | exact HB.out)⟩
      · rw [if_neg c10] at H
        exact absurd H (by simp)
    · rw [if_neg c9] at H
      have c9b0 : ((l1.length : Int) == 1) = false := beq_eq_false_iff_ne.mpr c9
      have c9b1 : ((l1.length : Int) != 1) = true := bne_iff_ne.mpr c9
      obtain ⟨ji15, hji15⟩ : ∃ j_ : Int, (wrap64 ((l1.length : Int) - 1)) = j_ := ⟨_, rfl⟩
      replace H : (if 0 ≤ (ji15) then (if (ji15) < (l1.length : Int) then (if (IntKind.u64.wrap ((IntKind.u64.wrap (rd l1 (ji15))) + 1)) = 0 then (none) else ((some (([(IntKind.u64.wrap (Int.tdiv 1000000000 (IntKind.u64.wrap ((IntKind.u64.wrap (rd l1 (ji15))) + 1)))) % 4294967296] : List Int) : List Int)).bind fun y307 => ((spec_NatMul.f k l0 y307).bind fun t310 => ((spec_NatMul.f k l1 y307).bind fun t313 => (if 0 ≤ (t310.length : Int) then (if ((t310.length : Int) : Int).toNat ≤ 70368744177664 then (spec_NatDiv.l0 k (List.replicate ((t310.length : Int) : Int).toNat 0) ([] : List Int) y307 t310 t313 (wrap64 ((t310.length : Int) - 1))) else (none)) else (none)))))) else (none)) else (none)) = some (r1, r2) := by first | (rw [hji15] at H; exact H) | (simp only [hji15] at H ⊢; exact H)
      (try rw [hji15] at A3)
      have hji15w : (IntKind.i64.wrap ((l1.length : Int) - 1)) = ji15 := (i64_w _).trans hji15
      by_cases c16 : 0 ≤ (ji15)
      · rw [if_pos c16] at H
        have c16b0 : decide (0 ≤ (ji15)) = true := decide_eq_true c16
        clear c16
        by_cases c17 : (ji15) < (l1.length : Int)
        · rw [if_pos c17] at H
          have c17b0 : decide ((ji15) < (l1.length : Int)) = true := decide_eq_true c17
          clear c17
          by_cases c18 : (IntKind.u64.wrap ((IntKind.u64.wrap (rd l1 (ji15))) + 1)) = 0
          · rw [if_pos c18] at H
            exact absurd H (by simp)
          · rw [if_neg c18] at H
            have c18b0 : ((IntKind.u64.wrap ((IntKind.u64.wrap (rd l1 (ji15))) + 1)) == 0) = false := beq_eq_false_iff_ne.mpr c18
            have c18b1 : ((IntKind.u64.wrap ((IntKind.u64.wrap (rd l1 (ji15))) + 1)) != 0) = true := bne_iff_ne.mpr c18
            obtain ⟨y307, hy307⟩ : ∃ y_ : List Int, y_ = (([(IntKind.u64.wrap (Int.tdiv 1000000000 (IntKind.u64.wrap ((IntKind.u64.wrap (rd l1 (ji15))) + 1)))) % 4294967296] : List Int)) := ⟨_, rfl⟩
            replace H : ((spec_NatMul.f k l0 y307).bind fun t310 => ((spec_NatMul.f k l1 y307).bind fun t313 => (if 0 ≤ (t310.length : Int) then (if ((t310.length : Int) : Int).toNat ≤ 70368744177664 then (spec_NatDiv.l0 k (List.replicate ((t310.length : Int) : Int).toNat 0) ([] : List Int) y307 t310 t313 (wrap64 ((t310.length : Int) - 1))) else (none)) else (none)))) = some (r1, r2) := by first | (rw [hy307]; with_reducible exact H) | (have H2_ := (Option.bind_some _ _).symm.trans H; rw [hy307]; with_reducible exact H2_) | (have H2_ := (Option.bind_some _ _).symm.trans H; with_reducible exact H2_) | with_reducible exact H | (rw [hy307]; exact H) | exact H
            have Ny307 := Aside0.mk hy307
            clear hy307
            replace H := Option.bind_eq_some_iff.mp H
            obtain ⟨t310, A190, H⟩ := H
            replace H : ((spec_NatMul.f k l1 y307).bind fun t313 => (if 0 ≤ (t310.length : Int) then (if ((t310.length : Int) : Int).toNat ≤ 70368744177664 then (spec_NatDiv.l0 k (List.replicate ((t310.length : Int) : Int).toNat 0) ([] : List Int) y307 t310 t313 (wrap64 ((t310.length : Int) - 1))) else (none)) else (none))) = some (r1, r2) := H
            have A19 := Aside0.mk A190
            clear A190
            replace H := Option.bind_eq_some_iff.mp H
            obtain ⟨t313, A200, H⟩ := H
            replace H : (if 0 ≤ (t310.length : Int) then (if ((t310.length : Int) : Int).toNat ≤ 70368744177664 then (spec_NatDiv.l0 k (List.replicate ((t310.length : Int) : Int).toNat 0) ([] : List Int) y307 t310 t313 (wrap64 ((t310.length : Int) - 1))) else (none)) else (none)) = some (r1, r2) := H
            have A20 := Aside0.mk A200
            clear A200
            by_cases c21 : 0 ≤ (t310.length : Int)
            · rw [if_pos c21] at H
              have c21b0 := eq_true c21
              have c21b1 : decide (0 ≤ (t310.length : Int)) = true := decide_eq_true c21
              clear c21
              by_cases c22 : ((t310.length : Int) : Int).toNat ≤ 70368744177664
              · rw [if_pos c22] at H
                have c22b0 := eq_true c22
                have c22b1 : decide (((t310.length : Int) : Int).toNat ≤ 70368744177664) = true := decide_eq_true c22
                clear c22
                obtain ⟨y316, hy316⟩ : ∃ y_ : List Int, y_ = (List.replicate ((t310.length : Int) : Int).toNat 0) := ⟨_, rfl⟩
                replace H : (spec_NatDiv.l0 k y316 ([] : List Int) y307 t310 t313 (wrap64 ((t310.length : Int) - 1))) = some (r1, r2) := by first | (rw [hy316]; with_reducible exact H) | (have H2_ := (Option.bind_some _ _).symm.trans H; rw [hy316]; with_reducible exact H2_) | (have H2_ := (Option.bind_some _ _).symm.trans H; with_reducible exact H2_) | with_reducible exact H | (rw [hy316]; exact H) | exact H
                have Ny316 := Aside0.mk hy316
                clear hy316
                have H' := Aside0.mk H
                clear H
                go_enter Tryd.func60, Tryd.ntmps60
                go_wp2_with (first | ((with_reducible refine gate_callee (f := 30) rfl ?_); refine goesL_ (some 16) rfl rfl Tryd.func30 (by kernel_rfl) rfl #[.slice A0 l0.length c0, .slice A1 l1.length c1] rfl (by (try simp only [List.map_toArray, List.map_cons, List.map_nil]); first | done | rfl | (simp only [List.length_drop, List.length_take]; rfl)) ?_; (with_reducible refine (spec_NatCmp.calls k _ _ l0 _ _ l1 t291 _ ?side1 ?side2 ?side3 ?side4 A3.out).mono ?_); (case side1 => repeat (first | exact HR0.out | (with_reducible refine Kd.C_alloc ?_ _) | (with_reducible refine Kd.C_drewN ?_ _) | (with_reducible refine Kd.C_drew ?_))); (case side2 => exact HC0.out); (case side3 => repeat (first | exact HR1.out | (with_reducible refine Kd.C_alloc ?_ _) | (with_reducible refine Kd.C_drewN ?_ _) | (with_reducible refine Kd.C_drew ?_))); (case side4 => exact HC1.out); rintro e w' ⟨rfl, ⟨nd, rfl⟩⟩; refine ⟨_, rfl, ?_⟩; have p306 : 0 ≤ ((ji15) : Int) := of_decide_eq_true (by first | (with_reducible assumption) | assumption); have q306 : (ji15) < (l1.length : Int) := of_decide_eq_true (by first | (with_reducible assumption) | assumption); obtain ⟨ad306, e306, hx306_0⟩ := Kd.at_int HR1.out (ji15) p306 q306; cases e306; replace p306 := eq_true p306; replace q306 := eq_true q306) | ((with_reducible refine gate_dst (N := 46) rfl ?_); refine Kd.R_lit (Kd.int .u32) _ 59 ?hg (N := 46) ?hd (xs := ([(IntKind.u64.wrap (Int.tdiv 1000000000 (IntKind.u64.wrap ((IntKind.u64.wrap (rd l1 (ji15))) + 1)))) % 4294967296] : List Int)) (inner := [.int .u32 ((IntKind.u64.wrap (Int.tdiv 1000000000 (IntKind.u64.wrap ((IntKind.u64.wrap (rd l1 (ji15))) + 1)))) % 4294967296)]) (ok := fun _ => True) (okp := fun _ => True) ?hr ?hp (fun _ hk => hk) trivial (Below.refl _ _) (Nat.le_refl _) (by simp) ?_; (case hd => rfl); (case hg => rfl); (case hr => first | (go_simp; done) | (go_simp; rfl)); (case hp => exact (Reps.one (show Kd.M (Kd.int .u32) _ _ _ ((IntKind.u64.wrap (Int.tdiv 1000000000 (IntKind.u64.wrap ((IntKind.u64.wrap (rd l1 (ji15))) + 1)))) % 4294967296) [.int .u32 ((IntKind.u64.wrap (Int.tdiv 1000000000 (IntKind.u64.wrap ((IntKind.u64.wrap (rd l1 (ji15))) + 1)))) % 4294967296)] from rfl) (Reps.none _ _))); intro v308 w23 ho24 hb hg_ hnew_; clear hg_ hnew_; (first | rw [← Ny307.out] at ho24 | (simp only [Int.reduceToNat] at ho24; rw [← Ny307.out] at ho24)); have n0_ := Aside0.mk (Kd.R_lower (Kd.R_newM (M := fun k_ => (w.heap.size ≤ k_)) ho24 (below_size (by repeat (first | (with_reducible first | exact HB.out | apply below_alloc | apply pw_below_drewN | apply below_drew1) | exact HB.out))) (fun k_ h_ => h_)) (below_size (by repeat (first | (with_reducible first | exact HB.out | apply below_alloc | apply pw_below_drewN | apply below_drew1) | exact HB.out)))); have n1_ := Aside0.mk (below_step (by repeat (first | (with_reducible first | exact HB.out | apply below_alloc | apply pw_below_drewN | apply below_drew1) | exact HB.out)) hb); clear HB; have HO309 := n0_; have HB := n1_; clear n0_ n1_; clear hb ho24; obtain ⟨Ao25, co25, eo25⟩ := Kd.R_slice HO309.out; subst eo25) | ((with_reducible refine gate_callee (f := 12) rfl ?_); refine goesL_ (some 49) rfl rfl Tryd.func12 (by kernel_rfl) rfl #[.slice A0 l0.length c0, .slice Ao25 y307.length co25] rfl (by (try simp only [List.map_toArray, List.map_cons, List.map_nil]); first | done | rfl | (simp only [List.length_drop, List.length_take]; rfl)) ?_; (with_reducible refine (spec_NatMul.calls k _ _ l0 _ _ y307 t310 _ ?side1 ?side2 ?side3 ?side4 A19.out).mono ?_); (case side1 => repeat (first | exact (Kd.C_below HR0.out HB.out) | (with_reducible refine Kd.C_alloc ?_ _) | (with_reducible refine Kd.C_drewN ?_ _) | (with_reducible refine Kd.C_drew ?_))); (case side2 => exact HC0.out); (case side3 => repeat (first | exact (Kd.R_reads' HO309.out).2.2 | (with_reducible refine Kd.C_alloc ?_ _) | (with_reducible refine Kd.C_drewN ?_ _) | (with_reducible refine Kd.C_drew ?_))); (case side4 => exact (Kd.R_reads' HO309.out).2.1); rintro e w26 ⟨v311, rfl, ho0, hb⟩; refine ⟨_, rfl, ?_⟩; have n0_ := Aside0.mk (Kd.R_below (by (with_reducible repeat (first | apply Kd.R_alloc | apply Kd.R_drewN | apply Kd.R_drew)); exact HO309.out) hb); have n1_ := Aside0.mk (Kd.V_lower (Kd.V_mono (ok' := fun k_ => (w.heap.size ≤ k_) ∧ some k_ ≠ (.slice Ao25 y307.length co25 : Value).ownBlock) ho0 (fun k_ hk_ => ⟨(Nat.le_trans (below_size (by repeat (first | (with_reducible first | exact HB.out | apply below_alloc | apply pw_below_drewN | apply below_drew1) | exact HB.out))) hk_), (Kd.fresh' (Kd.R_lt (by (with_reducible repeat (first | apply Kd.R_alloc | apply Kd.R_drewN | apply Kd.R_drew)); exact HO309.out)) k_ hk_)⟩)) (below_size (by repeat (first | (with_reducible first | exact HB.out | apply below_alloc | apply pw_below_drewN | apply below_drew1) | exact HB.out)))); have n2_ := Aside0.mk (below_step (by repeat (first | (with_reducible first | exact HB.out | apply below_alloc | apply pw_below_drewN | apply below_drew1) | exact HB.out)) hb); clear HO309; clear HB; have HO309 := n0_; have HO312 := n1_; have HB := n2_; clear n0_ n1_ n2_; (try clear hb); (try clear hb2); (try clear hk); (try clear hi); (try clear ho0)) | ((with_reducible refine gate_callee (f := 12) rfl ?_); refine goesL_ (some 52) rfl rfl Tryd.func12 (by kernel_rfl) rfl #[.slice (some ad306) l1.length c1, .slice Ao25 y307.length co25] rfl (by (try simp only [List.map_toArray, List.map_cons, List.map_nil]); first | done | rfl | (simp only [List.length_drop, List.length_take]; rfl)) ?_; (with_reducible refine (spec_NatMul.calls k _ _ l1 _ _ y307 t313 _ ?side1 ?side2 ?side3 ?side4 A20.out).mono ?_); (case side1 => repeat (first | exact (Kd.C_below HR1.out HB.out) | (with_reducible refine Kd.C_alloc ?_ _) | (with_reducible refine Kd.C_drewN ?_ _) | (with_reducible refine Kd.C_drew ?_))); (case side2 => exact HC1.out); (case side3 => repeat (first | exact (Kd.R_reads' HO309.out).2.2 | (with_reducible refine Kd.C_alloc ?_ _) | (with_reducible refine Kd.C_drewN ?_ _) | (with_reducible refine Kd.C_drew ?_))); (case side4 => exact (Kd.R_reads' HO309.out).2.1); rintro e w27 ⟨v314, rfl, ho0, hb⟩; refine ⟨_, rfl, ?_⟩; have n0_ := Aside0.mk (Kd.R_below (by (with_reducible repeat (first | apply Kd.R_alloc | apply Kd.R_drewN | apply Kd.R_drew)); exact HO309.out) hb); have n1_ := Aside0.mk (Kd.V_below (by (with_reducible repeat (first | apply Kd.V_alloc | apply Kd.V_drewN | apply Kd.V_drew)); exact HO312.out) hb); have n2_ := Aside0.mk (Kd.V_lower (Kd.V_mono (ok' := fun k_ => (w.heap.size ≤ k_) ∧ some k_ ≠ (.slice Ao25 y307.length co25 : Value).ownBlock) ho0 (fun k_ hk_ => ⟨(Nat.le_trans (below_size (by repeat (first | (with_reducible first | exact HB.out | apply below_alloc | apply pw_below_drewN | apply below_drew1) | exact HB.out))) hk_), (Kd.fresh' (Kd.R_lt (by (with_reducible repeat (first | apply Kd.R_alloc | apply Kd.R_drewN | apply Kd.R_drew)); exact HO309.out)) k_ hk_)⟩)) (below_size (by repeat (first | (with_reducible first | exact HB.out | apply below_alloc | apply pw_below_drewN | apply below_drew1) | exact HB.out)))); have n3_ := Aside0.mk (below_step (by repeat (first | (with_reducible first | exact HB.out | apply below_alloc | apply pw_below_drewN | apply below_drew1) | exact HB.out)) hb); clear HO309; clear HO312; clear HB; have HO309 := n0_; have HO312 := n1_; have HO315 := n2_; have HB := n3_; clear n0_ n1_ n2_ n3_; (try clear hb); (try clear hb2); (try clear hk); (try clear hi); (try clear ho0); obtain ⟨Ao28, co28, eo28⟩ := Kd.V_slice HO312.out; subst eo28) | ((with_reducible refine gate_dst (N := 55) rfl ?_); refine Kd.R_make (Kd.int .u32) _ 59 rfl (N := 55) rfl 28 _ _ rfl (t310.length : Int) rfl rfl Tryd.underlying28 (.int .u32 0) 4 info59 rfl (by decide) (by omega) 0 (ok := fun _ => True) (okp := fun _ => True) rfl (fun _ hk => hk) trivial (of_decide_eq_true (by first | (with_reducible assumption) | assumption)) (Nat.le_trans (Nat.mul_le_mul_right _ (of_decide_eq_true (by first | (with_reducible assumption) | assumption) : (t310.length : Int).toNat ≤ 70368744177664)) (by omega)) (Below.refl _ _) (Nat.le_refl _) ?_; intro v317 w29 ho30 hb hg_ hnew_; clear hg_ hnew_; (first | rw [← Ny316.out] at ho30 | (simp only [Int.reduceToNat] at ho30; rw [← Ny316.out] at ho30)); have n0_ := Aside0.mk (Kd.R_elder' (by (with_reducible repeat (first | apply Kd.R_alloc | apply Kd.R_drewN | apply Kd.R_drew)); exact HO309.out) (Kd.R_base ho30) hb); have n1_ := Aside0.mk (Kd.V_elder' (by (with_reducible repeat (first | apply Kd.V_alloc | apply Kd.V_drewN | apply Kd.V_drew)); exact HO312.out) (Kd.R_base ho30) hb); have n2_ := Aside0.mk (Kd.V_elder' (by (with_reducible repeat (first | apply Kd.V_alloc | apply Kd.V_drewN | apply Kd.V_drew)); exact HO315.out) (Kd.R_base ho30) hb); have n3_ := Aside0.mk (Kd.R_lower (Kd.R_new' (Kd.R_newM (M := fun k_ => (w.heap.size ≤ k_)) ho30 (below_size (by repeat (first | (with_reducible first | exact HB.out | apply below_alloc | apply pw_below_drewN | apply below_drew1) | exact HB.out))) (fun k_ h_ => h_)) (Kd.R_lt (by (with_reducible repeat (first | apply Kd.R_alloc | apply Kd.R_drewN | apply Kd.R_drew)); exact HO309.out))) (below_size (by repeat (first | (with_reducible first | exact HB.out | apply below_alloc | apply pw_below_drewN | apply below_drew1) | exact HB.out)))); have n4_ := Aside0.mk (below_step (by repeat (first | (with_reducible first | exact HB.out | apply below_alloc | apply pw_below_drewN | apply below_drew1) | exact HB.out)) hb); clear HO309; clear HO312; clear HO315; clear HB; have HO309 := n0_; have HO312 := n1_; have HO315 := n2_; have HO318 := n3_; have HB := n4_; clear n0_ n1_ n2_ n3_ n4_; clear hb ho30))
                go_loopg [5, 11] k (fun kq v5 v11 w' => ∃ (x4_1 : List Int) (x5_1 : List Int) (x11_1 : Int), v11 = .int .i64 x11_1 ∧ Aside0 (spec_NatDiv.l0 kq x4_1 x5_1 y307 t310 t313 x11_1 = some (r1, r2)) ∧ Aside0 (kq ≤ k) ∧ Aside0 (Kd.R (Kd.int .u32) 59 w' w.heap.size (fun k_ => (w.heap.size ≤ k_) ∧ some k_ ≠ ((.slice Ao25 y307.length co25) : Value).ownBlock) v317 x4_1) ∧ Aside0 (Kd.V (Kd.int .u32) 59 w' w.heap.size (fun k_ => (w.heap.size ≤ k_) ∧ some k_ ≠ (v317 : Value).ownBlock ∧ some k_ ≠ ((.slice Ao25 y307.length co25) : Value).ownBlock) v5 x5_1) ∧ Aside0 (Kd.R (Kd.int .u32) 59 w' w.heap.size (fun k_ => (w.heap.size ≤ k_) ∧ some k_ ≠ (v317 : Value).ownBlock) (.slice Ao25 y307.length co25) y307) ∧ Aside0 (Kd.V (Kd.int .u32) 59 w' w.heap.size (fun k_ => (w.heap.size ≤ k_) ∧ some k_ ≠ (v317 : Value).ownBlock ∧ some k_ ≠ ((.slice Ao25 y307.length co25) : Value).ownBlock) (.slice Ao28 t310.length co28) t310) ∧ Aside0 (Kd.V (Kd.int .u32) 59 w' w.heap.size (fun k_ => (w.heap.size ≤ k_) ∧ some k_ ≠ (v317 : Value).ownBlock ∧ some k_ ≠ ((.slice Ao25 y307.length co25) : Value).ownBlock) v314 t313) ∧ Aside0 (Below w.heap.size w w'))
                case atStart => exact ⟨(y316), (([] : List Int)), (wrap64 ((t310.length : Int) - 1)), (by first | rfl | (simp; done) | (simp [*]; done)), H', ⟨Nat.le_refl _⟩, ⟨by (with_reducible repeat (first | apply Kd.R_alloc | apply Kd.R_drewN | apply Kd.R_drew)); exact Kd.R_mono HO318.out (fun _ hk => ⟨hk.1.1, hk.2⟩)⟩, ⟨(Kd.V_nil _ _ _ _ _)⟩, ⟨by (with_reducible repeat (first | apply Kd.R_alloc | apply Kd.R_drewN | apply Kd.R_drew)); exact Kd.R_mono HO309.out (fun _ hk => ⟨hk.1.1, hk.2⟩)⟩, ⟨by (with_reducible repeat (first | apply Kd.V_alloc | apply Kd.V_drewN | apply Kd.V_drew)); exact Kd.V_mono HO312.out (fun _ hk => ⟨hk.1.1, ⟨hk.2, hk.1.2⟩⟩)⟩, ⟨by (with_reducible repeat (first | apply Kd.V_alloc | apply Kd.V_drewN | apply Kd.V_drew)); exact Kd.V_mono HO315.out (fun _ hk => ⟨hk.1.1, ⟨hk.2, hk.1.2⟩⟩)⟩, ⟨by repeat (first | (with_reducible first | exact HB.out | apply below_alloc | apply pw_below_drewN | apply below_drew1) | exact HB.out)⟩⟩
                case round =>
                  clear H'
                  try clear c1
                  try clear c2
                  try clear p2
                  try clear q2
                  try clear hx2
                  try clear qi2
                  try clear c3
                  try clear p3
                  try clear q3
                  try clear hx3
                  try clear c4
                  try clear c4b0
                  try clear c5
                  try clear c6
                  try clear p6
                  try clear c7
                  try clear c9
                  try clear c9b0
                  try clear c9b1
                  try clear c10
                  try clear c10b0
                  try clear c10b1
                  try clear c12
                  try clear c13
                  try clear c16
                  try clear c16b0
                  try clear c17
                  try clear c17b0
                  try clear c18
                  try clear c18b0
                  try clear c18b1
                  try clear c21
                  try clear c21b0
                  try clear c21b1
                  try clear c22
                  try clear c22b0
                  try clear c22b1
                  try clear p29
                  try clear q29
                  try clear hx29
                  try clear qi29
                  try clear c30
                  try clear p30
                  try clear q30
                  try clear hx30
                  try clear hx298_0
                  try clear hx306_0
                  try clear p298
                  try clear p306
                  try clear q298
                  try clear q306
                  obtain ⟨x4_1, x5_1, x11_1, rfl, HA, HK1, HO_4, HO_5, HO_8, HO_9, HO_10, HB⟩ := hrel
                  cases gk with
                  | zero => exact absurd HA.out (by simp [spec_NatDiv.l0])
                  | succ k1 =>
                    have H := HA.out
                    clear HA
                    simp only [spec_NatDiv.l0] at H
                    by_cases c31 : x11_1 ≥ 0
                    · rw [if_pos c31] at H
                      have c31b0 : decide (0 ≤ x11_1) = true := decide_eq_true c31
                      clear c31
                      by_cases c32 : 0 ≤ x11_1
                      · rw [if_pos c32] at H
                        have c32b0 : decide (0 ≤ x11_1) = true := decide_eq_true c32
                        clear c32
                        by_cases c33 : x11_1 < (t310.length : Int)
                        · rw [if_pos c33] at H
                          have c33b0 : decide (x11_1 < (t310.length : Int)) = true := decide_eq_true c33
                          clear c33
                          obtain ⟨y328, hy328⟩ : ∃ y_ : List Int, y_ = (([rd t310 x11_1] : List Int)) := ⟨_, rfl⟩
                          replace H : (if y328.length + x5_1.length < 35184372088832 then ((spec_natTrim.f k1 (y328 ++ x5_1)).bind fun t334 => ((spec_natGuess.f t334 t313).bind fun t337 => ((spec_NatFrom.f k1 t337).bind fun t338 => ((spec_NatMul.f k1 t313 t338).bind fun t341 => (spec_NatDiv.l1 k1 x4_1 t334 y307 t310 t313 x11_1 t337 t341))))) else (none)) = some (r1, r2) := by first | (rw [hy328]; with_reducible exact H) | (have H2_ := (Option.bind_some _ _).symm.trans H; rw [hy328]; with_reducible exact H2_) | (have H2_ := (Option.bind_some _ _).symm.trans H; with_reducible exact H2_) | with_reducible exact H | (rw [hy328]; exact H) | exact H
                          have Ny328 := Aside0.mk hy328
                          clear hy328
                          by_cases c34 : y328.length + x5_1.length < 35184372088832
                          · rw [if_pos c34] at H
                            have LMc34 := Aside0.mk c34
                            clear c34
                            obtain ⟨y331, hy331⟩ : ∃ y_ : List Int, y_ = (y328 ++ x5_1) := ⟨_, rfl⟩
                            replace H : ((spec_natTrim.f k1 y331).bind fun t334 => ((spec_natGuess.f t334 t313).bind fun t337 => ((spec_NatFrom.f k1 t337).bind fun t338 => ((spec_NatMul.f k1 t313 t338).bind fun t341 => (spec_NatDiv.l1 k1 x4_1 t334 y307 t310 t313 x11_1 t337 t341))))) = some (r1, r2) := by first | (rw [hy331]; with_reducible exact H) | (have H2_ := (Option.bind_some _ _).symm.trans H; rw [hy331]; with_reducible exact H2_) | (have H2_ := (Option.bind_some _ _).symm.trans H; with_reducible exact H2_) | with_reducible exact H | (rw [hy331]; exact H) | exact H
                            have Ny331 := Aside0.mk hy331
                            clear hy331
                            replace H := Option.bind_eq_some_iff.mp H
                            obtain ⟨t334, A350, H⟩ := H
                            replace H : ((spec_natGuess.f t334 t313).bind fun t337 => ((spec_NatFrom.f k1 t337).bind fun t338 => ((spec_NatMul.f k1 t313 t338).bind fun t341 => (spec_NatDiv.l1 k1 x4_1 t334 y307 t310 t313 x11_1 t337 t341)))) = some (r1, r2) := H
                            have A35 := Aside0.mk A350
                            clear A350
                            replace H := Option.bind_eq_some_iff.mp H
                            obtain ⟨t337, A360, H⟩ := H
                            replace H : ((spec_NatFrom.f k1 t337).bind fun t338 => ((spec_NatMul.f k1 t313 t338).bind fun t341 => (spec_NatDiv.l1 k1 x4_1 t334 y307 t310 t313 x11_1 t337 t341))) = some (r1, r2) := H
                            have A36 := Aside0.mk A360
                            clear A360
                            replace H := Option.bind_eq_some_iff.mp H
                            obtain ⟨t338, A370, H⟩ := H
                            replace H : ((spec_NatMul.f k1 t313 t338).bind fun t341 => (spec_NatDiv.l1 k1 x4_1 t334 y307 t310 t313 x11_1 t337 t341)) = some (r1, r2) := H
                            have A37 := Aside0.mk A370
                            clear A370
                            replace H := Option.bind_eq_some_iff.mp H
                            obtain ⟨t341, A380, H⟩ := H
                            replace H : (spec_NatDiv.l1 k1 x4_1 t334 y307 t310 t313 x11_1 t337 t341) = some (r1, r2) := H
                            have A38 := Aside0.mk A380
                            clear A380
                            have H' := Aside0.mk H
                            clear H
                            have p327 : 0 ≤ (x11_1 : Int) := of_decide_eq_true (by first | (with_reducible assumption) | assumption)
                            have q327 : x11_1 < (t310.length : Int) := of_decide_eq_true (by first | (with_reducible assumption) | assumption)
                            obtain ⟨ad327, e327, hx327_0⟩ := Kd.at_int (Kd.V_reads' HO_9.out).2.2 x11_1 p327 q327
                            cases e327
                            replace p327 := eq_true p327
                            replace q327 := eq_true q327
                            go_wp2_with (first | ((with_reducible refine gate_dst (N := 67) rfl ?_); refine Kd.R_lit (Kd.int .u32) _ 59 ?hg (N := 67) ?hd (xs := ([rd t310 x11_1] : List Int)) (inner := [.int .u32 (rd t310 x11_1)]) (ok := fun _ => True) (okp := fun _ => True) ?hr ?hp (fun _ hk => hk) trivial (Below.refl _ _) (Nat.le_refl _) (by simp) ?_; (case hd => rfl); (case hg => rfl); (case hr => first | (go_simp; done) | (go_simp; rfl)); (case hp => exact (Reps.one (show Kd.M (Kd.int .u32) _ _ _ (rd t310 x11_1) [.int .u32 (rd t310 x11_1)] from rfl) (Reps.none _ _))); intro v329 w39 ho40 hb hg_ hnew_; clear hg_ hnew_; (first | rw [← Ny328.out] at ho40 | (simp only [Int.reduceToNat] at ho40; rw [← Ny328.out] at ho40)); have n0_ := Aside0.mk (Kd.R_elder' (by (with_reducible repeat (first | apply Kd.R_alloc | apply Kd.R_drewN | apply Kd.R_drew)); exact HO_4.out) (Kd.R_base ho40) hb); have n1_ := Aside0.mk (Kd.V_elder' (by (with_reducible repeat (first | apply Kd.V_alloc | apply Kd.V_drewN | apply Kd.V_drew)); exact HO_5.out) (Kd.R_base ho40) hb); have n2_ := Aside0.mk (Kd.R_elder' (by (with_reducible repeat (first | apply Kd.R_alloc | apply Kd.R_drewN | apply Kd.R_drew)); exact HO_8.out) (Kd.R_base ho40) hb); have n3_ := Aside0.mk (Kd.V_elder' (by (with_reducible repeat (first | apply Kd.V_alloc | apply Kd.V_drewN | apply Kd.V_drew)); exact HO_9.out) (Kd.R_base ho40) hb); have n4_ := Aside0.mk (Kd.V_elder' (by (with_reducible repeat (first | apply Kd.V_alloc | apply Kd.V_drewN | apply Kd.V_drew)); exact HO_10.out) (Kd.R_base ho40) hb); have n5_ := Aside0.mk (Kd.R_lower (Kd.R_new' (Kd.R_new' (Kd.R_newM (M := fun k_ => (w.heap.size ≤ k_)) ho40 (below_size (by repeat (first | (with_reducible first | exact HB.out | apply below_alloc | apply pw_below_drewN | apply below_drew1) | exact HB.out))) (fun k_ h_ => h_)) (Kd.R_lt (by (with_reducible repeat (first | apply Kd.R_alloc | apply Kd.R_drewN | apply Kd.R_drew)); exact HO_4.out))) (Kd.R_lt (by (with_reducible repeat (first | apply Kd.R_alloc | apply Kd.R_drewN | apply Kd.R_drew)); exact HO_8.out))) (below_size (by repeat (first | (with_reducible first | exact HB.out | apply below_alloc | apply pw_below_drewN | apply below_drew1) | exact HB.out)))); have n6_ := Aside0.mk (below_step (by repeat (first | (with_reducible first | exact HB.out | apply below_alloc | apply pw_below_drewN | apply below_drew1) | exact HB.out)) hb); clear HO_4; clear HO_5; clear HO_8; clear HO_9; clear HO_10; clear HB; have HO_4 := n0_; have HO_5 := n1_; have HO_8 := n2_; have HO_9 := n3_; have HO_10 := n4_; have HO330 := n5_; have HB := n6_; clear n0_ n1_ n2_ n3_ n4_ n5_ n6_; clear hb ho40; obtain ⟨Ao42, co42, eo42⟩ := Kd.V_slice HO_5.out; subst eo42) | ((with_reducible refine gate_builtin (b := .append) (xs := #[.tmp 67, .tmp 68]) rfl ?_); at_builtin; refine Kd.R_append_rows (Kd.int .u32) (w0 := w) w.heap.size rfl (.tmp 67) (.tmp 68) 28 59 (.int .u32 0) 4 rfl Tryd.underlying28 info59 rfl (by decide) (by omega) v329 y328 x5_1 _ _ _ (fun k_ => (w.heap.size ≤ k_) ∧ some k_ ≠ (v317 : Value).ownBlock ∧ some k_ ≠ (.slice Ao25 y307.length co25 : Value).ownBlock) (fun _ => False) rfl rfl ?aO ?aR (fun _ _ h => h) (fun _ h => h.elim) ?aF ?aB ?aS ?aL ?_; (case aR => repeat (first | exact (Kd.V_reads' HO_5.out).2.2 | (with_reducible refine Kd.C_alloc ?_ _) | (with_reducible refine Kd.C_drewN ?_ _) | (with_reducible refine Kd.C_drew ?_))); (case aB => exact (by repeat (first | (with_reducible first | exact HB.out | apply below_alloc | apply pw_below_drewN | apply below_drew1) | exact HB.out))); (case aF => exact (fun k_ hk => ⟨(Nat.le_trans (below_size (by repeat (first | (with_reducible first | exact HB.out | apply below_alloc | apply pw_below_drewN | apply below_drew1) | exact HB.out))) hk), Kd.fresh' (Kd.R_lt (by (with_reducible repeat (first | apply Kd.R_alloc | apply Kd.R_drewN | apply Kd.R_drew)); exact HO_4.out)) k_ hk, Kd.fresh' (Kd.R_lt (by (with_reducible repeat (first | apply Kd.R_alloc | apply Kd.R_drewN | apply Kd.R_drew)); exact HO_8.out)) k_ hk⟩)); (case aO => exact (by (with_reducible repeat (first | apply Kd.R_alloc | apply Kd.R_drewN | apply Kd.R_drew)); exact Kd.R_mono HO330.out (fun _ hk => ⟨hk.1.1.1, ⟨hk.1.2, hk.2⟩⟩))); (case aS => exact (below_size (by repeat (first | (with_reducible first | exact HB.out | apply below_alloc | apply pw_below_drewN | apply below_drew1) | exact HB.out)))); (case aL => have := LMc34.out; omega); intro v332 w41 ho hb hg hat; rw [← Ny331.out] at ho; have n0_ := Aside0.mk (Kd.R_after (ok := (fun k_ => (w.heap.size ≤ k_) ∧ some k_ ≠ (.slice Ao25 y307.length co25 : Value).ownBlock)) (by (with_reducible repeat (first | apply Kd.R_alloc | apply Kd.R_drewN | apply Kd.R_drew)); exact HO_4.out) hg hat); have n1_ := Aside0.mk (Kd.V_afterv (ok := (fun k_ => (w.heap.size ≤ k_) ∧ some k_ ≠ (v317 : Value).ownBlock ∧ some k_ ≠ (.slice Ao25 y307.length co25 : Value).ownBlock)) (by (with_reducible repeat (first | apply Kd.V_alloc | apply Kd.V_drewN | apply Kd.V_drew)); exact HO_5.out) hg hat); have n2_ := Aside0.mk (Kd.R_after (ok := (fun k_ => (w.heap.size ≤ k_) ∧ some k_ ≠ (v317 : Value).ownBlock)) (by (with_reducible repeat (first | apply Kd.R_alloc | apply Kd.R_drewN | apply Kd.R_drew)); exact HO_8.out) hg hat); have n3_ := Aside0.mk (Kd.V_afterv (ok := (fun k_ => (w.heap.size ≤ k_) ∧ some k_ ≠ (v317 : Value).ownBlock ∧ some k_ ≠ (.slice Ao25 y307.length co25 : Value).ownBlock)) (by (with_reducible repeat (first | apply Kd.V_alloc | apply Kd.V_drewN | apply Kd.V_drew)); exact HO_9.out) hg hat); have n4_ := Aside0.mk (Kd.V_afterv (ok := (fun k_ => (w.heap.size ≤ k_) ∧ some k_ ≠ (v317 : Value).ownBlock ∧ some k_ ≠ (.slice Ao25 y307.length co25 : Value).ownBlock)) (by (with_reducible repeat (first | apply Kd.V_alloc | apply Kd.V_drewN | apply Kd.V_drew)); exact HO_10.out) hg hat); have n5_ := Aside0.mk (hb); have n6_ := Aside0.mk (ho); clear HO_4; clear HO_5; clear HO_8; clear HO_9; clear HO_10; clear HB; clear HO330; have HO_4 := n0_; have HO_5 := n1_; have HO_8 := n2_; have HO_9 := n3_; have HO_10 := n4_; have HB := n5_; have HO333 := n6_; clear n0_ n1_ n2_ n3_ n4_ n5_ n6_; clear ho hb hg hat; obtain ⟨Ao43, co43, eo43⟩ := Kd.R_slice HO333.out; subst eo43) | ((with_reducible refine gate_callee (f := 31) rfl ?_); refine goesL_ (some 70) rfl rfl Tryd.func31 (by kernel_rfl) rfl #[.slice Ao43 y331.length co43] rfl (by (try simp only [List.map_toArray, List.map_cons, List.map_nil]); first | done | rfl | (simp only [List.length_drop, List.length_take]; rfl)) ?_; (with_reducible refine (spec_natTrim.calls k1 (fun k_ => some k_ = (.slice Ao43 y331.length co43 : Value).ownBlock) _ _ y331 t334 _ ?side1 A35.out).mono ?_); (case side1 => exact Kd.R_V (Kd.R_tight rfl (HO333.out))); rintro e w44 ⟨v335, rfl, ho0, hb⟩; refine ⟨_, rfl, ?_⟩; have n0_ := Aside0.mk (Kd.R_below (by (with_reducible repeat (first | apply Kd.R_alloc | apply Kd.R_drewN | apply Kd.R_drew)); exact HO_4.out) hb); have n1_ := Aside0.mk (Kd.V_below (by (with_reducible repeat (first | apply Kd.V_alloc | apply Kd.V_drewN | apply Kd.V_drew)); exact HO_5.out) hb); have n2_ := Aside0.mk (Kd.R_below (by (with_reducible repeat (first | apply Kd.R_alloc | apply Kd.R_drewN | apply Kd.R_drew)); exact HO_8.out) hb); have n3_ := Aside0.mk (Kd.V_below (by (with_reducible repeat (first | apply Kd.V_alloc | apply Kd.V_drewN | apply Kd.V_drew)); exact HO_9.out) hb); have n4_ := Aside0.mk (Kd.V_below (by (with_reducible repeat (first | apply Kd.V_alloc | apply Kd.V_drewN | apply Kd.V_drew)); exact HO_10.out) hb); have n5_ := Aside0.mk (Kd.R_below (by (with_reducible repeat (first | apply Kd.R_alloc | apply Kd.R_drewN | apply Kd.R_drew)); exact HO333.out) hb); have n6_ := Aside0.mk (Kd.V_lower (Kd.V_mono (ok' := fun k_ => (w.heap.size ≤ k_) ∧ some k_ ≠ (v317 : Value).ownBlock ∧ some k_ ≠ (.slice Ao25 y307.length co25 : Value).ownBlock) ho0 (fun k_ hk_ => ⟨Or.elim hk_ (fun hs_ => ((HO333.out).1 k_ hs_.symm).1) (fun hn_ => (Nat.le_trans (below_size (by repeat (first | (with_reducible first | exact HB.out | apply below_alloc | apply pw_below_drewN | apply below_drew1) | exact HB.out))) hn_)), Or.elim hk_ (fun hs_ => ((HO333.out).1 k_ hs_.symm).2.1) (fun hn_ => (Kd.fresh' (Kd.R_lt (by (with_reducible repeat (first | apply Kd.R_alloc | apply Kd.R_drewN | apply Kd.R_drew)); exact HO_4.out)) k_ hn_)), Or.elim hk_ (fun hs_ => ((HO333.out).1 k_ hs_.symm).2.2) (fun hn_ => (Kd.fresh' (Kd.R_lt (by (with_reducible repeat (first | apply Kd.R_alloc | apply Kd.R_drewN | apply Kd.R_drew)); exact HO_8.out)) k_ hn_))⟩)) (below_size (by repeat (first | (with_reducible first | exact HB.out | apply below_alloc | apply pw_below_drewN | apply below_drew1) | exact HB.out)))); have n7_ := Aside0.mk (below_step (by repeat (first | (with_reducible first | exact HB.out | apply below_alloc | apply pw_below_drewN | apply below_drew1) | exact HB.out)) hb); clear HO_4; clear HO_5; clear HO_8; clear HO_9; clear HO_10; clear HO333; clear HB; have HO_4 := n0_; have HO_5 := n1_; have HO_8 := n2_; have HO_9 := n3_; have HO_10 := n4_; have HO333 := n5_; have HO336 := n6_; have HB := n7_; clear n0_ n1_ n2_ n3_ n4_ n5_ n6_ n7_; (try clear hb); (try clear hb2); (try clear hk); (try clear hi); (try clear ho0); obtain ⟨Ao45, co45, eo45⟩ := Kd.V_slice HO336.out; subst eo45; obtain ⟨Ao46, co46, eo46⟩ := Kd.V_slice HO_10.out; subst eo46) | ((with_reducible refine gate_callee (f := 72) rfl ?_); refine goesL_ (some 73) rfl rfl Tryd.func72 (by kernel_rfl) rfl #[.slice Ao45 t334.length co45, .slice Ao46 t313.length co46] rfl (by (try simp only [List.map_toArray, List.map_cons, List.map_nil]); first | done | rfl | (simp only [List.length_drop, List.length_take]; rfl)) ?_; (with_reducible refine (spec_natGuess.calls _ _ t334 _ _ t313 t337 _ ?side1 ?side2 ?side3 ?side4 A36.out).mono ?_); (case side1 => repeat (first | exact (Kd.V_reads' HO336.out).2.2 | (with_reducible refine Kd.C_alloc ?_ _) | (with_reducible refine Kd.C_drewN ?_ _) | (with_reducible refine Kd.C_drew ?_))); (case side2 => exact (Kd.V_reads' HO336.out).2.1); (case side3 => repeat (first | exact (Kd.V_reads' HO_10.out).2.2 | (with_reducible refine Kd.C_alloc ?_ _) | (with_reducible refine Kd.C_drewN ?_ _) | (with_reducible refine Kd.C_drew ?_))); (case side4 => exact (Kd.V_reads' HO_10.out).2.1); rintro e w47 ⟨rfl, hb⟩; refine ⟨_, rfl, ?_⟩; have n0_ := Aside0.mk (Kd.R_below (by (with_reducible repeat (first | apply Kd.R_alloc | apply Kd.R_drewN | apply Kd.R_drew)); exact HO_4.out) hb); have n1_ := Aside0.mk (Kd.V_below (by (with_reducible repeat (first | apply Kd.V_alloc | apply Kd.V_drewN | apply Kd.V_drew)); exact HO_5.out) hb); have n2_ := Aside0.mk (Kd.R_below (by (with_reducible repeat (first | apply Kd.R_alloc | apply Kd.R_drewN | apply Kd.R_drew)); exact HO_8.out) hb); have n3_ := Aside0.mk (Kd.V_below (by (with_reducible repeat (first | apply Kd.V_alloc | apply Kd.V_drewN | apply Kd.V_drew)); exact HO_9.out) hb); have n4_ := Aside0.mk (Kd.V_below (by (with_reducible repeat (first | apply Kd.V_alloc | apply Kd.V_drewN | apply Kd.V_drew)); exact HO_10.out) hb); have n5_ := Aside0.mk (Kd.R_below (by (with_reducible repeat (first | apply Kd.R_alloc | apply Kd.R_drewN | apply Kd.R_drew)); exact HO333.out) hb); have n6_ := Aside0.mk (Kd.V_below (by (with_reducible repeat (first | apply Kd.V_alloc | apply Kd.V_drewN | apply Kd.V_drew)); exact HO336.out) hb); have n7_ := Aside0.mk (below_step (by repeat (first | (with_reducible first | exact HB.out | apply below_alloc | apply pw_below_drewN | apply below_drew1) | exact HB.out)) hb); clear HO_4; clear HO_5; clear HO_8; clear HO_9; clear HO_10; clear HO333; clear HO336; clear HB; have HO_4 := n0_; have HO_5 := n1_; have HO_8 := n2_; have HO_9 := n3_; have HO_10 := n4_; have HO333 := n5_; have HO336 := n6_; have HB := n7_; clear n0_ n1_ n2_ n3_ n4_ n5_ n6_ n7_; (try clear hb); (try clear hb2); (try clear hk); (try clear hi)) | ((with_reducible refine gate_callee (f := 13) rfl ?_); refine goesL_ (some 76) rfl rfl Tryd.func13 (by kernel_rfl) rfl #[.int .u64 t337] rfl (by (try simp only [List.map_toArray, List.map_cons, List.map_nil]); first | done | rfl | (simp only [List.length_drop, List.length_take]; rfl)) ?_; (with_reducible refine (spec_NatFrom.calls k1 t337 t338 _ A37.out).mono ?_); rintro e w48 ⟨v339, rfl, ho0, hb⟩; refine ⟨_, rfl, ?_⟩; have n0_ := Aside0.mk (Kd.R_elder' (by (with_reducible repeat (first | apply Kd.R_alloc | apply Kd.R_drewN | apply Kd.R_drew)); exact HO_4.out) (Kd.R_base ho0) hb); have n1_ := Aside0.mk (Kd.V_elder' (by (with_reducible repeat (first | apply Kd.V_alloc | apply Kd.V_drewN | apply Kd.V_drew)); exact HO_5.out) (Kd.R_base ho0) hb); have n2_ := Aside0.mk (Kd.R_elder' (by (with_reducible repeat (first | apply Kd.R_alloc | apply Kd.R_drewN | apply Kd.R_drew)); exact HO_8.out) (Kd.R_base ho0) hb); have n3_ := Aside0.mk (Kd.V_elder' (by (with_reducible repeat (first | apply Kd.V_alloc | apply Kd.V_drewN | apply Kd.V_drew)); exact HO_9.out) (Kd.R_base ho0) hb); have n4_ := Aside0.mk (Kd.V_elder' (by (with_reducible repeat (first | apply Kd.V_alloc | apply Kd.V_drewN | apply Kd.V_drew)); exact HO_10.out) (Kd.R_base ho0) hb); have n5_ := Aside0.mk (Kd.R_elder' (by (with_reducible repeat (first | apply Kd.R_alloc | apply Kd.R_drewN | apply Kd.R_drew)); exact HO333.out) (Kd.R_base ho0) hb); have n6_ := Aside0.mk (Kd.V_elder' (by (with_reducible repeat (first | apply Kd.V_alloc | apply Kd.V_drewN | apply Kd.V_drew)); exact HO336.out) (Kd.R_base ho0) hb); have n7_ := Aside0.mk (Kd.R_lower (Kd.R_new' (Kd.R_new' (Kd.R_new' (Kd.R_newM (M := fun k_ => (w.heap.size ≤ k_)) ho0 (below_size (by repeat (first | (with_reducible first | exact HB.out | apply below_alloc | apply pw_below_drewN | apply below_drew1) | exact HB.out))) (fun k_ h_ => h_)) (Kd.R_lt (by (with_reducible repeat (first | apply Kd.R_alloc | apply Kd.R_drewN | apply Kd.R_drew)); exact HO_4.out))) (Kd.R_lt (by (with_reducible repeat (first | apply Kd.R_alloc | apply Kd.R_drewN | apply Kd.R_drew)); exact HO_8.out))) (Kd.R_lt (by (with_reducible repeat (first | apply Kd.R_alloc | apply Kd.R_drewN | apply Kd.R_drew)); exact HO333.out))) (below_size (by repeat (first | (with_reducible first | exact HB.out | apply below_alloc | apply pw_below_drewN | apply below_drew1) | exact HB.out)))); have n8_ := Aside0.mk (below_step (by repeat (first | (with_reducible first | exact HB.out | apply below_alloc | apply pw_below_drewN | apply below_drew1) | exact HB.out)) hb); clear HO_4; clear HO_5; clear HO_8; clear HO_9; clear HO_10; clear HO333; clear HO336; clear HB; have HO_4 := n0_; have HO_5 := n1_; have HO_8 := n2_; have HO_9 := n3_; have HO_10 := n4_; have HO333 := n5_; have HO336 := n6_; have HO340 := n7_; have HB := n8_; clear n0_ n1_ n2_ n3_ n4_ n5_ n6_ n7_ n8_; (try clear hb); (try clear hb2); (try clear hk); (try clear hi); (try clear ho0); obtain ⟨Ao49, co49, eo49⟩ := Kd.R_slice HO340.out; subst eo49) | ((with_reducible refine gate_callee (f := 12) rfl ?_); refine goesL_ (some 77) rfl rfl Tryd.func12 (by kernel_rfl) rfl #[.slice Ao46 t313.length co46, .slice Ao49 t338.length co49] rfl (by (try simp only [List.map_toArray, List.map_cons, List.map_nil]); first | done | rfl | (simp only [List.length_drop, List.length_take]; rfl)) ?_; (with_reducible refine (spec_NatMul.calls k1 _ _ t313 _ _ t338 t341 _ ?side1 ?side2 ?side3 ?side4 A38.out).mono ?_); (case side1 => repeat (first | exact (Kd.V_reads' HO_10.out).2.2 | (with_reducible refine Kd.C_alloc ?_ _) | (with_reducible refine Kd.C_drewN ?_ _) | (with_reducible refine Kd.C_drew ?_))); (case side2 => exact (Kd.V_reads' HO_10.out).2.1); (case side3 => repeat (first | exact (Kd.R_reads' HO340.out).2.2 | (with_reducible refine Kd.C_alloc ?_ _) | (with_reducible refine Kd.C_drewN ?_ _) | (with_reducible refine Kd.C_drew ?_))); (case side4 => exact (Kd.R_reads' HO340.out).2.1); rintro e w50 ⟨v342, rfl, ho0, hb⟩; refine ⟨_, rfl, ?_⟩; have n0_ := Aside0.mk (Kd.R_below (by (with_reducible repeat (first | apply Kd.R_alloc | apply Kd.R_drewN | apply Kd.R_drew)); exact HO_4.out) hb); have n1_ := Aside0.mk (Kd.V_below (by (with_reducible repeat (first | apply Kd.V_alloc | apply Kd.V_drewN | apply Kd.V_drew)); exact HO_5.out) hb); have n2_ := Aside0.mk (Kd.R_below (by (with_reducible repeat (first | apply Kd.R_alloc | apply Kd.R_drewN | apply Kd.R_drew)); exact HO_8.out) hb); have n3_ := Aside0.mk (Kd.V_below (by (with_reducible repeat (first | apply Kd.V_alloc | apply Kd.V_drewN | apply Kd.V_drew)); exact HO_9.out) hb); have n4_ := Aside0.mk (Kd.V_below (by (with_reducible repeat (first | apply Kd.V_alloc | apply Kd.V_drewN | apply Kd.V_drew)); exact HO_10.out) hb); have n5_ := Aside0.mk (Kd.R_below (by (with_reducible repeat (first | apply Kd.R_alloc | apply Kd.R_drewN | apply Kd.R_drew)); exact HO333.out) hb); have n6_ := Aside0.mk (Kd.V_below (by (with_reducible repeat (first | apply Kd.V_alloc | apply Kd.V_drewN | apply Kd.V_drew)); exact HO336.out) hb); have n7_ := Aside0.mk (Kd.R_below (by (with_reducible repeat (first | apply Kd.R_alloc | apply Kd.R_drewN | apply Kd.R_drew)); exact HO340.out) hb); have n8_ := Aside0.mk (Kd.V_lower (Kd.V_mono (ok' := fun k_ => (w.heap.size ≤ k_) ∧ some k_ ≠ (v317 : Value).ownBlock ∧ some k_ ≠ (.slice Ao25 y307.length co25 : Value).ownBlock ∧ some k_ ≠ (.slice Ao43 y331.length co43 : Value).ownBlock ∧ some k_ ≠ (.slice Ao49 t338.length co49 : Value).ownBlock) ho0 (fun k_ hk_ => ⟨(Nat.le_trans (below_size (by repeat (first | (with_reducible first | exact HB.out | apply below_alloc | apply pw_below_drewN | apply below_drew1) | exact HB.out))) hk_), (Kd.fresh' (Kd.R_lt (by (with_reducible repeat (first | apply Kd.R_alloc | apply Kd.R_drewN | apply Kd.R_drew)); exact HO_4.out)) k_ hk_), (Kd.fresh' (Kd.R_lt (by (with_reducible repeat (first | apply Kd.R_alloc | apply Kd.R_drewN | apply Kd.R_drew)); exact HO_8.out)) k_ hk_), (Kd.fresh' (Kd.R_lt (by (with_reducible repeat (first | apply Kd.R_alloc | apply Kd.R_drewN | apply Kd.R_drew)); exact HO333.out)) k_ hk_), (Kd.fresh' (Kd.R_lt (by (with_reducible repeat (first | apply Kd.R_alloc | apply Kd.R_drewN | apply Kd.R_drew)); exact HO340.out)) k_ hk_)⟩)) (below_size (by repeat (first | (with_reducible first | exact HB.out | apply below_alloc | apply pw_below_drewN | apply below_drew1) | exact HB.out)))); have n9_ := Aside0.mk (below_step (by repeat (first | (with_reducible first | exact HB.out | apply below_alloc | apply pw_below_drewN | apply below_drew1) | exact HB.out)) hb); clear HO_4; clear HO_5; clear HO_8; clear HO_9; clear HO_10; clear HO333; clear HO336; clear HO340; clear HB; have HO_4 := n0_; have HO_5 := n1_; have HO_8 := n2_; have HO_9 := n3_; have HO_10 := n4_; have HO333 := n5_; have HO336 := n6_; have HO340 := n7_; have HO343 := n8_; have HB := n9_; clear n0_ n1_ n2_ n3_ n4_ n5_ n6_ n7_ n8_ n9_; (try clear hb); (try clear hb2); (try clear hk); (try clear hi); (try clear ho0)))
                            go_loopg [12, 13] k1 (fun kq v12 v13 w' => ∃ (x12_2 : Int) (x13_2 : List Int), v12 = .int .u64 x12_2 ∧ Aside0 (spec_NatDiv.l1 kq x4_1 t334 y307 t310 t313 x11_1 x12_2 x13_2 = some (r1, r2)) ∧ Aside0 (kq ≤ k1) ∧ Aside0 (Kd.R (Kd.int .u32) 59 w' w.heap.size (fun k_ => (w.heap.size ≤ k_) ∧ some k_ ≠ ((.slice Ao25 y307.length co25) : Value).ownBlock) v317 x4_1) ∧ Aside0 (Kd.V (Kd.int .u32) 59 w' w.heap.size (fun k_ => (w.heap.size ≤ k_) ∧ some k_ ≠ (v317 : Value).ownBlock ∧ some k_ ≠ ((.slice Ao25 y307.length co25) : Value).ownBlock) (.slice Ao45 t334.length co45) t334) ∧ Aside0 (Kd.R (Kd.int .u32) 59 w' w.heap.size (fun k_ => (w.heap.size ≤ k_) ∧ some k_ ≠ (v317 : Value).ownBlock) (.slice Ao25 y307.length co25) y307) ∧ Aside0 (Kd.V (Kd.int .u32) 59 w' w.heap.size (fun k_ => (w.heap.size ≤ k_) ∧ some k_ ≠ (v317 : Value).ownBlock ∧ some k_ ≠ ((.slice Ao25 y307.length co25) : Value).ownBlock) (.slice (some ad327) t310.length co28) t310) ∧ Aside0 (Kd.V (Kd.int .u32) 59 w' w.heap.size (fun k_ => (w.heap.size ≤ k_) ∧ some k_ ≠ (v317 : Value).ownBlock ∧ some k_ ≠ ((.slice Ao25 y307.length co25) : Value).ownBlock) (.slice Ao46 t313.length co46) t313) ∧ Aside0 (Kd.V (Kd.int .u32) 59 w' w.heap.size (fun k_ => (w.heap.size ≤ k_) ∧ some k_ ≠ (v317 : Value).ownBlock ∧ some k_ ≠ ((.slice Ao25 y307.length co25) : Value).ownBlock) v13 x13_2) ∧ Aside0 (Below w.heap.size w w'))
                            case atStart => exact ⟨(t337), (t341), (by first | rfl | (simp; done) | (simp [*]; done)), H', ⟨Nat.le_refl _⟩, ⟨by (with_reducible repeat (first | apply Kd.R_alloc | apply Kd.R_drewN | apply Kd.R_drew)); exact Kd.R_mono HO_4.out (fun _ hk => ⟨hk.1.1.1, hk.1.1.2⟩)⟩, ⟨by (with_reducible repeat (first | apply Kd.V_alloc | apply Kd.V_drewN | apply Kd.V_drew)); exact Kd.V_mono HO336.out (fun _ hk => ⟨hk.1.1, ⟨hk.1.2.1, hk.1.2.2⟩⟩)⟩, ⟨by (with_reducible repeat (first | apply Kd.R_alloc | apply Kd.R_drewN | apply Kd.R_drew)); exact Kd.R_mono HO_8.out (fun _ hk => ⟨hk.1.1.1, hk.1.1.2⟩)⟩, ⟨by (with_reducible repeat (first | apply Kd.V_alloc | apply Kd.V_drewN | apply Kd.V_drew)); exact Kd.V_mono HO_9.out (fun _ hk => ⟨hk.1.1.1, ⟨hk.1.1.2.1, hk.1.1.2.2⟩⟩)⟩, ⟨by (with_reducible repeat (first | apply Kd.V_alloc | apply Kd.V_drewN | apply Kd.V_drew)); exact Kd.V_mono HO_10.out (fun _ hk => ⟨hk.1.1.1, ⟨hk.1.1.2.1, hk.1.1.2.2⟩⟩)⟩, ⟨by (with_reducible repeat (first | apply Kd.V_alloc | apply Kd.V_drewN | apply Kd.V_drew)); exact Kd.V_mono HO343.out (fun _ hk => ⟨hk.1, ⟨hk.2.1, hk.2.2.1⟩⟩)⟩, ⟨by repeat (first | (with_reducible first | exact HB.out | apply below_alloc | apply pw_below_drewN | apply below_drew1) | exact HB.out)⟩⟩
                            case round =>
                              clear H'
                              try clear c1
                              try clear c2
                              try clear p2
                              try clear q2
                              try clear hx2
                              try clear qi2
                              try clear c3
                              try clear p3
                              try clear q3
                              try clear hx3
                              try clear c4
                              try clear c4b0
                              try clear c5
                              try clear c6
                              try clear p6
                              try clear c7
                              try clear c9
                              try clear c9b0
                              try clear c9b1
                              try clear c10
                              try clear c10b0
                              try clear c10b1
                              try clear c12
                              try clear c13
                              try clear c16
                              try clear c16b0
                              try clear c17
                              try clear c17b0
                              try clear c18
                              try clear c18b0
                              try clear c18b1
                              try clear c21
                              try clear c21b0
                              try clear c21b1
                              try clear c22
                              try clear c22b0
                              try clear c22b1
                              try clear p29
                              try clear q29
                              try clear hx29
                              try clear qi29
                              try clear c30
                              try clear p30
                              try clear q30
                              try clear hx30
                              try clear c31
                              try clear c31b0
                              try clear c32
                              try clear c32b0
                              try clear p32
                              try clear q32
                              try clear hx32
                              try clear c33
                              try clear c33b0
                              try clear c34
                              try clear hx298_0
                              try clear hx306_0
                              try clear hx327_0
                              try clear p2
                              try clear p29
                              try clear p298
                              try clear p3
                              try clear p30
                              try clear p306
                              try clear p327
                              try clear p6
                              try clear q2
                              try clear q29
                              try clear q298
                              try clear q3
                              try clear q30
                              try clear q306
                              try clear q327
                              obtain ⟨x12_2, x13_2, rfl, HA, HK2, HO_4, HO_5, HO_8, HO_9, HO_10, HO_13, HB⟩ := hrel
                              cases gk with
                              | zero => exact absurd HA.out (by simp [spec_NatDiv.l1])
                              | succ k2 =>
                                have H := HA.out
                                clear HA
                                simp only [spec_NatDiv.l1] at H
                                replace H := Option.bind_eq_some_iff.mp H
                                obtain ⟨t344, A510, H⟩ := H
                                replace H : (if t344 > 0 then ((spec_NatSub.f k2 x13_2 t313).bind fun t345 => (spec_NatDiv.l1 k2 x4_1 t334 y307 t310 t313 x11_1 (IntKind.u64.wrap (x12_2 - 1)) t345)) else ((spec_NatSub.f k2 t334 x13_2).bind fun t348 => (if 0 ≤ x11_1 then (if x11_1 < (x4_1.length : Int) then (spec_NatDiv.l0 k2 (x4_1.set (x11_1 : Int).toNat ((x12_2) % 4294967296)) t348 y307 t310 t313 (wrap64 (x11_1 - 1))) else (none)) else (none)))) = some (r1, r2) := H
                                have A51 := Aside0.mk A510
                                clear A510
                                by_cases c52 : t344 > 0
                                · rw [if_pos c52] at H
                                  have c52b0 : decide (0 < t344) = true := decide_eq_true c52
                                  clear c52
                                  replace H := Option.bind_eq_some_iff.mp H
                                  obtain ⟨t345, A530, H⟩ := H
                                  replace H : (spec_NatDiv.l1 k2 x4_1 t334 y307 t310 t313 x11_1 (IntKind.u64.wrap (x12_2 - 1)) t345) = some (r1, r2) := H
                                  have A53 := Aside0.mk A530
                                  clear A530
                                  have H' := Aside0.mk H
                                  clear H
                                  obtain ⟨Ao54, co54, eo54⟩ := Kd.V_slice HO_13.out
                                  subst eo54
                                  go_wp2_with (first | ((with_reducible refine gate_callee (f := 30) rfl ?_); refine goesL_ (some 80) rfl rfl Tryd.func30 (by kernel_rfl) rfl #[.slice Ao54 x13_2.length co54, .slice Ao45 t334.length co45] rfl (by (try simp only [List.map_toArray, List.map_cons, List.map_nil]); first | done | rfl | (simp only [List.length_drop, List.length_take]; rfl)) ?_; (with_reducible refine (spec_NatCmp.calls k2 _ _ x13_2 _ _ t334 t344 _ ?side1 ?side2 ?side3 ?side4 A51.out).mono ?_); (case side1 => repeat (first | exact (Kd.V_reads' HO_13.out).2.2 | (with_reducible refine Kd.C_alloc ?_ _) | (with_reducible refine Kd.C_drewN ?_ _) | (with_reducible refine Kd.C_drew ?_))); (case side2 => exact (Kd.V_reads' HO_13.out).2.1); (case side3 => repeat (first | exact (Kd.V_reads' HO_5.out).2.2 | (with_reducible refine Kd.C_alloc ?_ _) | (with_reducible refine Kd.C_drewN ?_ _) | (with_reducible refine Kd.C_drew ?_))); (case side4 => exact (Kd.V_reads' HO_5.out).2.1); rintro e w' ⟨rfl, ⟨nd, rfl⟩⟩; refine ⟨_, rfl, ?_⟩) | ((with_reducible refine gate_callee (f := 73) rfl ?_); refine goesL_ (some 86) rfl rfl Tryd.func73 (by kernel_rfl) rfl #[.slice Ao54 x13_2.length co54, .slice Ao46 t313.length co46] rfl (by (try simp only [List.map_toArray, List.map_cons, List.map_nil]); first | done | rfl | (simp only [List.length_drop, List.length_take]; rfl)) ?_; (with_reducible refine (spec_NatSub.calls k2 _ _ x13_2 _ _ t313 t345 _ ?side1 ?side2 ?side3 ?side4 A53.out).mono ?_); (case side1 => repeat (first | exact (Kd.V_reads' HO_13.out).2.2 | (with_reducible refine Kd.C_alloc ?_ _) | (with_reducible refine Kd.C_drewN ?_ _) | (with_reducible refine Kd.C_drew ?_))); (case side2 => exact (Kd.V_reads' HO_13.out).2.1); (case side3 => repeat (first | exact (Kd.V_reads' HO_10.out).2.2 | (with_reducible refine Kd.C_alloc ?_ _) | (with_reducible refine Kd.C_drewN ?_ _) | (with_reducible refine Kd.C_drew ?_))); (case side4 => exact (Kd.V_reads' HO_10.out).2.1); rintro e w55 ⟨v346, rfl, ho0, hb⟩; refine ⟨_, rfl, ?_⟩; have n0_ := Aside0.mk (Kd.R_below (by (with_reducible repeat (first | apply Kd.R_alloc | apply Kd.R_drewN | apply Kd.R_drew)); exact HO_4.out) hb); have n1_ := Aside0.mk (Kd.V_below (by (with_reducible repeat (first | apply Kd.V_alloc | apply Kd.V_drewN | apply Kd.V_drew)); exact HO_5.out) hb); have n2_ := Aside0.mk (Kd.R_below (by (with_reducible repeat (first | apply Kd.R_alloc | apply Kd.R_drewN | apply Kd.R_drew)); exact HO_8.out) hb); have n3_ := Aside0.mk (Kd.V_below (by (with_reducible repeat (first | apply Kd.V_alloc | apply Kd.V_drewN | apply Kd.V_drew)); exact HO_9.out) hb); have n4_ := Aside0.mk (Kd.V_below (by (with_reducible repeat (first | apply Kd.V_alloc | apply Kd.V_drewN | apply Kd.V_drew)); exact HO_10.out) hb); have n5_ := Aside0.mk (Kd.V_below (by (with_reducible repeat (first | apply Kd.V_alloc | apply Kd.V_drewN | apply Kd.V_drew)); exact HO_13.out) hb); have n6_ := Aside0.mk (Kd.V_lower (Kd.V_mono (ok' := fun k_ => (w.heap.size ≤ k_) ∧ some k_ ≠ (v317 : Value).ownBlock ∧ some k_ ≠ (.slice Ao25 y307.length co25 : Value).ownBlock) ho0 (fun k_ hk_ => ⟨(Nat.le_trans (below_size (by repeat (first | (with_reducible first | exact HB.out | apply below_alloc | apply pw_below_drewN | apply below_drew1) | exact HB.out))) hk_), (Kd.fresh' (Kd.R_lt (by (with_reducible repeat (first | apply Kd.R_alloc | apply Kd.R_drewN | apply Kd.R_drew)); exact HO_4.out)) k_ hk_), (Kd.fresh' (Kd.R_lt (by (with_reducible repeat (first | apply Kd.R_alloc | apply Kd.R_drewN | apply Kd.R_drew)); exact HO_8.out)) k_ hk_)⟩)) (below_size (by repeat (first | (with_reducible first | exact HB.out | apply below_alloc | apply pw_below_drewN | apply below_drew1) | exact HB.out)))); have n7_ := Aside0.mk (below_step (by repeat (first | (with_reducible first | exact HB.out | apply below_alloc | apply pw_below_drewN | apply below_drew1) | exact HB.out)) hb); clear HO_4; clear HO_5; clear HO_8; clear HO_9; clear HO_10; clear HO_13; clear HB; have HO_4 := n0_; have HO_5 := n1_; have HO_8 := n2_; have HO_9 := n3_; have HO_10 := n4_; have HO_13 := n5_; have HO347 := n6_; have HB := n7_; clear n0_ n1_ n2_ n3_ n4_ n5_ n6_ n7_; (try clear hb); (try clear hb2); (try clear hk); (try clear hi); (try clear ho0)))
                                  go_roundg k2
                                  case measure => have := HK1.out; have := HK2.out; omega
                                  case rel => exact ⟨(IntKind.u64.wrap (x12_2 - 1)), (t345), (by first | rfl | (simp; done) | (simp [*]; done)), H', ⟨by have := HK1.out; have := HK2.out; omega⟩, ⟨by (with_reducible repeat (first | apply Kd.R_alloc | apply Kd.R_drewN | apply Kd.R_drew)); exact HO_4.out⟩, ⟨by (with_reducible repeat (first | apply Kd.V_alloc | apply Kd.V_drewN | apply Kd.V_drew)); exact HO_5.out⟩, ⟨by (with_reducible repeat (first | apply Kd.R_alloc | apply Kd.R_drewN | apply Kd.R_drew)); exact HO_8.out⟩, ⟨by (with_reducible repeat (first | apply Kd.V_alloc | apply Kd.V_drewN | apply Kd.V_drew)); exact HO_9.out⟩, ⟨by (with_reducible repeat (first | apply Kd.V_alloc | apply Kd.V_drewN | apply Kd.V_drew)); exact HO_10.out⟩, ⟨by (with_reducible repeat (first | apply Kd.V_alloc | apply Kd.V_drewN | apply Kd.V_drew)); exact HO347.out⟩, ⟨by repeat (first | (with_reducible first | exact HB.out | apply below_alloc | apply pw_below_drewN | apply below_drew1) | exact HB.out)⟩⟩
                                · rw [if_neg c52] at H
                                  have c52b0 : decide (0 < t344) = false := decide_eq_false c52
                                  clear c52
                                  replace H := Option.bind_eq_some_iff.mp H
                                  obtain ⟨t348, A560, H⟩ := H
                                  replace H : (if 0 ≤ x11_1 then (if x11_1 < (x4_1.length : Int) then (spec_NatDiv.l0 k2 (x4_1.set (x11_1 : Int).toNat ((x12_2) % 4294967296)) t348 y307 t310 t313 (wrap64 (x11_1 - 1))) else (none)) else (none)) = some (r1, r2) := H
                                  have A56 := Aside0.mk A560
                                  clear A560
                                  by_cases c57 : 0 ≤ x11_1
                                  · rw [if_pos c57] at H
                                    have c57b0 : decide (0 ≤ x11_1) = true := decide_eq_true c57
                                    clear c57
                                    by_cases c58 : x11_1 < (x4_1.length : Int)
                                    · rw [if_pos c58] at H
                                      have c58b0 : decide (x11_1 < (x4_1.length : Int)) = true := decide_eq_true c58
                                      clear c58
                                      obtain ⟨y351, hy351⟩ : ∃ y_ : List Int, y_ = (x4_1.set (x11_1 : Int).toNat ((x12_2) % 4294967296)) := ⟨_, rfl⟩
                                      replace H : (spec_NatDiv.l0 k2 y351 t348 y307 t310 t313 (wrap64 (x11_1 - 1))) = some (r1, r2) := by first | (rw [hy351]; with_reducible exact H) | (have H2_ := (Option.bind_some _ _).symm.trans H; rw [hy351]; with_reducible exact H2_) | (have H2_ := (Option.bind_some _ _).symm.trans H; with_reducible exact H2_) | with_reducible exact H | (rw [hy351]; exact H) | exact H
                                      have Ny351 := Aside0.mk hy351
                                      clear hy351
                                      have H' := Aside0.mk H
                                      clear H
                                      obtain ⟨Ao60, co60, eo60⟩ := Kd.V_slice HO_13.out
                                      subst eo60
                                      go_wp2_with (first | ((with_reducible refine gate_callee (f := 30) rfl ?_); refine goesL_ (some 80) rfl rfl Tryd.func30 (by kernel_rfl) rfl #[.slice Ao60 x13_2.length co60, .slice Ao45 t334.length co45] rfl (by (try simp only [List.map_toArray, List.map_cons, List.map_nil]); first | done | rfl | (simp only [List.length_drop, List.length_take]; rfl)) ?_; (with_reducible refine (spec_NatCmp.calls k2 _ _ x13_2 _ _ t334 t344 _ ?side1 ?side2 ?side3 ?side4 A51.out).mono ?_); (case side1 => repeat (first | exact (Kd.V_reads' HO_13.out).2.2 | (with_reducible refine Kd.C_alloc ?_ _) | (with_reducible refine Kd.C_drewN ?_ _) | (with_reducible refine Kd.C_drew ?_))); (case side2 => exact (Kd.V_reads' HO_13.out).2.1); (case side3 => repeat (first | exact (Kd.V_reads' HO_5.out).2.2 | (with_reducible refine Kd.C_alloc ?_ _) | (with_reducible refine Kd.C_drewN ?_ _) | (with_reducible refine Kd.C_drew ?_))); (case side4 => exact (Kd.V_reads' HO_5.out).2.1); rintro e w' ⟨rfl, ⟨nd, rfl⟩⟩; refine ⟨_, rfl, ?_⟩; (try (rw [drewN_self wr]; generalize hq_ : World.drewN wr _ = wr; have n0_ : Aside0 (Kd.V (Kd.int .u32) 59 wr w.heap.size (fun k_ => (w.heap.size ≤ k_) ∧ some k_ ≠ (v317 : Value).ownBlock ∧ some k_ ≠ (.slice Ao25 y307.length co25 : Value).ownBlock) (.slice Ao46 t313.length co46) t313) := ⟨by rw [← hq_]; exact (by (with_reducible repeat (first | apply Kd.V_alloc | apply Kd.V_drewN | apply Kd.V_drew)); exact HO_10.out)⟩; have n1_ : Aside0 (Kd.V (Kd.int .u32) 59 wr w.heap.size (fun k_ => (w.heap.size ≤ k_) ∧ some k_ ≠ (v317 : Value).ownBlock ∧ some k_ ≠ (.slice Ao25 y307.length co25 : Value).ownBlock) (.slice Ao60 x13_2.length co60) x13_2) := ⟨by rw [← hq_]; exact (by (with_reducible repeat (first | apply Kd.V_alloc | apply Kd.V_drewN | apply Kd.V_drew)); exact HO_13.out)⟩; have n2_ : Aside0 (Kd.R (Kd.int .u32) 59 wr w.heap.size (fun k_ => (w.heap.size ≤ k_) ∧ some k_ ≠ (.slice Ao25 y307.length co25 : Value).ownBlock) v317 x4_1) := ⟨by rw [← hq_]; exact (by (with_reducible repeat (first | apply Kd.R_alloc | apply Kd.R_drewN | apply Kd.R_drew)); exact HO_4.out)⟩; have n3_ : Aside0 (Kd.V (Kd.int .u32) 59 wr w.heap.size (fun k_ => (w.heap.size ≤ k_) ∧ some k_ ≠ (v317 : Value).ownBlock ∧ some k_ ≠ (.slice Ao25 y307.length co25 : Value).ownBlock) (.slice Ao45 t334.length co45) t334) := ⟨by rw [← hq_]; exact (by (with_reducible repeat (first | apply Kd.V_alloc | apply Kd.V_drewN | apply Kd.V_drew)); exact HO_5.out)⟩; have n4_ : Aside0 (Kd.R (Kd.int .u32) 59 wr w.heap.size (fun k_ => (w.heap.size ≤ k_) ∧ some k_ ≠ (v317 : Value).ownBlock) (.slice Ao25 y307.length co25) y307) := ⟨by rw [← hq_]; exact (by (with_reducible repeat (first | apply Kd.R_alloc | apply Kd.R_drewN | apply Kd.R_drew)); exact HO_8.out)⟩; have n5_ : Aside0 (Kd.V (Kd.int .u32) 59 wr w.heap.size (fun k_ => (w.heap.size ≤ k_) ∧ some k_ ≠ (v317 : Value).ownBlock ∧ some k_ ≠ (.slice Ao25 y307.length co25 : Value).ownBlock) (.slice (some ad327) t310.length co28) t310) := ⟨by rw [← hq_]; exact (by (with_reducible repeat (first | apply Kd.V_alloc | apply Kd.V_drewN | apply Kd.V_drew)); exact HO_9.out)⟩; have n6_ : Aside0 (Below w.heap.size w wr) := ⟨by rw [← hq_]; exact (by repeat (first | (with_reducible first | exact HB.out | apply below_alloc | apply pw_below_drewN | apply below_drew1) | exact HB.out))⟩; clear HO_10 HO_13 HO_4 HO_5 HO_8 HO_9 HB hq_; have HO_10 := n0_; have HO_13 := n1_; have HO_4 := n2_; have HO_5 := n3_; have HO_8 := n4_; have HO_9 := n5_; have HB := n6_; clear n0_ n1_ n2_ n3_ n4_ n5_ n6_))) | ((with_reducible refine gate_callee (f := 73) rfl ?_); refine goesL_ (some 91) rfl rfl Tryd.func73 (by kernel_rfl) rfl #[.slice Ao45 t334.length co45, .slice Ao60 x13_2.length co60] rfl (by (try simp only [List.map_toArray, List.map_cons, List.map_nil]); first | done | rfl | (simp only [List.length_drop, List.length_take]; rfl)) ?_; (with_reducible refine (spec_NatSub.calls k2 _ _ t334 _ _ x13_2 t348 _ ?side1 ?side2 ?side3 ?side4 A56.out).mono ?_); (case side1 => repeat (first | exact (Kd.V_reads' HO_5.out).2.2 | (with_reducible refine Kd.C_alloc ?_ _) | (with_reducible refine Kd.C_drewN ?_ _) | (with_reducible refine Kd.C_drew ?_))); (case side2 => exact (Kd.V_reads' HO_5.out).2.1); (case side3 => repeat (first | exact (Kd.V_reads' HO_13.out).2.2 | (with_reducible refine Kd.C_alloc ?_ _) | (with_reducible refine Kd.C_drewN ?_ _) | (with_reducible refine Kd.C_drew ?_))); (case side4 => exact (Kd.V_reads' HO_13.out).2.1); rintro e w61 ⟨v349, rfl, ho0, hb⟩; refine ⟨_, rfl, ?_⟩; have n0_ := Aside0.mk (Kd.R_below (by (with_reducible repeat (first | apply Kd.R_alloc | apply Kd.R_drewN | apply Kd.R_drew)); exact HO_4.out) hb); have n1_ := Aside0.mk (Kd.V_below (by (with_reducible repeat (first | apply Kd.V_alloc | apply Kd.V_drewN | apply Kd.V_drew)); exact HO_5.out) hb); have n2_ := Aside0.mk (Kd.R_below (by (with_reducible repeat (first | apply Kd.R_alloc | apply Kd.R_drewN | apply Kd.R_drew)); exact HO_8.out) hb); have n3_ := Aside0.mk (Kd.V_below (by (with_reducible repeat (first | apply Kd.V_alloc | apply Kd.V_drewN | apply Kd.V_drew)); exact HO_9.out) hb); have n4_ := Aside0.mk (Kd.V_below (by (with_reducible repeat (first | apply Kd.V_alloc | apply Kd.V_drewN | apply Kd.V_drew)); exact HO_10.out) hb); have n5_ := Aside0.mk (Kd.V_below (by (with_reducible repeat (first | apply Kd.V_alloc | apply Kd.V_drewN | apply Kd.V_drew)); exact HO_13.out) hb); have n6_ := Aside0.mk (Kd.V_lower (Kd.V_mono (ok' := fun k_ => (w.heap.size ≤ k_) ∧ some k_ ≠ (v317 : Value).ownBlock ∧ some k_ ≠ (.slice Ao25 y307.length co25 : Value).ownBlock) ho0 (fun k_ hk_ => ⟨(Nat.le_trans (below_size (by repeat (first | (with_reducible first | exact HB.out | apply below_alloc | apply pw_below_drewN | apply below_drew1) | exact HB.out))) hk_), (Kd.fresh' (Kd.R_lt (by (with_reducible repeat (first | apply Kd.R_alloc | apply Kd.R_drewN | apply Kd.R_drew)); exact HO_4.out)) k_ hk_), (Kd.fresh' (Kd.R_lt (by (with_reducible repeat (first | apply Kd.R_alloc | apply Kd.R_drewN | apply Kd.R_drew)); exact HO_8.out)) k_ hk_)⟩)) (below_size (by repeat (first | (with_reducible first | exact HB.out | apply below_alloc | apply pw_below_drewN | apply below_drew1) | exact HB.out)))); have n7_ := Aside0.mk (below_step (by repeat (first | (with_reducible first | exact HB.out | apply below_alloc | apply pw_below_drewN | apply below_drew1) | exact HB.out)) hb); clear HO_4; clear HO_5; clear HO_8; clear HO_9; clear HO_10; clear HO_13; clear HB; have HO_4 := n0_; have HO_5 := n1_; have HO_8 := n2_; have HO_9 := n3_; have HO_10 := n4_; have HO_13 := n5_; have HO350 := n6_; have HB := n7_; clear n0_ n1_ n2_ n3_ n4_ n5_ n6_ n7_; (try clear hb); (try clear hb2); (try clear hk); (try clear hi); (try clear ho0); have p59 : 0 ≤ (x11_1 : Int) := of_decide_eq_true (by first | (with_reducible assumption) | assumption); have q59 : (x11_1 : Int) < ((x4_1.length : Int) : Int) := of_decide_eq_true (by first | (with_reducible assumption) | assumption); obtain ⟨go59, co59, eo59, gb59, gl59, cl59, HG59⟩ := Kd.R_form HO_4.out (by omega); (first | cases eo59 | (injection eo59 with ea_ en_ ec_; (first | subst ea_ | (injection ea_ with ea_; subst ea_)); subst ec_; clear en_)); have GB59 := Aside0.mk gb59; have GG59 := Aside0.mk HG59; clear gb59 gl59 HG59; obtain ⟨hx59_0, hf59_0⟩ := Kd.R_celln 0 HO_4.out (x11_1 : Int) p59 q59; replace p59 := eq_true p59; replace q59 := eq_true q59; obtain ⟨hy62_, hz62_⟩ := Kd.R_celln 0 HO_4.out (x11_1 : Int) (of_decide_eq_true (by first | (with_reducible assumption) | assumption)) (of_decide_eq_true (by first | (with_reducible assumption) | assumption)); have HP62 := Kd.R_putg HO_4.out (x11_1 : Int) ((x12_2) % 4294967296)) | ((with_reducible refine gate_store (t := 59) (p := 94) rfl ?_); refine store_event (t := 59) (p := 94) (v := ?vo_w63) (w1 := (w61.setCell ⟨go59, (x11_1 : Int).toNat, none⟩ (.int .u32 ((x12_2) % 4294967296)))) ?hg ?ho ?hn ?hr ?_; (case ho => rfl); (case hg => rfl); (case hn => rfl); (case hr => first | (go_simp; done) | (go_simp; rfl)); intro w63 hw; have hg : w61.grownBy w63 (some go59) := (by rw [hw]; exact HP62.2); have hp_ : Kd.R (Kd.int .u32) 59 w63 w.heap.size (fun k_ => (w.heap.size ≤ k_) ∧ some k_ ≠ (.slice Ao25 y307.length co25 : Value).ownBlock) (.slice (some ⟨go59, 0, none⟩) x4_1.length co59) y351 := (by rw [hw, Ny351.out]; exact HP62.1); clear HP62; have n0_ := Aside0.mk (hp_); have n1_ := Aside0.mk (Kd.V_afterv (v := (.slice (some ⟨go59, 0, none⟩) x4_1.length co59)) (v1 := (.slice (some ⟨go59, 0, none⟩) x4_1.length co59)) (ok := (fun k_ => (w.heap.size ≤ k_) ∧ some k_ ≠ (.slice Ao25 y307.length co25 : Value).ownBlock)) (by (with_reducible repeat (first | apply Kd.V_alloc | apply Kd.V_drewN | apply Kd.V_drew)); exact Kd.V_mono HO_5.out (fun _ hk => ⟨⟨hk.1, hk.2.2⟩, hk.2.1⟩)) hg (.inl rfl)); have n2_ := Aside0.mk (Kd.R_after (v := (.slice (some ⟨go59, 0, none⟩) x4_1.length co59)) (v1 := (.slice (some ⟨go59, 0, none⟩) x4_1.length co59)) (ok := (fun k_ => (w.heap.size ≤ k_))) (by (with_reducible repeat (first | apply Kd.R_alloc | apply Kd.R_drewN | apply Kd.R_drew)); exact HO_8.out) hg (.inl rfl)); have n3_ := Aside0.mk (Kd.V_afterv (v := (.slice (some ⟨go59, 0, none⟩) x4_1.length co59)) (v1 := (.slice (some ⟨go59, 0, none⟩) x4_1.length co59)) (ok := (fun k_ => (w.heap.size ≤ k_) ∧ some k_ ≠ (.slice Ao25 y307.length co25 : Value).ownBlock)) (by (with_reducible repeat (first | apply Kd.V_alloc | apply Kd.V_drewN | apply Kd.V_drew)); exact Kd.V_mono HO_9.out (fun _ hk => ⟨⟨hk.1, hk.2.2⟩, hk.2.1⟩)) hg (.inl rfl)); have n4_ := Aside0.mk (Kd.V_afterv (v := (.slice (some ⟨go59, 0, none⟩) x4_1.length co59)) (v1 := (.slice (some ⟨go59, 0, none⟩) x4_1.length co59)) (ok := (fun k_ => (w.heap.size ≤ k_) ∧ some k_ ≠ (.slice Ao25 y307.length co25 : Value).ownBlock)) (by (with_reducible repeat (first | apply Kd.V_alloc | apply Kd.V_drewN | apply Kd.V_drew)); exact Kd.V_mono HO_10.out (fun _ hk => ⟨⟨hk.1, hk.2.2⟩, hk.2.1⟩)) hg (.inl rfl)); have n5_ := Aside0.mk (Kd.V_afterv (v := (.slice (some ⟨go59, 0, none⟩) x4_1.length co59)) (v1 := (.slice (some ⟨go59, 0, none⟩) x4_1.length co59)) (ok := (fun k_ => (w.heap.size ≤ k_) ∧ some k_ ≠ (.slice Ao25 y307.length co25 : Value).ownBlock)) (by (with_reducible repeat (first | apply Kd.V_alloc | apply Kd.V_drewN | apply Kd.V_drew)); exact Kd.V_mono HO_13.out (fun _ hk => ⟨⟨hk.1, hk.2.2⟩, hk.2.1⟩)) hg (.inl rfl)); have n6_ := Aside0.mk (Kd.V_afterv (v := (.slice (some ⟨go59, 0, none⟩) x4_1.length co59)) (v1 := (.slice (some ⟨go59, 0, none⟩) x4_1.length co59)) (ok := (fun k_ => (w.heap.size ≤ k_) ∧ some k_ ≠ (.slice Ao25 y307.length co25 : Value).ownBlock)) (by (with_reducible repeat (first | apply Kd.V_alloc | apply Kd.V_drewN | apply Kd.V_drew)); exact Kd.V_mono HO350.out (fun _ hk => ⟨⟨hk.1, hk.2.2⟩, hk.2.1⟩)) hg (.inl rfl)); have n7_ := Aside0.mk ((by rw [hw]; exact below_set (HB.out) GB59.out : Below w.heap.size w w63)); clear HO_4; clear HO_5; clear HO_8; clear HO_9; clear HO_10; clear HO_13; clear HO350; clear HB; have HO_4 := n0_; have HO_5 := n1_; have HO_8 := n2_; have HO_9 := n3_; have HO_10 := n4_; have HO_13 := n5_; have HO350 := n6_; have HB := n7_; clear n0_ n1_ n2_ n3_ n4_ n5_ n6_ n7_; clear hg hw hp_))
                                      go_roundg k2
                                      case measure => have := HK1.out; have := HK2.out; omega
                                      case rel => exact ⟨(y351), (t348), (wrap64 (x11_1 - 1)), (by first | rfl | (simp; done) | (simp [*]; done)), H', ⟨by have := HK1.out; have := HK2.out; omega⟩, ⟨by (with_reducible repeat (first | apply Kd.R_alloc | apply Kd.R_drewN | apply Kd.R_drew)); exact HO_4.out⟩, ⟨by (with_reducible repeat (first | apply Kd.V_alloc | apply Kd.V_drewN | apply Kd.V_drew)); exact Kd.V_mono HO350.out (fun _ hk => ⟨hk.1.1, ⟨hk.2, hk.1.2⟩⟩)⟩, ⟨by (with_reducible repeat (first | apply Kd.R_alloc | apply Kd.R_drewN | apply Kd.R_drew)); exact HO_8.out⟩, ⟨by (with_reducible repeat (first | apply Kd.V_alloc | apply Kd.V_drewN | apply Kd.V_drew)); exact Kd.V_mono HO_9.out (fun _ hk => ⟨hk.1.1, ⟨hk.2, hk.1.2⟩⟩)⟩, ⟨by (with_reducible repeat (first | apply Kd.V_alloc | apply Kd.V_drewN | apply Kd.V_drew)); exact Kd.V_mono HO_10.out (fun _ hk => ⟨hk.1.1, ⟨hk.2, hk.1.2⟩⟩)⟩, ⟨by repeat (first | (with_reducible first | exact HB.out | apply below_alloc | apply pw_below_drewN | apply below_drew1) | exact HB.out)⟩⟩
                                    · rw [if_neg c58] at H
                                      exact absurd H (by simp)
                                  · rw [if_neg c57] at H
                                    exact absurd H (by simp)
                          · rw [if_neg c34] at H
                            exact absurd H (by simp)
                        · rw [if_neg c33] at H
                          exact absurd H (by simp)
                      · rw [if_neg c32] at H
                        exact absurd H (by simp)
                    · rw [if_neg c31] at H
                      have c31b0 : decide (0 ≤ x11_1) = false := decide_eq_false c31
                      clear c31
                      by_cases c64 : 0 < (y307.length : Int)
                      · rw [if_pos c64] at H
                        have c64b0 : decide (0 < (y307.length : Int)) = true := decide_eq_true c64
                        have c64b1 : decide (0 < y307.length) = true := decide_eq_true (by omega)
                        clear c64
                        replace H := Option.bind_eq_some_iff.mp H
                        obtain ⟨⟨t320, t323⟩, A650, H⟩ := H
                        replace H : ((spec_natTrim.f k1 x4_1).bind fun t324 => (some (t324, t320))) = some (r1, r2) := H
                        have A65 := Aside0.mk A650
                        clear A650
                        replace H := Option.bind_eq_some_iff.mp H
                        obtain ⟨t324, A660, H⟩ := H
                        replace H : (some (t324, t320)) = some (r1, r2) := H
                        have A66 := Aside0.mk A660
                        clear A660
                        simp only [Option.some.injEq, Prod.mk.injEq] at H
                        obtain ⟨rfl, rfl⟩ := H
                        have p319 : 0 ≤ (0 : Int) := (by omega)
                        have q319 : 0 < (y307.length : Int) := of_decide_eq_true (by first | (with_reducible assumption) | assumption)
                        obtain ⟨ad319, e319, hx319_0⟩ := Kd.at_int (Kd.R_reads' HO_8.out).2.2 0 p319 q319
                        cases e319
                        have qi319 : (0 < y307.length) = True := eq_true (by omega)
                        (try rw [show ((0 : Int)).toNat = 0 from rfl] at hx319_0)
                        (try rw [Addr.add_zero'] at hx319_0)
                        replace p319 := eq_true p319
                        replace q319 := eq_true q319
                        obtain ⟨Ao67, co67, eo67⟩ := Kd.V_slice HO_5.out
                        subst eo67
                        go_wp2_with (first | ((with_reducible refine gate_callee (f := 71) rfl ?_); refine goesL_ (some 100) rfl rfl Tryd.func71 (by kernel_rfl) rfl #[.slice Ao67 x5_1.length co67, .int .u32 (rd y307 0)] rfl (by (try simp only [List.map_toArray, List.map_cons, List.map_nil]); first | done | rfl | (simp only [List.length_drop, List.length_take]; rfl)) ?_; (with_reducible refine (spec_natShort.calls k1 _ _ x5_1 (rd y307 0) t320 t323 _ ?side1 ?side2 A65.out).mono ?_); (case side1 => repeat (first | exact (Kd.V_reads' HO_5.out).2.2 | (with_reducible refine Kd.C_alloc ?_ _) | (with_reducible refine Kd.C_drewN ?_ _) | (with_reducible refine Kd.C_drew ?_))); (case side2 => exact (Kd.V_reads' HO_5.out).2.1); rintro e w68 ⟨v321, rfl, ho0, hb⟩; refine ⟨_, rfl, ?_⟩; have n0_ := Aside0.mk (Kd.R_below (by (with_reducible repeat (first | apply Kd.R_alloc | apply Kd.R_drewN | apply Kd.R_drew)); exact HO_4.out) hb); have n1_ := Aside0.mk (Kd.V_below (by (with_reducible repeat (first | apply Kd.V_alloc | apply Kd.V_drewN | apply Kd.V_drew)); exact HO_5.out) hb); have n2_ := Aside0.mk (Kd.R_below (by (with_reducible repeat (first | apply Kd.R_alloc | apply Kd.R_drewN | apply Kd.R_drew)); exact HO_8.out) hb); have n3_ := Aside0.mk (Kd.V_below (by (with_reducible repeat (first | apply Kd.V_alloc | apply Kd.V_drewN | apply Kd.V_drew)); exact HO_9.out) hb); have n4_ := Aside0.mk (Kd.V_below (by (with_reducible repeat (first | apply Kd.V_alloc | apply Kd.V_drewN | apply Kd.V_drew)); exact HO_10.out) hb); have n5_ := Aside0.mk (Kd.V_lower (Kd.V_mono (ok' := fun k_ => (w.heap.size ≤ k_) ∧ some k_ ≠ (v317 : Value).ownBlock ∧ some k_ ≠ (.slice (some ad319) y307.length co25 : Value).ownBlock) ho0 (fun k_ hk_ => ⟨(Nat.le_trans (below_size (by repeat (first | (with_reducible first | exact HB.out | apply below_alloc | apply pw_below_drewN | apply below_drew1) | exact HB.out))) hk_), (Kd.fresh' (Kd.R_lt (by (with_reducible repeat (first | apply Kd.R_alloc | apply Kd.R_drewN | apply Kd.R_drew)); exact HO_4.out)) k_ hk_), (Kd.fresh' (Kd.R_lt (by (with_reducible repeat (first | apply Kd.R_alloc | apply Kd.R_drewN | apply Kd.R_drew)); exact HO_8.out)) k_ hk_)⟩)) (below_size (by repeat (first | (with_reducible first | exact HB.out | apply below_alloc | apply pw_below_drewN | apply below_drew1) | exact HB.out)))); have n6_ := Aside0.mk (below_step (by repeat (first | (with_reducible first | exact HB.out | apply below_alloc | apply pw_below_drewN | apply below_drew1) | exact HB.out)) hb); clear HO_4; clear HO_5; clear HO_8; clear HO_9; clear HO_10; clear HB; have HO_4 := n0_; have HO_5 := n1_; have HO_8 := n2_; have HO_9 := n3_; have HO_10 := n4_; have HO322 := n5_; have HB := n6_; clear n0_ n1_ n2_ n3_ n4_ n5_ n6_; (try clear hb); (try clear hb2); (try clear hk); (try clear hi); (try clear ho0); obtain ⟨Ao69, co69, eo69⟩ := Kd.R_slice HO_4.out; subst eo69) | ((with_reducible refine gate_callee (f := 31) rfl ?_); refine goesL_ (some 104) rfl rfl Tryd.func31 (by kernel_rfl) rfl #[.slice Ao69 x4_1.length co69] rfl (by (try simp only [List.map_toArray, List.map_cons, List.map_nil]); first | done | rfl | (simp only [List.length_drop, List.length_take]; rfl)) ?_; (with_reducible refine (spec_natTrim.calls k1 (fun k_ => some k_ = (.slice Ao69 x4_1.length co69 : Value).ownBlock) _ _ x4_1 t324 _ ?side1 A66.out).mono ?_); (case side1 => exact Kd.R_V (Kd.R_tight rfl (HO_4.out))); rintro e w70 ⟨v325, rfl, ho0, hb⟩; refine ⟨_, rfl, ?_⟩; have n0_ := Aside0.mk (Kd.R_below (by (with_reducible repeat (first | apply Kd.R_alloc | apply Kd.R_drewN | apply Kd.R_drew)); exact HO_4.out) hb); have n1_ := Aside0.mk (Kd.V_below (by (with_reducible repeat (first | apply Kd.V_alloc | apply Kd.V_drewN | apply Kd.V_drew)); exact HO_5.out) hb); have n2_ := Aside0.mk (Kd.R_below (by (with_reducible repeat (first | apply Kd.R_alloc | apply Kd.R_drewN | apply Kd.R_drew)); exact HO_8.out) hb); have n3_ := Aside0.mk (Kd.V_below (by (with_reducible repeat (first | apply Kd.V_alloc | apply Kd.V_drewN | apply Kd.V_drew)); exact HO_9.out) hb); have n4_ := Aside0.mk (Kd.V_below (by (with_reducible repeat (first | apply Kd.V_alloc | apply Kd.V_drewN | apply Kd.V_drew)); exact HO_10.out) hb); have n5_ := Aside0.mk (Kd.V_below (by (with_reducible repeat (first | apply Kd.V_alloc | apply Kd.V_drewN | apply Kd.V_drew)); exact HO322.out) hb); have n6_ := Aside0.mk (Kd.V_lower (Kd.V_mono (ok' := fun k_ => (w.heap.size ≤ k_) ∧ some k_ ≠ (.slice (some ad319) y307.length co25 : Value).ownBlock) ho0 (fun k_ hk_ => ⟨Or.elim hk_ (fun hs_ => ((HO_4.out).1 k_ hs_.symm).1) (fun hn_ => (Nat.le_trans (below_size (by repeat (first | (with_reducible first | exact HB.out | apply below_alloc | apply pw_below_drewN | apply below_drew1) | exact HB.out))) hn_)), Or.elim hk_ (fun hs_ => ((HO_4.out).1 k_ hs_.symm).2) (fun hn_ => (Kd.fresh' (Kd.R_lt (by (with_reducible repeat (first | apply Kd.R_alloc | apply Kd.R_drewN | apply Kd.R_drew)); exact HO_8.out)) k_ hn_))⟩)) (below_size (by repeat (first | (with_reducible first | exact HB.out | apply below_alloc | apply pw_below_drewN | apply below_drew1) | exact HB.out)))); have n7_ := Aside0.mk (below_step (by repeat (first | (with_reducible first | exact HB.out | apply below_alloc | apply pw_below_drewN | apply below_drew1) | exact HB.out)) hb); clear HO_4; clear HO_5; clear HO_8; clear HO_9; clear HO_10; clear HO322; clear HB; have HO_4 := n0_; have HO_5 := n1_; have HO_8 := n2_; have HO_9 := n3_; have HO_10 := n4_; have HO322 := n5_; have HO326 := n6_; have HB := n7_; clear n0_ n1_ n2_ n3_ n4_ n5_ n6_ n7_; (try clear hb); (try clear hb2); (try clear hk); (try clear hi); (try clear ho0)))
                        go_ret2
                        exact ⟨_, _, by first | rfl | (simp [errW_none, errW_some] <;> rfl) | (simp only [← hji15]; first | rfl | (simp [errW_none, errW_some] <;> rfl)) | (simp [*, errW_none, errW_some] <;> rfl), by (with_reducible repeat (first | apply Kd.V_alloc | apply Kd.V_drewN | apply Kd.V_drew)); exact Kd.V_mono HO326.out (fun _ hk => hk.1), by (with_reducible repeat (first | apply Kd.V_alloc | apply Kd.V_drewN | apply Kd.V_drew)); exact Kd.V_mono HO322.out (fun _ hk => hk.1), by repeat (first | (with_reducible first | exact HB.out | apply below_alloc | apply pw_below_drewN | apply below_drew1) | exact HB.out)⟩
                      · rw [if_neg c64] at H
                        exact absurd H (by simp)
              · rw [if_neg c22] at H
                exact absurd H (by simp)
            · rw [if_neg c21] at H
              exact absurd H (by simp)
        · rw [if_neg c17] at H
          exact absurd H (by simp)
      · rw [if_neg c16] at H
        exact absurd H (by simp)


end Go.Proofs.YtcgdphciepdkiaaDoor.S
