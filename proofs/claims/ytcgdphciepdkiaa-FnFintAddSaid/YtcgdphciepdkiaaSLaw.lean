/- CONTRACTS of laws_FnFintAdd: each as the plain function beside it. (Began as print.sh's text for this seat; the turns are those of wip/tools/split.py.) -/
import Derived.Test.YtcgdphciepdkiaaSFin
import Derived.Test.YtcgdphciepdkiaaSFrom
import Derived.Test.YtcgdphciepdkiaaSWho
import Derived.Test.YtcgdphciepdkiaaSAdd
namespace Go.Proofs.Ytcgdphciepdkiaa.S
open Go.RowKit Go.Proofs.YtcgdphciepdkiaaW.PrintWords Go.Proofs.YtcgdphciepdkiaaW.PrintLast Go.Proofs.YtcgdphciepdkiaaW.PrintMore
attribute [local go_sem] max2_int min2_int max_two min_two max_three min_three max_four min_four   -- for this text's walks alone
set_option linter.unusedVariables false
set_option linter.unusedSimpArgs false

/-! ### laws_FnFintAdd: function 3 -/
def laws_FnFintAdd.f (k : Nat) (a0 : Int) (a1 : Int) : Option (Bool) := (impl_FintAdd.f a0 a1).bind fun bt145 => ((laws_gvMost.f k (([a0, a1] : List Int))).bind fun t150 => (if t150 = true then ((spec_NatFrom.f k a0).bind fun t151 => ((spec_NatFrom.f k a1).bind fun t154 => ((spec_NatAdd.f k t151 t154).bind fun t157 => ((laws_gvWhole.f k bt145.1 bt145.2 t157).bind fun t160 => (some t160))))) else (some true)))
theorem laws_FnFintAdd.mono : ∀ a0 a1 k, LeO (laws_FnFintAdd.f k a0 a1) (laws_FnFintAdd.f (k + 1) a0 a1) := by
  intro a0 a1 k
  unfold laws_FnFintAdd.f
  repeat' first
      | (with_reducible exact laws_gvMost.mono _ _)
      | (with_reducible exact laws_gvWhole.mono _ _ _ _)
      | (with_reducible exact spec_NatAdd.mono _ _ _)
      | (with_reducible exact spec_NatFrom.mono _ _)
      | (with_reducible exact LeO.refl _)
      | (with_reducible exact LeO.none _)
      | (with_reducible refine LeO.ite ?_ ?_)
      | (with_reducible refine LeO.bind ?_ (fun _ => ?_))
      | exact laws_gvMost.mono _ _
      | exact laws_gvWhole.mono _ _ _ _
      | exact spec_NatAdd.mono _ _ _
      | exact spec_NatFrom.mono _ _
      | exact LeO.none _
      | refine LeO.ite ?_ ?_
      | refine LeO.bind ?_ (fun _ => ?_)
set_option maxHeartbeats 8000000 in
set_option maxRecDepth 100000 in
theorem laws_FnFintAdd.calls (k : Nat) (a0 : Int) (a1 : Int) (r : Bool) (w : World) (h : laws_FnFintAdd.f k a0 a1 = some r) :
    Calls Try.prog 3 #[.int .u64 a0, .int .u64 a1] w fun e w' => e = .returned (.bool r) ∧ Below w.heap.size w w' := by
  have HB := Aside0.mk (Below.refl w.heap.size w)
  have H : ((impl_FintAdd.f a0 a1).bind fun bt145 => ((laws_gvMost.f k (([a0, a1] : List Int))).bind fun t150 => (if t150 = true then ((spec_NatFrom.f k a0).bind fun t151 => ((spec_NatFrom.f k a1).bind fun t154 => ((spec_NatAdd.f k t151 t154).bind fun t157 => ((laws_gvWhole.f k bt145.1 bt145.2 t157).bind fun t160 => (some t160))))) else (some true)))) = some r := h
  clear h
  replace H := Option.bind_eq_some_iff.mp H
  obtain ⟨⟨t145, t146⟩, A30, H⟩ := H
  replace H : ((laws_gvMost.f k (([a0, a1] : List Int))).bind fun t150 => (if t150 = true then ((spec_NatFrom.f k a0).bind fun t151 => ((spec_NatFrom.f k a1).bind fun t154 => ((spec_NatAdd.f k t151 t154).bind fun t157 => ((laws_gvWhole.f k t145 t146 t157).bind fun t160 => (some t160))))) else (some true))) = some r := H
  have A3 := Aside0.mk A30
  clear A30
  obtain ⟨y147, hy147⟩ : ∃ y_ : List Int, y_ = (([a0, a1] : List Int)) := ⟨_, rfl⟩
  replace H : ((laws_gvMost.f k y147).bind fun t150 => (if t150 = true then ((spec_NatFrom.f k a0).bind fun t151 => ((spec_NatFrom.f k a1).bind fun t154 => ((spec_NatAdd.f k t151 t154).bind fun t157 => ((laws_gvWhole.f k t145 t146 t157).bind fun t160 => (some t160))))) else (some true))) = some r := by first | (rw [hy147]; with_reducible exact H) | (have H2_ := (Option.bind_some _ _).symm.trans H; rw [hy147]; with_reducible exact H2_) | (have H2_ := (Option.bind_some _ _).symm.trans H; with_reducible exact H2_) | with_reducible exact H | (rw [hy147]; exact H) | exact H
  have Ny147 := Aside0.mk hy147
  clear hy147
  replace H := Option.bind_eq_some_iff.mp H
  obtain ⟨t150, A40, H⟩ := H
  replace H : (if t150 = true then ((spec_NatFrom.f k a0).bind fun t151 => ((spec_NatFrom.f k a1).bind fun t154 => ((spec_NatAdd.f k t151 t154).bind fun t157 => ((laws_gvWhole.f k t145 t146 t157).bind fun t160 => (some t160))))) else (some true)) = some r := H
  have A4 := Aside0.mk A40
  clear A40
  by_cases c5 : t150 = true
  · subst c5
    have H1 : ((spec_NatFrom.f k a0).bind fun t151 => ((spec_NatFrom.f k a1).bind fun t154 => ((spec_NatAdd.f k t151 t154).bind fun t157 => ((laws_gvWhole.f k t145 t146 t157).bind fun t160 => (some t160))))) = some r := by rw [if_pos rfl] at H; exact H
    clear H
    have H := H1
    clear H1
    replace H := Option.bind_eq_some_iff.mp H
    obtain ⟨t151, A60, H⟩ := H
    replace H : ((spec_NatFrom.f k a1).bind fun t154 => ((spec_NatAdd.f k t151 t154).bind fun t157 => ((laws_gvWhole.f k t145 t146 t157).bind fun t160 => (some t160)))) = some r := H
    have A6 := Aside0.mk A60
    clear A60
    replace H := Option.bind_eq_some_iff.mp H
    obtain ⟨t154, A70, H⟩ := H
    replace H : ((spec_NatAdd.f k t151 t154).bind fun t157 => ((laws_gvWhole.f k t145 t146 t157).bind fun t160 => (some t160))) = some r := H
    have A7 := Aside0.mk A70
    clear A70
    replace H := Option.bind_eq_some_iff.mp H
    obtain ⟨t157, A80, H⟩ := H
    replace H : ((laws_gvWhole.f k t145 t146 t157).bind fun t160 => (some t160)) = some r := H
    have A8 := Aside0.mk A80
    clear A80
    replace H := Option.bind_eq_some_iff.mp H
    obtain ⟨t160, A90, H⟩ := H
    replace H : (some t160) = some r := H
    have A9 := Aside0.mk A90
    clear A90
    obtain rfl := Option.some.inj H
    go_enter Try.func3, Try.ntmps3
    go_wp2_with (first | ((with_reducible refine gate_callee (f := 4) rfl ?_); refine goesL_ (some 10) rfl rfl Try.func4 (by kernel_rfl) rfl #[.int .u64 a0, .int .u64 a1] rfl (by (try simp only [List.map_toArray, List.map_cons, List.map_nil]); first | done | rfl | (simp only [List.length_drop, List.length_take]; rfl)) ?_; (with_reducible refine (impl_FintAdd.calls a0 a1 t145 t146 _ A3.out).mono ?_); rintro e w' ⟨rfl, ⟨nd, rfl⟩⟩; refine ⟨_, rfl, ?_⟩) | ((with_reducible refine gate_dst (N := 15) rfl ?_); refine Kd.R_lit (Kd.int .u64) _ 22 ?hg (N := 15) ?hd (xs := ([a0, a1] : List Int)) (inner := [.int .u64 a0, .int .u64 a1]) (ok := fun _ => True) (okp := fun _ => True) ?hr ?hp (fun _ hk => hk) trivial (Below.refl _ _) (Nat.le_refl _) (by simp) ?_; (case hd => rfl); (case hg => rfl); (case hr => first | (go_simp; done) | (go_simp; rfl)); (case hp => exact (Reps.one (show Kd.M (Kd.int .u64) _ _ _ a0 [.int .u64 a0] from rfl) (Reps.one (show Kd.M (Kd.int .u64) _ _ _ a1 [.int .u64 a1] from rfl) (Reps.none _ _)))); intro v148 w10 ho11 hb hg_ hnew_; clear hg_ hnew_; (first | rw [← Ny147.out] at ho11 | (simp only [Int.reduceToNat] at ho11; rw [← Ny147.out] at ho11)); have n0_ := Aside0.mk (Kd.R_lower ho11 (below_size (by repeat (first | (with_reducible first | exact HB.out | apply below_alloc | apply pw_below_drewN | apply below_drew1) | exact HB.out)))); have n1_ := Aside0.mk (below_step (by repeat (first | (with_reducible first | exact HB.out | apply below_alloc | apply pw_below_drewN | apply below_drew1) | exact HB.out)) hb); clear HB; have HO149 := n0_; have HB := n1_; clear n0_ n1_; clear hb ho11; obtain ⟨Ao12, co12, eo12⟩ := Kd.R_slice HO149.out; subst eo12) | ((with_reducible refine gate_callee (f := 5) rfl ?_); refine goesL_ (some 16) rfl rfl Try.func5 (by kernel_rfl) rfl #[.slice Ao12 y147.length co12] rfl (by (try simp only [List.map_toArray, List.map_cons, List.map_nil]); first | done | rfl | (simp only [List.length_drop, List.length_take]; rfl)) ?_; (with_reducible refine (laws_gvMost.calls k _ _ y147 true _ ?side1 ?side2 A4.out).mono ?_); (case side1 => repeat (first | exact (Kd.R_reads' HO149.out).2.2 | (with_reducible refine Kd.C_alloc ?_ _) | (with_reducible refine Kd.C_drewN ?_ _) | (with_reducible refine Kd.C_drew ?_))); (case side2 => exact (Kd.R_reads' HO149.out).2.1); rintro e w' ⟨rfl, ⟨nd, rfl⟩⟩; refine ⟨_, rfl, ?_⟩) | (go_at_call 8; (with_reducible refine (spec_NatFrom.calls k a0 t151 _ A6.out).mono ?_); rintro e w13 ⟨v152, rfl, ho0, hb⟩; have n0_ := Aside0.mk (Kd.R_below (by (with_reducible repeat (first | apply Kd.R_alloc | apply Kd.R_drewN | apply Kd.R_drew)); exact HO149.out) hb); have n1_ := Aside0.mk (Kd.R_lower ho0 (below_size (by repeat (first | (with_reducible first | exact HB.out | apply below_alloc | apply pw_below_drewN | apply below_drew1) | exact HB.out)))); have n2_ := Aside0.mk (below_step (by repeat (first | (with_reducible first | exact HB.out | apply below_alloc | apply pw_below_drewN | apply below_drew1) | exact HB.out)) hb); clear HO149; clear HB; have HO149 := n0_; have HO153 := n1_; have HB := n2_; clear n0_ n1_ n2_; (try clear hb); (try clear hb2); (try clear hk); (try clear hi); (try clear ho0)) | (go_at_call 8; (with_reducible refine (spec_NatFrom.calls k a1 t154 _ A7.out).mono ?_); rintro e w14 ⟨v155, rfl, ho0, hb⟩; have n0_ := Aside0.mk (Kd.R_below (by (with_reducible repeat (first | apply Kd.R_alloc | apply Kd.R_drewN | apply Kd.R_drew)); exact HO149.out) hb); have n1_ := Aside0.mk (Kd.R_elder' (by (with_reducible repeat (first | apply Kd.R_alloc | apply Kd.R_drewN | apply Kd.R_drew)); exact HO153.out) (Kd.R_base ho0) hb); have n2_ := Aside0.mk (Kd.R_lower (Kd.R_new' ho0 (Kd.R_lt (by (with_reducible repeat (first | apply Kd.R_alloc | apply Kd.R_drewN | apply Kd.R_drew)); exact HO153.out))) (below_size (by repeat (first | (with_reducible first | exact HB.out | apply below_alloc | apply pw_below_drewN | apply below_drew1) | exact HB.out)))); have n3_ := Aside0.mk (below_step (by repeat (first | (with_reducible first | exact HB.out | apply below_alloc | apply pw_below_drewN | apply below_drew1) | exact HB.out)) hb); clear HO149; clear HO153; clear HB; have HO149 := n0_; have HO153 := n1_; have HO156 := n2_; have HB := n3_; clear n0_ n1_ n2_ n3_; (try clear hb); (try clear hb2); (try clear hk); (try clear hi); (try clear ho0); obtain ⟨Ao15, co15, eo15⟩ := Kd.R_slice HO153.out; subst eo15; obtain ⟨Ao16, co16, eo16⟩ := Kd.R_slice HO156.out; subst eo16) | (go_at_call 7; (with_reducible refine (spec_NatAdd.calls k _ _ t151 _ _ t154 t157 _ ?side1 ?side2 ?side3 ?side4 A8.out).mono ?_); (case side1 => repeat (first | exact (Kd.R_reads' HO153.out).2.2 | (with_reducible refine Kd.C_alloc ?_ _) | (with_reducible refine Kd.C_drewN ?_ _) | (with_reducible refine Kd.C_drew ?_))); (case side2 => exact (Kd.R_reads' HO153.out).2.1); (case side3 => repeat (first | exact (Kd.R_reads' HO156.out).2.2 | (with_reducible refine Kd.C_alloc ?_ _) | (with_reducible refine Kd.C_drewN ?_ _) | (with_reducible refine Kd.C_drew ?_))); (case side4 => exact (Kd.R_reads' HO156.out).2.1); rintro e w17 ⟨v158, rfl, ho0, hb⟩; have n0_ := Aside0.mk (Kd.R_below (by (with_reducible repeat (first | apply Kd.R_alloc | apply Kd.R_drewN | apply Kd.R_drew)); exact HO149.out) hb); have n1_ := Aside0.mk (Kd.R_elder' (by (with_reducible repeat (first | apply Kd.R_alloc | apply Kd.R_drewN | apply Kd.R_drew)); exact HO153.out) (Kd.R_base ho0) hb); have n2_ := Aside0.mk (Kd.R_elder' (by (with_reducible repeat (first | apply Kd.R_alloc | apply Kd.R_drewN | apply Kd.R_drew)); exact HO156.out) (Kd.R_base ho0) hb); have n3_ := Aside0.mk (Kd.R_lower (Kd.R_new' (Kd.R_new' ho0 (Kd.R_lt (by (with_reducible repeat (first | apply Kd.R_alloc | apply Kd.R_drewN | apply Kd.R_drew)); exact HO153.out))) (Kd.R_lt (by (with_reducible repeat (first | apply Kd.R_alloc | apply Kd.R_drewN | apply Kd.R_drew)); exact HO156.out))) (below_size (by repeat (first | (with_reducible first | exact HB.out | apply below_alloc | apply pw_below_drewN | apply below_drew1) | exact HB.out)))); have n4_ := Aside0.mk (below_step (by repeat (first | (with_reducible first | exact HB.out | apply below_alloc | apply pw_below_drewN | apply below_drew1) | exact HB.out)) hb); clear HO149; clear HO153; clear HO156; clear HB; have HO149 := n0_; have HO153 := n1_; have HO156 := n2_; have HO159 := n3_; have HB := n4_; clear n0_ n1_ n2_ n3_ n4_; (try clear hb); (try clear hb2); (try clear hk); (try clear hi); (try clear ho0); obtain ⟨Ao18, co18, eo18⟩ := Kd.R_slice HO159.out; subst eo18) | (go_at_call 6; (with_reducible refine (laws_gvWhole.calls k t145 t146 _ _ t157 t160 _ ?side1 ?side2 A9.out).mono ?_); (case side1 => repeat (first | exact (Kd.R_reads' HO159.out).2.2 | (with_reducible refine Kd.C_alloc ?_ _) | (with_reducible refine Kd.C_drewN ?_ _) | (with_reducible refine Kd.C_drew ?_))); (case side2 => exact (Kd.R_reads' HO159.out).2.1); rintro e w19 ⟨rfl, hb⟩; have n0_ := Aside0.mk (Kd.R_below (by (with_reducible repeat (first | apply Kd.R_alloc | apply Kd.R_drewN | apply Kd.R_drew)); exact HO149.out) hb); have n1_ := Aside0.mk (Kd.R_below (by (with_reducible repeat (first | apply Kd.R_alloc | apply Kd.R_drewN | apply Kd.R_drew)); exact HO153.out) hb); have n2_ := Aside0.mk (Kd.R_below (by (with_reducible repeat (first | apply Kd.R_alloc | apply Kd.R_drewN | apply Kd.R_drew)); exact HO156.out) hb); have n3_ := Aside0.mk (Kd.R_below (by (with_reducible repeat (first | apply Kd.R_alloc | apply Kd.R_drewN | apply Kd.R_drew)); exact HO159.out) hb); have n4_ := Aside0.mk (below_step (by repeat (first | (with_reducible first | exact HB.out | apply below_alloc | apply pw_below_drewN | apply below_drew1) | exact HB.out)) hb); clear HO149; clear HO153; clear HO156; clear HO159; clear HB; have HO149 := n0_; have HO153 := n1_; have HO156 := n2_; have HO159 := n3_; have HB := n4_; clear n0_ n1_ n2_ n3_ n4_; (try clear hb); (try clear hb2); (try clear hk); (try clear hi)))
    go_ret
    exact ⟨by first | rfl | (simp [errW_none, errW_some] <;> rfl) | (simp [*, errW_none, errW_some] <;> rfl), by repeat (first | (with_reducible first | exact HB.out | apply below_alloc | apply pw_below_drewN | apply below_drew1) | exact HB.out)⟩
  · replace c5 := Bool.eq_false_iff.mpr c5
    subst c5
    have H1 : (some true) = some r := by rw [if_neg (show ¬ (false = true) by decide)] at H; exact H
    clear H
    have H := H1
    clear H1
    obtain rfl := Option.some.inj H
    go_enter Try.func3, Try.ntmps3
    go_wp2_with (first | ((with_reducible refine gate_callee (f := 4) rfl ?_); refine goesL_ (some 10) rfl rfl Try.func4 (by kernel_rfl) rfl #[.int .u64 a0, .int .u64 a1] rfl (by (try simp only [List.map_toArray, List.map_cons, List.map_nil]); first | done | rfl | (simp only [List.length_drop, List.length_take]; rfl)) ?_; (with_reducible refine (impl_FintAdd.calls a0 a1 t145 t146 _ A3.out).mono ?_); rintro e w' ⟨rfl, ⟨nd, rfl⟩⟩; refine ⟨_, rfl, ?_⟩) | ((with_reducible refine gate_dst (N := 15) rfl ?_); refine Kd.R_lit (Kd.int .u64) _ 22 ?hg (N := 15) ?hd (xs := ([a0, a1] : List Int)) (inner := [.int .u64 a0, .int .u64 a1]) (ok := fun _ => True) (okp := fun _ => True) ?hr ?hp (fun _ hk => hk) trivial (Below.refl _ _) (Nat.le_refl _) (by simp) ?_; (case hd => rfl); (case hg => rfl); (case hr => first | (go_simp; done) | (go_simp; rfl)); (case hp => exact (Reps.one (show Kd.M (Kd.int .u64) _ _ _ a0 [.int .u64 a0] from rfl) (Reps.one (show Kd.M (Kd.int .u64) _ _ _ a1 [.int .u64 a1] from rfl) (Reps.none _ _)))); intro v148 w20 ho21 hb hg_ hnew_; clear hg_ hnew_; (first | rw [← Ny147.out] at ho21 | (simp only [Int.reduceToNat] at ho21; rw [← Ny147.out] at ho21)); have n0_ := Aside0.mk (Kd.R_lower ho21 (below_size (by repeat (first | (with_reducible first | exact HB.out | apply below_alloc | apply pw_below_drewN | apply below_drew1) | exact HB.out)))); have n1_ := Aside0.mk (below_step (by repeat (first | (with_reducible first | exact HB.out | apply below_alloc | apply pw_below_drewN | apply below_drew1) | exact HB.out)) hb); clear HB; have HO149 := n0_; have HB := n1_; clear n0_ n1_; clear hb ho21; obtain ⟨Ao22, co22, eo22⟩ := Kd.R_slice HO149.out; subst eo22) | ((with_reducible refine gate_callee (f := 5) rfl ?_); refine goesL_ (some 16) rfl rfl Try.func5 (by kernel_rfl) rfl #[.slice Ao22 y147.length co22] rfl (by (try simp only [List.map_toArray, List.map_cons, List.map_nil]); first | done | rfl | (simp only [List.length_drop, List.length_take]; rfl)) ?_; (with_reducible refine (laws_gvMost.calls k _ _ y147 false _ ?side1 ?side2 A4.out).mono ?_); (case side1 => repeat (first | exact (Kd.R_reads' HO149.out).2.2 | (with_reducible refine Kd.C_alloc ?_ _) | (with_reducible refine Kd.C_drewN ?_ _) | (with_reducible refine Kd.C_drew ?_))); (case side2 => exact (Kd.R_reads' HO149.out).2.1); rintro e w' ⟨rfl, ⟨nd, rfl⟩⟩; refine ⟨_, rfl, ?_⟩))
    go_ret
    exact ⟨by first | rfl | (simp [errW_none, errW_some] <;> rfl) | (simp [*, errW_none, errW_some] <;> rfl), by repeat (first | (with_reducible first | exact HB.out | apply below_alloc | apply pw_below_drewN | apply below_drew1) | exact HB.out)⟩

/-- THE ONE PURE STATEMENT of laws_FnFintAdd: yours. -/
def laws_FnFintAdd.Pure : Prop := ∀ (a0 : Int) (a1 : Int), (Lit.int .u64 a0).wf = true → (Lit.int .u64 a1).wf = true → ∃ k, laws_FnFintAdd.f k a0 a1 = some true
theorem laws_FnFintAdd.walk (P : laws_FnFintAdd.Pure) (a0 : Int) (a1 : Int) (w : World) (w0 : (Lit.int .u64 a0).wf = true) (w1 : (Lit.int .u64 a1).wf = true) :
    Calls Try.prog 3 #[.int .u64 a0, .int .u64 a1] w fun e w' => e = .returned (.bool true) ∧ Below w.heap.size w w' := by
  obtain ⟨k, h⟩ := P a0 a1 w0 w1
  refine (laws_FnFintAdd.calls k a0 a1 true w h).mono ?_
  rintro e w' ⟨rfl, hd⟩
  exact ⟨rfl, hd⟩


end Go.Proofs.Ytcgdphciepdkiaa.S
