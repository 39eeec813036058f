/- CONTRACTS of spec_SameDec: each as the plain function beside it. (Began as print.sh's text for this seat; the turns are those of wip/tools/split.py.) -/
import Derived.Test.YtghabdpbacgicaaDoorSDFr
import Derived.Test.YtghabdpbacgicaaDoorSFCmp
namespace Go.Proofs.YtghabdpbacgicaaDoor.S
open Go.RowKit Go.Proofs.YtghabdpbacgicaaDoorW.PrintWords Go.Proofs.YtghabdpbacgicaaDoorW.PrintLast Go.Proofs.YtghabdpbacgicaaDoorW.PrintMore
attribute [local go_sem] max2_int min2_int max_two min_two max_three min_three max_four min_four   -- for this text's walks alone
set_option linter.unusedVariables false
set_option linter.unusedSimpArgs false

/-! ### spec_SameDec: function 20 -/
def spec_SameDec.f (k : Nat) (a0_0 : Bool) (l0_1 : List Int) (a0_2 : Int) (a1_0 : Bool) (l1_1 : List Int) (a1_2 : Int) : Option (Bool) := (spec_Dec_Frac.f k a0_0 l0_1 a0_2).bind fun bt264 => ((spec_Dec_Frac.f k a1_0 l1_1 a1_2).bind fun bt271 => ((spec_Frac_Cmp.f k bt264.1 bt264.2.1 bt264.2.2 bt271.1 bt271.2.1 bt271.2.2).bind fun t278 => (some (t278 == 0))))
theorem spec_SameDec.mono : ∀ a0 a1 a2 a3 a4 a5 k, LeO (spec_SameDec.f k a0 a1 a2 a3 a4 a5) (spec_SameDec.f (k + 1) a0 a1 a2 a3 a4 a5) := by
  intro a0 a1 a2 a3 a4 a5 k
  unfold spec_SameDec.f
  repeat' first
      | (with_reducible exact spec_Dec_Frac.mono _ _ _ _)
      | (with_reducible exact spec_Frac_Cmp.mono _ _ _ _ _ _ _)
      | (with_reducible exact LeO.refl _)
      | (with_reducible exact LeO.none _)
      | (with_reducible refine LeO.ite ?_ ?_)
      | (with_reducible refine LeO.bind ?_ (fun _ => ?_))
      | exact spec_Dec_Frac.mono _ _ _ _
      | exact spec_Frac_Cmp.mono _ _ _ _ _ _ _
      | exact LeO.none _
      | refine LeO.ite ?_ ?_
      | refine LeO.bind ?_ (fun _ => ?_)
set_option maxHeartbeats 8000000 in
set_option maxRecDepth 100000 in
theorem spec_SameDec.calls (k : Nat) (a0_0 : Bool) (A0_1 : Option Addr) (c0_1 : Nat) (l0_1 : List Int) (a0_2 : Int) (a1_0 : Bool) (A1_1 : Option Addr) (c1_1 : Nat) (l1_1 : List Int) (a1_2 : Int) (r : Bool) (w : World) (hr0_1 : Kd.C (Kd.int .u32) w A0_1 l0_1.length l0_1) (hc0_1 : l0_1.length ≤ c0_1) (hr1_1 : Kd.C (Kd.int .u32) w A1_1 l1_1.length l1_1) (hc1_1 : l1_1.length ≤ c1_1) (h : spec_SameDec.f k a0_0 l0_1 a0_2 a1_0 l1_1 a1_2 = some r) :
    Calls Tryd.prog 20 #[.agg #[.bool a0_0, .slice A0_1 l0_1.length c0_1, .int .i64 a0_2], .agg #[.bool a1_0, .slice A1_1 l1_1.length c1_1, .int .i64 a1_2]] w fun e w' => e = .returned (.bool r) ∧ Below w.heap.size w w' := by
  have hu30 := Tryd.underlying30
  have HR0_1 := Aside0.mk hr0_1
  have HC0_1 := Aside0.mk hc0_1
  clear hr0_1 hc0_1
  have HR1_1 := Aside0.mk hr1_1
  have HC1_1 := Aside0.mk hc1_1
  clear hr1_1 hc1_1
  have HB := Aside0.mk (Below.refl w.heap.size w)
  have H : ((spec_Dec_Frac.f k a0_0 l0_1 a0_2).bind fun bt264 => ((spec_Dec_Frac.f k a1_0 l1_1 a1_2).bind fun bt271 => ((spec_Frac_Cmp.f k bt264.1 bt264.2.1 bt264.2.2 bt271.1 bt271.2.1 bt271.2.2).bind fun t278 => (some (t278 == 0))))) = some r := h
  clear h
  replace H := Option.bind_eq_some_iff.mp H
  obtain ⟨⟨t264, t265, t268⟩, A30, H⟩ := H
  replace H : ((spec_Dec_Frac.f k a1_0 l1_1 a1_2).bind fun bt271 => ((spec_Frac_Cmp.f k t264 t265 t268 bt271.1 bt271.2.1 bt271.2.2).bind fun t278 => (some (t278 == 0)))) = some r := H
  have A3 := Aside0.mk A30
  clear A30
  replace H := Option.bind_eq_some_iff.mp H
  obtain ⟨⟨t271, t272, t275⟩, A40, H⟩ := H
  replace H : ((spec_Frac_Cmp.f k t264 t265 t268 t271 t272 t275).bind fun t278 => (some (t278 == 0))) = some r := H
  have A4 := Aside0.mk A40
  clear A40
  replace H := Option.bind_eq_some_iff.mp H
  obtain ⟨t278, A50, H⟩ := H
  replace H : (some (t278 == 0)) = some r := H
  have A5 := Aside0.mk A50
  clear A50
  obtain rfl := Option.some.inj H
  go_enter Tryd.func20, Tryd.ntmps20
  try go_wp2_with (first | ((with_reducible refine gate_dst (N := 2) rfl ?_); refine box_event ?hg (N := 2) ?hd (cs := #[.bool a0_0, .slice A0_1 l0_1.length c0_1, .int .i64 a0_2]) (t := 30) ?hr ?_; (case hd => rfl); (case hg => rfl); (case hr => first | (go_simp; done) | (go_simp; rfl)); intro gb262 hg w6 hbox hb; have n0_ := Aside0.mk (below_step (by repeat (first | (with_reducible first | exact HB.out | apply below_alloc | apply pw_below_drewN | apply below_drew1) | exact HB.out)) hb); have n1_ := Aside0.mk (hbox); have n2_ := Aside0.mk ((by rw [hg]; exact (below_size (by repeat (first | (with_reducible first | exact HB.out | apply below_alloc | apply pw_below_drewN | apply below_drew1) | exact HB.out))) : w.heap.size ≤ gb262)); have n3_ := Aside0.mk ((by rw [hg]; exact (below_size (by repeat (first | (with_reducible first | exact HB.out | apply below_alloc | apply pw_below_drewN | apply below_drew1) | exact HB.out))) : w.heap.size ≤ gb262)); clear HB; have HB := n0_; have BK262 := n1_; have GW262 := n2_; have GE262 := n3_; clear n0_ n1_ n2_ n3_; clear hb hbox hg) | ((with_reducible refine gate_dst (N := 3) rfl ?_); refine box_event ?hg (N := 3) ?hd (cs := #[.bool a1_0, .slice A1_1 l1_1.length c1_1, .int .i64 a1_2]) (t := 30) ?hr ?_; (case hd => rfl); (case hg => rfl); (case hr => first | (go_simp; done) | (go_simp; rfl)); intro gb263 hg w7 hbox hb; have n0_ := Aside0.mk (blk_below (g := gb262) (o := .cells #[.bool a0_0, .slice A0_1 l0_1.length c0_1, .int .i64 a0_2] 30 (0, 0)) (by (with_reducible repeat (first | refine blk_drewN ?_ _ | refine blk_drew ?_ | refine blk_alloc ?_ _)); exact BK262.out) hb); have n1_ := Aside0.mk (below_step (by repeat (first | (with_reducible first | exact HB.out | apply below_alloc | apply pw_below_drewN | apply below_drew1 | refine below_set ?_ GE262.out) | exact HB.out)) hb); have n2_ := Aside0.mk (hbox); have n3_ := Aside0.mk ((by rw [hg]; exact (below_size (by repeat (first | (with_reducible first | exact HB.out | apply below_alloc | apply pw_below_drewN | apply below_drew1 | refine below_set ?_ GE262.out) | exact HB.out))) : w.heap.size ≤ gb263)); have n4_ := Aside0.mk ((by rw [hg]; exact (below_size (by repeat (first | (with_reducible first | exact HB.out | apply below_alloc | apply pw_below_drewN | apply below_drew1 | refine below_set ?_ GE262.out) | exact HB.out))) : w.heap.size ≤ gb263)); have n5_ := Aside0.mk ((by rw [hg]; exact Nat.ne_of_lt (blk_lt (g := gb262) (o := .cells #[.bool a0_0, .slice A0_1 l0_1.length c0_1, .int .i64 a0_2] 30 (0, 0)) (by (with_reducible repeat (first | refine blk_drewN ?_ _ | refine blk_drew ?_ | refine blk_alloc ?_ _)); exact BK262.out)) : gb262 ≠ gb263)); have n6_ := Aside0.mk ((by rw [hg]; exact Nat.ne_of_gt (blk_lt (g := gb262) (o := .cells #[.bool a0_0, .slice A0_1 l0_1.length c0_1, .int .i64 a0_2] 30 (0, 0)) (by (with_reducible repeat (first | refine blk_drewN ?_ _ | refine blk_drew ?_ | refine blk_alloc ?_ _)); exact BK262.out)) : gb263 ≠ gb262)); clear BK262; clear HB; have BK262 := n0_; have HB := n1_; have BK263 := n2_; have GW263 := n3_; have GE263 := n4_; have NB262_263 := n5_; have NB263_262 := n6_; clear n0_ n1_ n2_ n3_ n4_ n5_ n6_; clear hb hbox hg))
  have n0_ := Aside0.mk (blk_drew BK262.out)
  have n1_ := Aside0.mk (blk_drew BK263.out)
  have n2_ := Aside0.mk (below_drew1 HB.out)
  clear BK262
  clear BK263
  clear HB
  have BK262 := n0_
  have BK263 := n1_
  have HB := n2_
  clear n0_ n1_ n2_
  refine start_ (n := 7) (S := fun w' => w'.cell? ⟨gb262, 0, none⟩ = some (.bool a0_0) ∧ w'.cell? ⟨gb262, 1, none⟩ = some (.slice A0_1 l0_1.length c0_1) ∧ w'.cell? ⟨gb262, 2, none⟩ = some (.int .i64 a0_2) ∧ w'.cell? ⟨gb263, 0, none⟩ = some (.bool a1_0) ∧ w'.cell? ⟨gb263, 1, none⟩ = some (.slice A1_1 l1_1.length c1_1) ∧ w'.cell? ⟨gb263, 2, none⟩ = some (.int .i64 a1_2)) (ds := []) #[false, false, false, false, false, false, false] (by kernel_rfl) rfl rfl ⟨(blk_cell BK262.out 0).trans rfl, (blk_cell BK262.out 1).trans rfl, (blk_cell BK262.out 2).trans rfl, (blk_cell BK263.out 0).trans rfl, (blk_cell BK263.out 1).trans rfl, (blk_cell BK263.out 2).trans rfl⟩ (fun hHeld => ?_)
  generalize w7.drew = w8 at BK262 BK263 HB hHeld ⊢
  refine take_ (i := 0) (N := some 5) (v := ?_) (a' := ?_) #[true, false, false, false, false, false, false] rfl rfl (by kernel_rfl) (fun _ _ _ h => h) (Or.inl ⟨by rfl, ?_⟩) hHeld ?_ ?_
  rotate_left
  · rintro w' ⟨s0, s1, s2, s3, s4, s5⟩
    go_simp
    with_reducible rfl
  rotate_left
  · simp only [Act.put, List.setIfInBounds_toArray, List.set_cons_zero, List.set_cons_succ, i64_w, i32_w]
    rfl
  refine take_ (i := 2) (N := some 7) (v := ?_) (a' := ?_) #[true, false, true, false, false, false, false] rfl rfl (by kernel_rfl) (fun _ _ _ h => h) (Or.inl ⟨by rfl, ?_⟩) hHeld ?_ ?_
  rotate_left
  · rintro w' ⟨s0, s1, s2, s3, s4, s5⟩
    go_simp
    with_reducible rfl
  rotate_left
  · simp only [Act.put, List.setIfInBounds_toArray, List.set_cons_zero, List.set_cons_succ, i64_w, i32_w]
    rfl
  refine one_ (i := 1) (N := some 6) #[true, true, true, false, false, false, false] rfl rfl (by kernel_rfl) (by decide) (fun K hK => ?_)
  refine goes_ Tryd.func35 (by kernel_rfl) rfl #[.agg #[.bool a0_0, .slice A0_1 l0_1.length c0_1, .int .i64 a0_2]] (by rfl) rfl rfl (by (try simp only [List.map_toArray, List.map_cons, List.map_nil]); first | done | rfl | (simp only [List.length_drop, List.length_take]; rfl)) ?_
  with_reducible refine (spec_Dec_Frac.calls k a0_0 (fun k_ => k_ < w.heap.size) _ _ l0_1 a0_2 t264 t265 t268 _ ?side1 A3.out).mono ?_
  (case side1 => exact Kd.V_mk HC0_1.out (Kd.F_below (Kd.C_F (Kd.heap_int .u32) HR0_1.out) (by repeat (first | (with_reducible first | exact HB.out | apply below_alloc | apply pw_below_drewN | apply below_drew1 | refine below_set ?_ GE262.out | refine below_set ?_ GE263.out) | exact HB.out))))
  rintro e w9 ⟨v266, v269, rfl, ho0, ho1, hb⟩
  refine ⟨_, rfl, ?_⟩
  have n0_ := Aside0.mk (Kd.V_lower (Kd.V_mono (ok' := fun k_ => some k_ ≠ (v269 : Value).ownBlock ∧ k_ ≠ gb262 ∧ k_ ≠ gb263) ho0 (fun k_ hk_ => ⟨hk_.2, Or.elim hk_.1 (fun hs_ => fun e_ => Nat.not_le.2 hs_ (by rw [e_]; exact GW262.out)) (fun hn_ => (Kd.freshB (g := gb262) (o := .cells #[.bool a0_0, .slice A0_1 l0_1.length c0_1, .int .i64 a0_2] 30 (0, 0)) (by (with_reducible repeat (first | refine blk_drewN ?_ _ | refine blk_drew ?_ | refine blk_alloc ?_ _)); exact BK262.out) k_ hn_)), Or.elim hk_.1 (fun hs_ => fun e_ => Nat.not_le.2 hs_ (by rw [e_]; exact GW263.out)) (fun hn_ => (Kd.freshB (g := gb263) (o := .cells #[.bool a1_0, .slice A1_1 l1_1.length c1_1, .int .i64 a1_2] 30 (0, 0)) (by (with_reducible repeat (first | refine blk_drewN ?_ _ | refine blk_drew ?_ | refine blk_alloc ?_ _)); exact BK263.out) k_ hn_))⟩)) (below_size (by repeat (first | (with_reducible first | exact HB.out | apply below_alloc | apply pw_below_drewN | apply below_drew1 | refine below_set ?_ GE262.out | refine below_set ?_ GE263.out) | exact HB.out))))
  have n1_ := Aside0.mk (Kd.R_lower (Kd.R_mono (ok' := fun k_ => True) ho1 (fun _ hk_ => trivial)) (below_size (by repeat (first | (with_reducible first | exact HB.out | apply below_alloc | apply pw_below_drewN | apply below_drew1 | refine below_set ?_ GE262.out | refine below_set ?_ GE263.out) | exact HB.out))))
  have n2_ := Aside0.mk (blk_below (g := gb262) (o := .cells #[.bool a0_0, .slice A0_1 l0_1.length c0_1, .int .i64 a0_2] 30 (0, 0)) (by (with_reducible repeat (first | refine blk_drewN ?_ _ | refine blk_drew ?_ | refine blk_alloc ?_ _)); exact BK262.out) hb)
  have n3_ := Aside0.mk (blk_below (g := gb263) (o := .cells #[.bool a1_0, .slice A1_1 l1_1.length c1_1, .int .i64 a1_2] 30 (0, 0)) (by (with_reducible repeat (first | refine blk_drewN ?_ _ | refine blk_drew ?_ | refine blk_alloc ?_ _)); exact BK263.out) hb)
  have n4_ := Aside0.mk (below_step (by repeat (first | (with_reducible first | exact HB.out | apply below_alloc | apply pw_below_drewN | apply below_drew1 | refine below_set ?_ GE262.out | refine below_set ?_ GE263.out) | exact HB.out)) hb)
  clear BK262
  clear BK263
  clear HB
  have HO267 := n0_
  have HO270 := n1_
  have BK262 := n2_
  have BK263 := n3_
  have HB := n4_
  clear n0_ n1_ n2_ n3_ n4_
  (try clear hb)
  (try clear hb2)
  (try clear hk)
  (try clear hi)
  (try clear ho0)
  (try clear ho1)
  refine hK.out _ _ ⟨(blk_cell BK262.out 0).trans rfl, (blk_cell BK262.out 1).trans rfl, (blk_cell BK262.out 2).trans rfl, (blk_cell BK263.out 0).trans rfl, (blk_cell BK263.out 1).trans rfl, (blk_cell BK263.out 2).trans rfl⟩ (fun hHeld => ?_)
  clear hK K
  refine norm_ (a' := ?_) ?_ ?_
  rotate_left
  · show Act.put _ (some 6) _ = _
    simp only [Act.put, List.setIfInBounds_toArray, List.set_cons_zero, List.set_cons_succ, i64_w, i32_w]
    rfl
  refine one_ (i := 3) (N := some 8) #[true, true, true, true, false, false, false] rfl rfl (by kernel_rfl) (by decide) (fun K hK => ?_)
  refine goes_ Tryd.func35 (by kernel_rfl) rfl #[.agg #[.bool a1_0, .slice A1_1 l1_1.length c1_1, .int .i64 a1_2]] (by rfl) rfl rfl (by (try simp only [List.map_toArray, List.map_cons, List.map_nil]); first | done | rfl | (simp only [List.length_drop, List.length_take]; rfl)) ?_
  with_reducible refine (spec_Dec_Frac.calls k a1_0 (fun k_ => k_ < w.heap.size) _ _ l1_1 a1_2 t271 t272 t275 _ ?side1 A4.out).mono ?_
  (case side1 => exact Kd.V_mk HC1_1.out (Kd.F_below (Kd.C_F (Kd.heap_int .u32) HR1_1.out) (by repeat (first | (with_reducible first | exact HB.out | apply below_alloc | apply pw_below_drewN | apply below_drew1 | refine below_set ?_ GE262.out | refine below_set ?_ GE263.out) | exact HB.out))))
  rintro e w10 ⟨v273, v276, rfl, ho0, ho1, hb⟩
  refine ⟨_, rfl, ?_⟩
  have n0_ := Aside0.mk (Kd.V_elder' (by (with_reducible repeat (first | apply Kd.V_alloc | apply Kd.V_drewN | apply Kd.V_drew)); exact HO267.out) (Kd.R_base ho1) hb)
  have n1_ := Aside0.mk (Kd.R_elder' (by (with_reducible repeat (first | apply Kd.R_alloc | apply Kd.R_drewN | apply Kd.R_drew)); exact HO270.out) (Kd.R_base ho1) hb)
  have n2_ := Aside0.mk (Kd.V_lower (Kd.V_mono (ok' := fun k_ => some k_ ≠ (v276 : Value).ownBlock ∧ some k_ ≠ (v269 : Value).ownBlock ∧ k_ ≠ gb262 ∧ k_ ≠ gb263) ho0 (fun k_ hk_ => ⟨hk_.2, Or.elim hk_.1 (fun hs_ => fun e_ => Nat.not_le.2 hs_ (Kd.R_base HO270.out k_ e_.symm)) (fun hn_ => (Kd.fresh' (Kd.R_lt (by (with_reducible repeat (first | apply Kd.R_alloc | apply Kd.R_drewN | apply Kd.R_drew)); exact HO270.out)) k_ hn_)), Or.elim hk_.1 (fun hs_ => fun e_ => Nat.not_le.2 hs_ (by rw [e_]; exact GW262.out)) (fun hn_ => (Kd.freshB (g := gb262) (o := .cells #[.bool a0_0, .slice A0_1 l0_1.length c0_1, .int .i64 a0_2] 30 (0, 0)) (by (with_reducible repeat (first | refine blk_drewN ?_ _ | refine blk_drew ?_ | refine blk_alloc ?_ _)); exact BK262.out) k_ hn_)), Or.elim hk_.1 (fun hs_ => fun e_ => Nat.not_le.2 hs_ (by rw [e_]; exact GW263.out)) (fun hn_ => (Kd.freshB (g := gb263) (o := .cells #[.bool a1_0, .slice A1_1 l1_1.length c1_1, .int .i64 a1_2] 30 (0, 0)) (by (with_reducible repeat (first | refine blk_drewN ?_ _ | refine blk_drew ?_ | refine blk_alloc ?_ _)); exact BK263.out) k_ hn_))⟩)) (below_size (by repeat (first | (with_reducible first | exact HB.out | apply below_alloc | apply pw_below_drewN | apply below_drew1 | refine below_set ?_ GE262.out | refine below_set ?_ GE263.out) | exact HB.out))))
  have n3_ := Aside0.mk (Kd.R_lower (Kd.R_new' (Kd.R_mono (ok' := fun k_ => True) ho1 (fun _ hk_ => trivial)) (Kd.R_lt (by (with_reducible repeat (first | apply Kd.R_alloc | apply Kd.R_drewN | apply Kd.R_drew)); exact HO270.out))) (below_size (by repeat (first | (with_reducible first | exact HB.out | apply below_alloc | apply pw_below_drewN | apply below_drew1 | refine below_set ?_ GE262.out | refine below_set ?_ GE263.out) | exact HB.out))))
  have n4_ := Aside0.mk (blk_below (g := gb262) (o := .cells #[.bool a0_0, .slice A0_1 l0_1.length c0_1, .int .i64 a0_2] 30 (0, 0)) (by (with_reducible repeat (first | refine blk_drewN ?_ _ | refine blk_drew ?_ | refine blk_alloc ?_ _)); exact BK262.out) hb)
  have n5_ := Aside0.mk (blk_below (g := gb263) (o := .cells #[.bool a1_0, .slice A1_1 l1_1.length c1_1, .int .i64 a1_2] 30 (0, 0)) (by (with_reducible repeat (first | refine blk_drewN ?_ _ | refine blk_drew ?_ | refine blk_alloc ?_ _)); exact BK263.out) hb)
  have n6_ := Aside0.mk (below_step (by repeat (first | (with_reducible first | exact HB.out | apply below_alloc | apply pw_below_drewN | apply below_drew1 | refine below_set ?_ GE262.out | refine below_set ?_ GE263.out) | exact HB.out)) hb)
  clear HO267
  clear HO270
  clear BK262
  clear BK263
  clear HB
  have HO267 := n0_
  have HO270 := n1_
  have HO274 := n2_
  have HO277 := n3_
  have BK262 := n4_
  have BK263 := n5_
  have HB := n6_
  clear n0_ n1_ n2_ n3_ n4_ n5_ n6_
  (try clear hb)
  (try clear hb2)
  (try clear hk)
  (try clear hi)
  (try clear ho0)
  (try clear ho1)
  obtain ⟨Ao11, co11, eo11⟩ := Kd.V_slice HO267.out
  (first | subst eo11 | (injection eo11 with f1_ f2_ f3_; have f4_ := f1_.symm; have f5_ := f3_.symm; clear f1_ f2_ f3_; subst f4_; subst f5_))
  obtain ⟨Ao12, co12, eo12⟩ := Kd.R_slice HO270.out
  (first | subst eo12 | (injection eo12 with f1_ f2_ f3_; have f4_ := f1_.symm; have f5_ := f3_.symm; clear f1_ f2_ f3_; subst f4_; subst f5_))
  obtain ⟨Ao13, co13, eo13⟩ := Kd.V_slice HO274.out
  (first | subst eo13 | (injection eo13 with f1_ f2_ f3_; have f4_ := f1_.symm; have f5_ := f3_.symm; clear f1_ f2_ f3_; subst f4_; subst f5_))
  obtain ⟨Ao14, co14, eo14⟩ := Kd.R_slice HO277.out
  (first | subst eo14 | (injection eo14 with f1_ f2_ f3_; have f4_ := f1_.symm; have f5_ := f3_.symm; clear f1_ f2_ f3_; subst f4_; subst f5_))
  refine hK.out _ _ ⟨(blk_cell BK262.out 0).trans rfl, (blk_cell BK262.out 1).trans rfl, (blk_cell BK262.out 2).trans rfl, (blk_cell BK263.out 0).trans rfl, (blk_cell BK263.out 1).trans rfl, (blk_cell BK263.out 2).trans rfl⟩ (fun hHeld => ?_)
  clear hK K
  refine norm_ (a' := ?_) ?_ ?_
  rotate_left
  · show Act.put _ (some 8) _ = _
    simp only [Act.put, List.setIfInBounds_toArray, List.set_cons_zero, List.set_cons_succ, i64_w, i32_w]
    rfl
  refine one_ (i := 4) (N := some 9) #[true, true, true, true, true, false, false] rfl rfl (by kernel_rfl) (by decide) (fun K hK => ?_)
  refine goes_ Tryd.func36 (by kernel_rfl) rfl #[.agg #[.bool t264, .slice Ao11 t265.length co11, .slice Ao12 t268.length co12], .agg #[.bool t271, .slice Ao13 t272.length co13, .slice Ao14 t275.length co14]] (by rfl) rfl rfl (by (try simp only [List.map_toArray, List.map_cons, List.map_nil]); first | done | rfl | (simp only [List.length_drop, List.length_take]; rfl)) ?_
  with_reducible refine (spec_Frac_Cmp.calls k t264 _ _ t265 _ _ t268 t271 _ _ t272 _ _ t275 t278 _ ?side1 ?side2 ?side3 ?side4 ?side5 ?side6 ?side7 ?side8 A5.out).mono ?_
  (case side1 => repeat (first | exact (Kd.V_reads' HO267.out).2.2 | (with_reducible refine Kd.C_alloc ?_ _) | (with_reducible refine Kd.C_drewN ?_ _) | (with_reducible refine Kd.C_drew ?_)))
  (case side2 => exact (Kd.V_reads' HO267.out).2.1)
  (case side3 => repeat (first | exact (Kd.R_reads' HO270.out).2.2 | (with_reducible refine Kd.C_alloc ?_ _) | (with_reducible refine Kd.C_drewN ?_ _) | (with_reducible refine Kd.C_drew ?_)))
  (case side4 => exact (Kd.R_reads' HO270.out).2.1)
  (case side5 => repeat (first | exact (Kd.V_reads' HO274.out).2.2 | (with_reducible refine Kd.C_alloc ?_ _) | (with_reducible refine Kd.C_drewN ?_ _) | (with_reducible refine Kd.C_drew ?_)))
  (case side6 => exact (Kd.V_reads' HO274.out).2.1)
  (case side7 => repeat (first | exact (Kd.R_reads' HO277.out).2.2 | (with_reducible refine Kd.C_alloc ?_ _) | (with_reducible refine Kd.C_drewN ?_ _) | (with_reducible refine Kd.C_drew ?_)))
  (case side8 => exact (Kd.R_reads' HO277.out).2.1)
  rintro e w15 ⟨rfl, hb⟩
  refine ⟨_, rfl, ?_⟩
  have n0_ := Aside0.mk (Kd.V_below (by (with_reducible repeat (first | apply Kd.V_alloc | apply Kd.V_drewN | apply Kd.V_drew)); exact HO267.out) hb)
  have n1_ := Aside0.mk (Kd.R_below (by (with_reducible repeat (first | apply Kd.R_alloc | apply Kd.R_drewN | apply Kd.R_drew)); exact HO270.out) hb)
  have n2_ := Aside0.mk (Kd.V_below (by (with_reducible repeat (first | apply Kd.V_alloc | apply Kd.V_drewN | apply Kd.V_drew)); exact HO274.out) hb)
  have n3_ := Aside0.mk (Kd.R_below (by (with_reducible repeat (first | apply Kd.R_alloc | apply Kd.R_drewN | apply Kd.R_drew)); exact HO277.out) hb)
  have n4_ := Aside0.mk (blk_below (g := gb262) (o := .cells #[.bool a0_0, .slice A0_1 l0_1.length c0_1, .int .i64 a0_2] 30 (0, 0)) (by (with_reducible repeat (first | refine blk_drewN ?_ _ | refine blk_drew ?_ | refine blk_alloc ?_ _)); exact BK262.out) hb)
  have n5_ := Aside0.mk (blk_below (g := gb263) (o := .cells #[.bool a1_0, .slice A1_1 l1_1.length c1_1, .int .i64 a1_2] 30 (0, 0)) (by (with_reducible repeat (first | refine blk_drewN ?_ _ | refine blk_drew ?_ | refine blk_alloc ?_ _)); exact BK263.out) hb)
  have n6_ := Aside0.mk (below_step (by repeat (first | (with_reducible first | exact HB.out | apply below_alloc | apply pw_below_drewN | apply below_drew1 | refine below_set ?_ GE262.out | refine below_set ?_ GE263.out) | exact HB.out)) hb)
  clear HO267
  clear HO270
  clear HO274
  clear HO277
  clear BK262
  clear BK263
  clear HB
  have HO267 := n0_
  have HO270 := n1_
  have HO274 := n2_
  have HO277 := n3_
  have BK262 := n4_
  have BK263 := n5_
  have HB := n6_
  clear n0_ n1_ n2_ n3_ n4_ n5_ n6_
  (try clear hb)
  (try clear hb2)
  (try clear hk)
  (try clear hi)
  refine hK.out _ _ ⟨(blk_cell BK262.out 0).trans rfl, (blk_cell BK262.out 1).trans rfl, (blk_cell BK262.out 2).trans rfl, (blk_cell BK263.out 0).trans rfl, (blk_cell BK263.out 1).trans rfl, (blk_cell BK263.out 2).trans rfl⟩ (fun hHeld => ?_)
  clear hK K
  refine norm_ (a' := ?_) ?_ ?_
  rotate_left
  · show Act.put _ (some 9) _ = _
    simp only [Act.put, List.setIfInBounds_toArray, List.set_cons_zero, List.set_cons_succ, i64_w, i32_w]
    rfl
  refine pure_ (i := 5) (N := some 10) (v := ?_) (a' := ?_) #[true, true, true, true, true, true, false] rfl rfl (by kernel_rfl) (fun _ _ _ h => h) (Or.inl ⟨by rfl, ?_⟩) ?_ ?_
  rotate_left
  · intro w'
    go_simp
    with_reducible rfl
  rotate_left
  · simp only [Act.put, List.setIfInBounds_toArray, List.set_cons_zero, List.set_cons_succ, i64_w, i32_w]
    rfl
  refine pure_ (i := 6) (N := some 4) (v := ?_) (a' := ?_) #[true, true, true, true, true, true, true] rfl rfl (by kernel_rfl) (fun _ _ _ h => h) (Or.inl ⟨by rfl, ?_⟩) ?_ ?_
  rotate_left
  · intro w'
    go_simp
    with_reducible rfl
  rotate_left
  · simp only [Act.put, List.setIfInBounds_toArray, List.set_cons_zero, List.set_cons_succ, i64_w, i32_w]
    rfl
  refine done_ (by kernel_rfl) ?_
  try go_wp2
  go_ret
  exact ⟨by first | rfl | (simp [errW_none, errW_some] <;> rfl) | (simp [*, errW_none, errW_some] <;> rfl), by repeat (first | (with_reducible first | exact HB.out | apply below_alloc | apply pw_below_drewN | apply below_drew1 | refine below_set ?_ GE262.out | refine below_set ?_ GE263.out) | exact HB.out)⟩


end Go.Proofs.YtghabdpbacgicaaDoor.S
