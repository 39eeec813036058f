/- CONTRACTS of spec_FixOf: each as the plain function beside it. (Began as print.sh's text for this seat; the turns are those of wip/tools/split.py.) -/
import Derived.Test.YtcgdphciepdkiaaDoorSStr
namespace Go.Proofs.YtcgdphciepdkiaaDoor.S
open Go.RowKit Go.Proofs.YtcgdphciepdkiaaDoorW.PrintWords Go.Proofs.YtcgdphciepdkiaaDoorW.PrintLast Go.Proofs.YtcgdphciepdkiaaDoorW.PrintMore
attribute [local go_sem] max2_int min2_int max_two min_two max_three min_three max_four min_four   -- for this text's walks alone
set_option linter.unusedVariables false
set_option linter.unusedSimpArgs false

/-! ### spec_FixOf: function 35 -/
mutual
def spec_FixOf.j0 : Nat → Bool → Bool → List Int → Int → Option (Bool × Int × Int × Bool)
  | 0, _, _, _, _ => none
  | k + 1, x20, x141000, x141001, x141002 => if x20 = true then (some (false, 0, 0, false)) else (spec_FixOf.l0 k 0 (wrap64 ((x141001.length : Int) - 1)) x141000 x141001 x141002)
def spec_FixOf.l0 : Nat → Int → Int → Bool → List Int → Int → Option (Bool × Int × Int × Bool)
  | 0, _, _, _, _, _ => none
  | k + 1, x4, x5, x141000, x141001, x141002 => if x5 ≥ 0 then (if 0 ≤ x5 then (if x5 < (x141001.length : Int) then (spec_FixOf.l0 k (IntKind.u64.wrap ((IntKind.u64.wrap (x4 * 1000000000)) + (IntKind.u64.wrap (rd x141001 x5)))) (wrap64 (x5 - 1)) x141000 x141001 x141002) else (none)) else (none)) else (some (x141000, x4, wrap64 (-x141002), true))
end
def spec_FixOf.f (k : Nat) (a0_0 : Bool) (l0_1 : List Int) (a0_2 : Int) : Option (Bool × Int × Int × Bool) := if a0_2 > 0 then (spec_FixOf.j0 k true a0_0 l0_1 a0_2) else (if a0_2 < (-19) then (spec_FixOf.j0 k true a0_0 l0_1 a0_2) else ((spec_Nat_Digits.f k l0_1).bind fun t142 => (spec_FixOf.j0 k (decide (t142 > 19)) a0_0 l0_1 a0_2)))
theorem spec_FixOf.mono_l : ∀ k, (∀ y0 y1 y2 y3, LeO (spec_FixOf.j0 k y0 y1 y2 y3) (spec_FixOf.j0 (k + 1) y0 y1 y2 y3)) ∧ (∀ y0 y1 y2 y3 y4, LeO (spec_FixOf.l0 k y0 y1 y2 y3 y4) (spec_FixOf.l0 (k + 1) y0 y1 y2 y3 y4))
  | 0 => ⟨fun _ _ _ _ r h => by simp [spec_FixOf.j0] at h, fun _ _ _ _ _ r h => by simp [spec_FixOf.l0] at h⟩
  | k + 1 => by
    obtain ⟨ih0, ih1⟩ := spec_FixOf.mono_l k
    refine ⟨?_, ?_⟩
    · intro y0 y1 y2 y3
      unfold spec_FixOf.j0
      repeat' first
      | (with_reducible exact ih0 _ _ _ _)
      | (with_reducible exact ih1 _ _ _ _ _)
      | (with_reducible exact spec_Nat_Digits.mono _ _)
      | (with_reducible exact LeO.refl _)
      | (with_reducible exact LeO.none _)
      | (with_reducible refine LeO.ite ?_ ?_)
      | (with_reducible refine LeO.bind ?_ (fun _ => ?_))
      | exact ih0 _ _ _ _
      | exact ih1 _ _ _ _ _
      | exact spec_Nat_Digits.mono _ _
      | exact LeO.none _
      | refine LeO.ite ?_ ?_
      | refine LeO.bind ?_ (fun _ => ?_)
    · intro y0 y1 y2 y3 y4
      unfold spec_FixOf.l0
      repeat' first
      | (with_reducible exact ih0 _ _ _ _)
      | (with_reducible exact ih1 _ _ _ _ _)
      | (with_reducible exact spec_Nat_Digits.mono _ _)
      | (with_reducible exact LeO.refl _)
      | (with_reducible exact LeO.none _)
      | (with_reducible refine LeO.ite ?_ ?_)
      | (with_reducible refine LeO.bind ?_ (fun _ => ?_))
      | exact ih0 _ _ _ _
      | exact ih1 _ _ _ _ _
      | exact spec_Nat_Digits.mono _ _
      | exact LeO.none _
      | refine LeO.ite ?_ ?_
      | refine LeO.bind ?_ (fun _ => ?_)
theorem spec_FixOf.mono : ∀ a0 a1 a2 k, LeO (spec_FixOf.f k a0 a1 a2) (spec_FixOf.f (k + 1) a0 a1 a2) := by
  intro a0 a1 a2 k
  obtain ⟨ih0, ih1⟩ := spec_FixOf.mono_l k
  unfold spec_FixOf.f
  repeat' first
      | (with_reducible exact ih0 _ _ _ _)
      | (with_reducible exact ih1 _ _ _ _ _)
      | (with_reducible exact spec_Nat_Digits.mono _ _)
      | (with_reducible exact LeO.refl _)
      | (with_reducible exact LeO.none _)
      | (with_reducible refine LeO.ite ?_ ?_)
      | (with_reducible refine LeO.bind ?_ (fun _ => ?_))
      | exact ih0 _ _ _ _
      | exact ih1 _ _ _ _ _
      | exact spec_Nat_Digits.mono _ _
      | exact LeO.none _
      | refine LeO.ite ?_ ?_
      | refine LeO.bind ?_ (fun _ => ?_)
set_option maxHeartbeats 8000000 in
set_option maxRecDepth 100000 in
theorem spec_FixOf.calls (k : Nat) (a0_0 : Bool) (A0_1 : Option Addr) (c0_1 : Nat) (l0_1 : List Int) (a0_2 : Int) (r1 : Bool) (r2 : Int) (r3 : Int) (r4 : Bool) (w : World) (hr0_1 : Kd.C (Kd.int .u32) w A0_1 l0_1.length l0_1) (hc0_1 : l0_1.length ≤ c0_1) (h : spec_FixOf.f k a0_0 l0_1 a0_2 = some (r1, r2, r3, r4)) :
    Calls Tryd.prog 35 #[.agg #[.bool a0_0, .slice A0_1 l0_1.length c0_1, .int .i64 a0_2]] w fun e w' => e = .returned (.tuple #[.agg #[.bool r1, .int .u64 r2, .int .i64 r3], .bool r4]) ∧ Below w.heap.size w w' := by
  have hu40 := Tryd.underlying40
  have hu34 := Tryd.underlying34
  have HR0_1 := Aside0.mk hr0_1
  have HC0_1 := Aside0.mk hc0_1
  clear hr0_1 hc0_1
  have HB := Aside0.mk (Below.refl w.heap.size w)
  have H : (if a0_2 > 0 then (spec_FixOf.j0 k true a0_0 l0_1 a0_2) else (if a0_2 < (-19) then (spec_FixOf.j0 k true a0_0 l0_1 a0_2) else ((spec_Nat_Digits.f k l0_1).bind fun t142 => (spec_FixOf.j0 k (decide (t142 > 19)) a0_0 l0_1 a0_2)))) = some (r1, r2, r3, r4) := h
  clear h
  have HC2 := Aside0.mk H
  clear H
  go_enter Tryd.func35, Tryd.ntmps35
  go_upto_region 1 with (first | ((with_reducible refine gate_dst (N := 1) rfl ?_); refine box_event ?hg (N := 1) ?hd (cs := #[.bool a0_0, .slice A0_1 l0_1.length c0_1, .int .i64 a0_2]) (t := 40) ?hr ?_; (case hd => rfl); (case hg => rfl); (case hr => first | (go_simp; done) | (go_simp; rfl)); intro gb140 hg w3 hbox hb; have n0_ := Aside0.mk (below_step (by repeat (first | (with_reducible first | exact HB.out | apply below_alloc | apply pw_below_drewN | apply below_drew1) | exact HB.out)) hb); have n1_ := Aside0.mk (hbox); have n2_ := Aside0.mk ((by rw [hg]; exact (below_size (by repeat (first | (with_reducible first | exact HB.out | apply below_alloc | apply pw_below_drewN | apply below_drew1) | exact HB.out))) : w.heap.size ≤ gb140)); have n3_ := Aside0.mk ((by rw [hg]; exact (below_size (by repeat (first | (with_reducible first | exact HB.out | apply below_alloc | apply pw_below_drewN | apply below_drew1) | exact HB.out))) : w.heap.size ≤ gb140)); clear HB; have HB := n0_; have BK140 := n1_; have GW140 := n2_; have GE140 := n3_; clear n0_ n1_ n2_ n3_; clear hb hbox hg) | ((with_reducible refine gate_dst (N := 2) rfl ?_); refine box_event ?hg (N := 2) ?hd (cs := #[.bool false, .int .u64 0, .int .i64 0]) (t := 34) ?hr ?_; (case hd => rfl); (case hg => rfl); (case hr => first | (go_simp; done) | (go_simp; rfl)); intro gb141 hg w4 hbox hb; have n0_ := Aside0.mk (blk_below (g := gb140) (o := .cells #[.bool a0_0, .slice A0_1 l0_1.length c0_1, .int .i64 a0_2] 40 (0, 0)) (by (with_reducible repeat (first | refine blk_drewN ?_ _ | refine blk_drew ?_ | refine blk_alloc ?_ _)); exact BK140.out) hb); have n1_ := Aside0.mk (below_step (by repeat (first | (with_reducible first | exact HB.out | apply below_alloc | apply pw_below_drewN | apply below_drew1 | refine below_set ?_ GE140.out) | exact HB.out)) hb); have n2_ := Aside0.mk (hbox); have n3_ := Aside0.mk ((by rw [hg]; exact (below_size (by repeat (first | (with_reducible first | exact HB.out | apply below_alloc | apply pw_below_drewN | apply below_drew1 | refine below_set ?_ GE140.out) | exact HB.out))) : w.heap.size ≤ gb141)); have n4_ := Aside0.mk ((by rw [hg]; exact (below_size (by repeat (first | (with_reducible first | exact HB.out | apply below_alloc | apply pw_below_drewN | apply below_drew1 | refine below_set ?_ GE140.out) | exact HB.out))) : w.heap.size ≤ gb141)); have n5_ := Aside0.mk ((by rw [hg]; exact Nat.ne_of_lt (blk_lt (g := gb140) (o := .cells #[.bool a0_0, .slice A0_1 l0_1.length c0_1, .int .i64 a0_2] 40 (0, 0)) (by (with_reducible repeat (first | refine blk_drewN ?_ _ | refine blk_drew ?_ | refine blk_alloc ?_ _)); exact BK140.out)) : gb140 ≠ gb141)); have n6_ := Aside0.mk ((by rw [hg]; exact Nat.ne_of_gt (blk_lt (g := gb140) (o := .cells #[.bool a0_0, .slice A0_1 l0_1.length c0_1, .int .i64 a0_2] 40 (0, 0)) (by (with_reducible repeat (first | refine blk_drewN ?_ _ | refine blk_drew ?_ | refine blk_alloc ?_ _)); exact BK140.out)) : gb141 ≠ gb140)); clear BK140; clear HB; have BK140 := n0_; have HB := n1_; have BK141 := n2_; have GW141 := n3_; have GE141 := n4_; have NB140_141 := n5_; have NB141_140 := n6_; clear n0_ n1_ n2_ n3_ n4_ n5_ n6_; clear hb hbox hg))
  (try simp only [Act.put, List.setIfInBounds_toArray, List.set_cons_zero, List.set_cons_succ])
  go_cut [20] (fun v20 wc => ∃ (kq : Nat) (x20_1 : Bool), v20 = .bool x20_1 ∧ Aside0 (spec_FixOf.j0 kq x20_1 a0_0 l0_1 a0_2 = some (r1, r2, r3, r4)) ∧ Aside0 (kq ≤ k) ∧ Aside0 (wc.heap[gb140]? = some (.cells #[.bool a0_0, (.slice A0_1 l0_1.length c0_1), .int .i64 a0_2] 40 (0, 0))) ∧ Aside0 (wc.heap[gb141]? = some (.cells #[.bool false, .int .u64 0, .int .i64 0] 34 (0, 0))) ∧ Aside0 (Below w.heap.size w wc))
  case first =>
    have H := HC2.out
    clear HC2
    by_cases c5 : a0_2 > 0
    · rw [if_pos c5] at H
      have c5b0 : decide (0 < a0_2) = true := decide_eq_true c5
      clear c5
      (first | rw [c5b0] | (simp only [i64_w, i32_w]; rw [c5b0]) | skip)
      have H' := Aside0.mk H
      clear H
      have hnb6 := NB140_141.out
      have hnc6 := NB141_140.out
      have hcz7_0 : w4.cell? ⟨gb140, 0, none⟩ = some (.bool a0_0) := (blk_cell BK140.out 0).trans rfl
      have hcz7_1 : w4.cell? ⟨gb140, 1, none⟩ = some (.slice A0_1 l0_1.length c0_1) := (blk_cell BK140.out 1).trans rfl
      have hcz7_2 : w4.cell? ⟨gb140, 2, none⟩ = some (.int .i64 a0_2) := (blk_cell BK140.out 2).trans rfl
      have hfz7_0 := blk_frozen BK140.out 0
      have hfz7_1 := blk_frozen BK140.out 1
      have hfz7_2 := blk_frozen BK140.out 2
      go_wp2
      go_meet
      case rel => exact ⟨_, (true), (by first | rfl | (simp; done) | (simp [*]; done)), H', ⟨by first | omega | exact Nat.le_refl _⟩, ⟨by (with_reducible repeat (first | refine blk_drewN ?_ _ | refine blk_drew ?_ | refine blk_alloc ?_ _)); exact BK140.out⟩, ⟨by (with_reducible repeat (first | refine blk_drewN ?_ _ | refine blk_drew ?_ | refine blk_alloc ?_ _)); exact BK141.out⟩, ⟨by repeat (first | (with_reducible first | exact HB.out | apply below_alloc | apply pw_below_drewN | apply below_drew1 | refine below_set ?_ GE140.out | refine below_set ?_ GE141.out) | exact HB.out)⟩⟩
    · rw [if_neg c5] at H
      have c5b0 : decide (0 < a0_2) = false := decide_eq_false c5
      clear c5
      (first | rw [c5b0] | (simp only [i64_w, i32_w]; rw [c5b0]) | skip)
      by_cases c8 : a0_2 < (-19)
      · rw [if_pos c8] at H
        have c8b0 : decide (a0_2 < (-19)) = true := decide_eq_true c8
        clear c8
        have H' := Aside0.mk H
        clear H
        have hnb9 := NB140_141.out
        have hnc9 := NB141_140.out
        have hcz10_0 : w4.cell? ⟨gb140, 0, none⟩ = some (.bool a0_0) := (blk_cell BK140.out 0).trans rfl
        have hcz10_1 : w4.cell? ⟨gb140, 1, none⟩ = some (.slice A0_1 l0_1.length c0_1) := (blk_cell BK140.out 1).trans rfl
        have hcz10_2 : w4.cell? ⟨gb140, 2, none⟩ = some (.int .i64 a0_2) := (blk_cell BK140.out 2).trans rfl
        have hfz10_0 := blk_frozen BK140.out 0
        have hfz10_1 := blk_frozen BK140.out 1
        have hfz10_2 := blk_frozen BK140.out 2
        go_wp2
        go_meet
        case rel => exact ⟨_, (true), (by first | rfl | (simp; done) | (simp [*]; done)), H', ⟨by first | omega | exact Nat.le_refl _⟩, ⟨by (with_reducible repeat (first | refine blk_drewN ?_ _ | refine blk_drew ?_ | refine blk_alloc ?_ _)); exact BK140.out⟩, ⟨by (with_reducible repeat (first | refine blk_drewN ?_ _ | refine blk_drew ?_ | refine blk_alloc ?_ _)); exact BK141.out⟩, ⟨by repeat (first | (with_reducible first | exact HB.out | apply below_alloc | apply pw_below_drewN | apply below_drew1 | refine below_set ?_ GE140.out | refine below_set ?_ GE141.out) | exact HB.out)⟩⟩
      · rw [if_neg c8] at H
        have c8b0 : decide (a0_2 < (-19)) = false := decide_eq_false c8
        clear c8
        replace H := Option.bind_eq_some_iff.mp H
        obtain ⟨t142, A110, H⟩ := H
        replace H : (spec_FixOf.j0 k (decide (t142 > 19)) a0_0 l0_1 a0_2) = some (r1, r2, r3, r4) := H
        have A11 := Aside0.mk A110
        clear A110
        have H' := Aside0.mk H
        clear H
        have hnb12 := NB140_141.out
        have hnc12 := NB141_140.out
        have hcz13_0 : w4.cell? ⟨gb140, 0, none⟩ = some (.bool a0_0) := (blk_cell BK140.out 0).trans rfl
        have hcz13_1 : w4.cell? ⟨gb140, 1, none⟩ = some (.slice A0_1 l0_1.length c0_1) := (blk_cell BK140.out 1).trans rfl
        have hcz13_2 : w4.cell? ⟨gb140, 2, none⟩ = some (.int .i64 a0_2) := (blk_cell BK140.out 2).trans rfl
        have hfz13_0 := blk_frozen BK140.out 0
        have hfz13_1 := blk_frozen BK140.out 1
        have hfz13_2 := blk_frozen BK140.out 2
        go_wp2_with (first | (go_at_call 29; (with_reducible refine (spec_Nat_Digits.calls k _ _ l0_1 t142 _ ?side1 ?side2 A11.out).mono ?_); (case side1 => repeat (first | exact (Kd.C_below HR0_1.out HB.out) | (with_reducible refine Kd.C_alloc ?_ _) | (with_reducible refine Kd.C_drewN ?_ _) | (with_reducible refine Kd.C_drew ?_))); (case side2 => exact HC0_1.out); rintro e w14 ⟨rfl, hb⟩; have n0_ := Aside0.mk (blk_below (g := gb140) (o := .cells #[.bool a0_0, .slice A0_1 l0_1.length c0_1, .int .i64 a0_2] 40 (0, 0)) (by (with_reducible repeat (first | refine blk_drewN ?_ _ | refine blk_drew ?_ | refine blk_alloc ?_ _)); exact BK140.out) hb); have n1_ := Aside0.mk (blk_below (g := gb141) (o := .cells #[.bool false, .int .u64 0, .int .i64 0] 34 (0, 0)) (by (with_reducible repeat (first | refine blk_drewN ?_ _ | refine blk_drew ?_ | refine blk_alloc ?_ _)); exact BK141.out) hb); have n2_ := Aside0.mk (below_step (by repeat (first | (with_reducible first | exact HB.out | apply below_alloc | apply pw_below_drewN | apply below_drew1 | refine below_set ?_ GE140.out | refine below_set ?_ GE141.out) | exact HB.out)) hb); clear BK140; clear BK141; clear HB; have BK140 := n0_; have BK141 := n1_; have HB := n2_; clear n0_ n1_ n2_; (try clear hb); (try clear hb2); (try clear hk); (try clear hi)))
        go_meet
        case rel => exact ⟨_, (decide (t142 > 19)), (by first | rfl | (simp; done) | (simp [*]; done)), H', ⟨by first | omega | exact Nat.le_refl _⟩, ⟨by (with_reducible repeat (first | refine blk_drewN ?_ _ | refine blk_drew ?_ | refine blk_alloc ?_ _)); exact BK140.out⟩, ⟨by (with_reducible repeat (first | refine blk_drewN ?_ _ | refine blk_drew ?_ | refine blk_alloc ?_ _)); exact BK141.out⟩, ⟨by repeat (first | (with_reducible first | exact HB.out | apply below_alloc | apply pw_below_drewN | apply below_drew1 | refine below_set ?_ GE140.out | refine below_set ?_ GE141.out) | exact HB.out)⟩⟩
  case rest =>
    clear HC2
    try clear c1
    try clear p2
    try clear c3
    try clear c5
    try clear c5b0
    try clear c6
    try clear c8
    try clear c8b0
    try clear c9
    try clear c12
    try clear hcz10_0
    try clear hcz10_1
    try clear hcz10_2
    try clear hcz13_0
    try clear hcz13_1
    try clear hcz13_2
    try clear hcz7_0
    try clear hcz7_1
    try clear hcz7_2
    try clear hfz10_0
    try clear hfz10_1
    try clear hfz10_2
    try clear hfz13_0
    try clear hfz13_1
    try clear hfz13_2
    try clear hfz7_0
    try clear hfz7_1
    try clear hfz7_2
    obtain ⟨kq, x20_1, rfl, HA, HJ1, BK140, BK141, HB⟩ := hcut
    cases kq with
    | zero => exact absurd HA.out (by simp [spec_FixOf.j0])
    | succ kj1 =>
      have H := HA.out
      clear HA
      simp only [spec_FixOf.j0] at H
      by_cases c15 : x20_1 = true
      · subst c15
        have H1 : (some (false, 0, 0, false)) = some (r1, r2, r3, r4) := by rw [if_pos rfl] at H; exact H
        clear H
        have H := H1
        clear H1
        simp only [Option.some.injEq, Prod.mk.injEq] at H
        obtain ⟨rfl, rfl, rfl, rfl⟩ := H
        have hnb16 := NB141_140.out
        have hnc16 := NB140_141.out
        have hcz17_0 : wc.cell? ⟨gb141, 0, none⟩ = some (.bool false) := (blk_cell BK141.out 0).trans rfl
        have hcz17_1 : wc.cell? ⟨gb141, 1, none⟩ = some (.int .u64 0) := (blk_cell BK141.out 1).trans rfl
        have hcz17_2 : wc.cell? ⟨gb141, 2, none⟩ = some (.int .i64 0) := (blk_cell BK141.out 2).trans rfl
        have hfz17_0 := blk_frozen BK141.out 0
        have hfz17_1 := blk_frozen BK141.out 1
        have hfz17_2 := blk_frozen BK141.out 2
        go_wp2
        refine bodyPost_ret (results_ct rfl _ _ gb141 34 #[.bool false, .int .u64 0, .int .i64 0] (0, 0) _ rfl (by (with_reducible repeat (first | refine blk_drewN ?_ _ | refine blk_drew ?_ | refine blk_alloc ?_ _)); refine blk_put (cs := #[.bool false, .int .u64 0, .int .i64 0]) ?_ 2 _ rfl; (with_reducible repeat (first | refine blk_drewN ?_ _ | refine blk_drew ?_ | refine blk_alloc ?_ _)); refine blk_put (cs := #[.bool false, .int .u64 0, .int .i64 0]) ?_ 1 _ rfl; (with_reducible repeat (first | refine blk_drewN ?_ _ | refine blk_drew ?_ | refine blk_alloc ?_ _)); refine blk_put (cs := #[.bool false, .int .u64 0, .int .i64 0]) ?_ 0 _ rfl; (with_reducible repeat (first | refine blk_drewN ?_ _ | refine blk_drew ?_ | refine blk_alloc ?_ _)); exact BK141.out) Tryd.underlying34 rfl (by kernel_rfl)) rfl ?_
        exact ⟨by first | rfl | (simp [errW_none, errW_some] <;> rfl) | (simp [*, errW_none, errW_some] <;> rfl), by repeat (first | (with_reducible first | exact HB.out | apply below_alloc | apply pw_below_drewN | apply below_drew1 | refine below_set ?_ GE140.out | refine below_set ?_ GE141.out) | exact HB.out)⟩
      · replace c15 := Bool.eq_false_iff.mpr c15
        subst c15
        have H1 : (spec_FixOf.l0 kj1 0 (wrap64 ((l0_1.length : Int) - 1)) a0_0 l0_1 a0_2) = some (r1, r2, r3, r4) := by rw [if_neg (show ¬ (false = true) by decide)] at H; exact H
        clear H
        have H := H1
        clear H1
        have H' := Aside0.mk H
        clear H
        have hnb18 := NB140_141.out
        have hnc18 := NB141_140.out
        have hcz19_0 : wc.cell? ⟨gb140, 0, none⟩ = some (.bool a0_0) := (blk_cell BK140.out 0).trans rfl
        have hcz19_1 : wc.cell? ⟨gb140, 1, none⟩ = some (.slice A0_1 l0_1.length c0_1) := (blk_cell BK140.out 1).trans rfl
        have hcz19_2 : wc.cell? ⟨gb140, 2, none⟩ = some (.int .i64 a0_2) := (blk_cell BK140.out 2).trans rfl
        have hfz19_0 := blk_frozen BK140.out 0
        have hfz19_1 := blk_frozen BK140.out 1
        have hfz19_2 := blk_frozen BK140.out 2
        go_wp2
        go_loopg [4, 5] kj1 (fun kq v4 v5 w' => ∃ (x4_2 : Int) (x5_2 : Int), v4 = .int .u64 x4_2 ∧ v5 = .int .i64 x5_2 ∧ Aside0 (spec_FixOf.l0 kq x4_2 x5_2 a0_0 l0_1 a0_2 = some (r1, r2, r3, r4)) ∧ Aside0 (kq ≤ kj1) ∧ Aside0 (w'.heap[gb140]? = some (.cells #[.bool a0_0, (.slice A0_1 l0_1.length c0_1), .int .i64 a0_2] 40 (0, 0))) ∧ Aside0 (w'.heap[gb141]? = some (.cells #[.bool false, .int .u64 0, .int .i64 0] 34 (0, 0))) ∧ Aside0 (Below w.heap.size w w'))
        case atStart => exact ⟨(0), (wrap64 ((l0_1.length : Int) - 1)), (by first | rfl | (simp; done) | (simp [*]; done)), (by first | rfl | (simp; done) | (simp [*]; done)), H', ⟨Nat.le_refl _⟩, ⟨by (with_reducible repeat (first | refine blk_drewN ?_ _ | refine blk_drew ?_ | refine blk_alloc ?_ _)); exact BK140.out⟩, ⟨by (with_reducible repeat (first | refine blk_drewN ?_ _ | refine blk_drew ?_ | refine blk_alloc ?_ _)); exact BK141.out⟩, ⟨by repeat (first | (with_reducible first | exact HB.out | apply below_alloc | apply pw_below_drewN | apply below_drew1 | refine below_set ?_ GE140.out | refine below_set ?_ GE141.out) | exact HB.out)⟩⟩
        case round =>
          clear H'
          try clear c1
          try clear p2
          try clear c3
          try clear c5
          try clear c5b0
          try clear c6
          try clear p6
          try clear c8
          try clear c8b0
          try clear c9
          try clear c12
          try clear c15
          try clear c16
          try clear c18
          try clear hcz10_0
          try clear hcz10_1
          try clear hcz10_2
          try clear hcz13_0
          try clear hcz13_1
          try clear hcz13_2
          try clear hcz17_0
          try clear hcz17_1
          try clear hcz17_2
          try clear hcz19_0
          try clear hcz19_1
          try clear hcz19_2
          try clear hcz7_0
          try clear hcz7_1
          try clear hcz7_2
          try clear hfz10_0
          try clear hfz10_1
          try clear hfz10_2
          try clear hfz13_0
          try clear hfz13_1
          try clear hfz13_2
          try clear hfz17_0
          try clear hfz17_1
          try clear hfz17_2
          try clear hfz19_0
          try clear hfz19_1
          try clear hfz19_2
          try clear hfz7_0
          try clear hfz7_1
          try clear hfz7_2
          try clear p2
          obtain ⟨x4_2, x5_2, rfl, rfl, HA, HK2, BK140, BK141, HB⟩ := hrel
          cases gk with
          | zero => exact absurd HA.out (by simp [spec_FixOf.l0])
          | succ k2 =>
            have H := HA.out
            clear HA
            simp only [spec_FixOf.l0] at H
            by_cases c20 : x5_2 ≥ 0
            · rw [if_pos c20] at H
              have c20b0 : decide (0 ≤ x5_2) = true := decide_eq_true c20
              clear c20
              by_cases c21 : 0 ≤ x5_2
              · rw [if_pos c21] at H
                have c21b0 : decide (0 ≤ x5_2) = true := decide_eq_true c21
                clear c21
                by_cases c22 : x5_2 < (l0_1.length : Int)
                · rw [if_pos c22] at H
                  have c22b0 : decide (x5_2 < (l0_1.length : Int)) = true := decide_eq_true c22
                  clear c22
                  have H' := Aside0.mk H
                  clear H
                  have hnb23 := NB140_141.out
                  have hnc23 := NB141_140.out
                  have hcz24_0 : wr.cell? ⟨gb140, 0, none⟩ = some (.bool a0_0) := (blk_cell BK140.out 0).trans rfl
                  have hcz24_1 : wr.cell? ⟨gb140, 1, none⟩ = some (.slice A0_1 l0_1.length c0_1) := (blk_cell BK140.out 1).trans rfl
                  have hcz24_2 : wr.cell? ⟨gb140, 2, none⟩ = some (.int .i64 a0_2) := (blk_cell BK140.out 2).trans rfl
                  have hfz24_0 := blk_frozen BK140.out 0
                  have hfz24_1 := blk_frozen BK140.out 1
                  have hfz24_2 := blk_frozen BK140.out 2
                  have p143 : 0 ≤ (x5_2 : Int) := of_decide_eq_true (by first | (with_reducible assumption) | assumption)
                  have q143 : x5_2 < (l0_1.length : Int) := of_decide_eq_true (by first | (with_reducible assumption) | assumption)
                  obtain ⟨ad143, e143, hx143_0⟩ := Kd.at_int HR0_1.out x5_2 p143 q143
                  cases e143
                  replace hx143_0 := (HB.out.cell (World.block_lt_of_cell? w _ hx143_0)).trans hx143_0
                  replace p143 := eq_true p143
                  replace q143 := eq_true q143
                  go_wp2
                  go_roundg k2
                  case measure => have := HJ1.out; have := HK2.out; omega
                  case rel => exact ⟨(IntKind.u64.wrap ((IntKind.u64.wrap (x4_2 * 1000000000)) + (IntKind.u64.wrap (rd l0_1 x5_2)))), (wrap64 (x5_2 - 1)), (by first | rfl | (simp; done) | (simp [*]; done)), (by first | rfl | (simp; done) | (simp [*]; done)), H', ⟨by have := HJ1.out; have := HK2.out; omega⟩, ⟨by (with_reducible repeat (first | refine blk_drewN ?_ _ | refine blk_drew ?_ | refine blk_alloc ?_ _)); exact BK140.out⟩, ⟨by (with_reducible repeat (first | refine blk_drewN ?_ _ | refine blk_drew ?_ | refine blk_alloc ?_ _)); exact BK141.out⟩, ⟨by repeat (first | (with_reducible first | exact HB.out | apply below_alloc | apply pw_below_drewN | apply below_drew1 | refine below_set ?_ GE140.out | refine below_set ?_ GE141.out) | exact HB.out)⟩⟩
                · rw [if_neg c22] at H
                  exact absurd H (by simp)
              · rw [if_neg c21] at H
                exact absurd H (by simp)
            · rw [if_neg c20] at H
              have c20b0 : decide (0 ≤ x5_2) = false := decide_eq_false c20
              clear c20
              simp only [Option.some.injEq, Prod.mk.injEq] at H
              obtain ⟨rfl, rfl, rfl, rfl⟩ := H
              have hnb25 := NB140_141.out
              have hnc25 := NB141_140.out
              have hcz26_0 : wr.cell? ⟨gb140, 0, none⟩ = some (.bool a0_0) := (blk_cell BK140.out 0).trans rfl
              have hcz26_1 : wr.cell? ⟨gb140, 1, none⟩ = some (.slice A0_1 l0_1.length c0_1) := (blk_cell BK140.out 1).trans rfl
              have hcz26_2 : wr.cell? ⟨gb140, 2, none⟩ = some (.int .i64 a0_2) := (blk_cell BK140.out 2).trans rfl
              have hfz26_0 := blk_frozen BK140.out 0
              have hfz26_1 := blk_frozen BK140.out 1
              have hfz26_2 := blk_frozen BK140.out 2
              have hcz27_0 : wr.cell? ⟨gb141, 0, none⟩ = some (.bool false) := (blk_cell BK141.out 0).trans rfl
              have hcz27_1 : wr.cell? ⟨gb141, 1, none⟩ = some (.int .u64 0) := (blk_cell BK141.out 1).trans rfl
              have hcz27_2 : wr.cell? ⟨gb141, 2, none⟩ = some (.int .i64 0) := (blk_cell BK141.out 2).trans rfl
              have hfz27_0 := blk_frozen BK141.out 0
              have hfz27_1 := blk_frozen BK141.out 1
              have hfz27_2 := blk_frozen BK141.out 2
              go_wp2
              refine bodyPost_ret (results_ct rfl _ _ gb141 34 #[.bool a0_0, .int .u64 x4_2, .int .i64 (wrap64 (-a0_2))] (0, 0) _ rfl (by (with_reducible repeat (first | refine blk_drewN ?_ _ | refine blk_drew ?_ | refine blk_alloc ?_ _)); refine blk_put (cs := #[.bool a0_0, .int .u64 x4_2, .int .i64 0]) ?_ 2 _ rfl; (with_reducible repeat (first | refine blk_drewN ?_ _ | refine blk_drew ?_ | refine blk_alloc ?_ _)); refine blk_put (cs := #[.bool a0_0, .int .u64 0, .int .i64 0]) ?_ 1 _ rfl; (with_reducible repeat (first | refine blk_drewN ?_ _ | refine blk_drew ?_ | refine blk_alloc ?_ _)); refine blk_put (cs := #[.bool false, .int .u64 0, .int .i64 0]) ?_ 0 _ rfl; (with_reducible repeat (first | refine blk_drewN ?_ _ | refine blk_drew ?_ | refine blk_alloc ?_ _)); exact BK141.out) Tryd.underlying34 rfl (by kernel_rfl)) rfl ?_
              exact ⟨by first | rfl | (simp [errW_none, errW_some] <;> rfl) | (simp [*, errW_none, errW_some] <;> rfl), by repeat (first | (with_reducible first | exact HB.out | apply below_alloc | apply pw_below_drewN | apply below_drew1 | refine below_set ?_ GE140.out | refine below_set ?_ GE141.out) | exact HB.out)⟩


end Go.Proofs.YtcgdphciepdkiaaDoor.S
