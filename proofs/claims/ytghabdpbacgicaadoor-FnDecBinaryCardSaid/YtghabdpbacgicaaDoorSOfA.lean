/- CONTRACTS of spec_OfAny: each as the plain function beside it. (Began as print.sh's text for this seat; the turns are those of wip/tools/split.py.) -/
import Derived.Test.YtghabdpbacgicaaDoorSPWh
import Derived.Test.YtghabdpbacgicaaDoorSWSt
namespace Go.Proofs.YtghabdpbacgicaaDoor.S
open Go.RowKit Go.Proofs.YtghabdpbacgicaaDoorW.PrintWords Go.Proofs.YtghabdpbacgicaaDoorW.PrintLast Go.Proofs.YtghabdpbacgicaaDoorW.PrintMore
attribute [local go_sem] max2_int min2_int max_two min_two max_three min_three max_four min_four   -- for this text's walks alone
set_option linter.unusedVariables false
set_option linter.unusedSimpArgs false

/-! ### spec_OfAny: function 19 -/
def spec_OfAny.j0 : Nat → Bool → ByteArray → Int → Option (Bool × List Int × Int × Bool)
  | 0, _, _, _ => none
  | k + 1, x19, x189000, x189001 => if x19 = true then (some (false, ([] : List Int), 0, false)) else ((spec_ParseWhole.f k x189000).bind fun bt190 => (if bt190.2.2 = true then ((spec_Whole_String.f k bt190.1 bt190.2.1).bind fun t196 => (some (bt190.1, bt190.2.1, x189001, (t196.toList == x189000.toList)))) else (some (bt190.1, bt190.2.1, x189001, false))))
def spec_OfAny.f (k : Nat) (a0_0 : ByteArray) (a0_1 : Int) : Option (Bool × List Int × Int × Bool) := if (a0_0.size : Int) > 2001 then (spec_OfAny.j0 k true a0_0 a0_1) else (if a0_1 < (-2000) then (spec_OfAny.j0 k true a0_0 a0_1) else (spec_OfAny.j0 k (decide (a0_1 > 2000)) a0_0 a0_1))
theorem spec_OfAny.mono_l : ∀ k, (∀ y0 y1 y2, LeO (spec_OfAny.j0 k y0 y1 y2) (spec_OfAny.j0 (k + 1) y0 y1 y2))
  | 0 => fun _ _ _ r h => by simp [spec_OfAny.j0] at h
  | k + 1 => by
    have ih0 := spec_OfAny.mono_l k
    · intro y0 y1 y2
      unfold spec_OfAny.j0
      repeat' first
      | (with_reducible exact ih0 _ _ _)
      | (with_reducible exact spec_ParseWhole.mono _ _)
      | (with_reducible exact spec_Whole_String.mono _ _ _)
      | (with_reducible exact LeO.refl _)
      | (with_reducible exact LeO.none _)
      | (with_reducible refine LeO.ite ?_ ?_)
      | (with_reducible refine LeO.bind ?_ (fun _ => ?_))
      | exact ih0 _ _ _
      | exact spec_ParseWhole.mono _ _
      | exact spec_Whole_String.mono _ _ _
      | exact LeO.none _
      | refine LeO.ite ?_ ?_
      | refine LeO.bind ?_ (fun _ => ?_)
theorem spec_OfAny.mono : ∀ a0 a1 k, LeO (spec_OfAny.f k a0 a1) (spec_OfAny.f (k + 1) a0 a1) := by
  intro a0 a1 k
  have ih0 := spec_OfAny.mono_l k
  unfold spec_OfAny.f
  repeat' first
      | (with_reducible exact ih0 _ _ _)
      | (with_reducible exact spec_ParseWhole.mono _ _)
      | (with_reducible exact spec_Whole_String.mono _ _ _)
      | (with_reducible exact LeO.refl _)
      | (with_reducible exact LeO.none _)
      | (with_reducible refine LeO.ite ?_ ?_)
      | (with_reducible refine LeO.bind ?_ (fun _ => ?_))
      | exact ih0 _ _ _
      | exact spec_ParseWhole.mono _ _
      | exact spec_Whole_String.mono _ _ _
      | exact LeO.none _
      | refine LeO.ite ?_ ?_
      | refine LeO.bind ?_ (fun _ => ?_)
def spec_OfAny.T4 : Bool × List (List Nat × List Nat) := (true, [([], []), ([], []), ([1], [1]), ([0, 2], [0, 2]), ([], []), ([4], [4]), ([5], [5]), ([6, 5, 5], [5, 6]), ([5], [5]), ([8, 5], [5, 8]), ([7, 9, 5], [5, 7, 9]), ([5, 10], [5, 10]), ([3, 7, 0, 1, 2, 3], [3]), ([11, 12, 0, 1, 2, 3, 4, 5, 6, 7, 8, 9, 10, 11, 12], [11])])
def spec_OfAny.B4 : List Nat := [0, 0, 2, 7, 0, 16, 48, 112, 48, 304, 1008, 2032, 255, 8191]
theorem spec_OfAny.tab4 : rtab .any (opsOf Tryd.f19 4) = spec_OfAny.T4 := by kernel_rfl
theorem spec_OfAny.bits4 : waitsOk spec_OfAny.T4.2 spec_OfAny.B4 = true := by kernel_rfl
set_option maxHeartbeats 8000000 in
set_option maxRecDepth 100000 in
theorem spec_OfAny.calls (k : Nat) (a0_0 : ByteArray) (a0_1 : Int) (r1 : Bool) (r2 : List Int) (r3 : Int) (r4 : Bool) (w : World) (h : spec_OfAny.f k a0_0 a0_1 = some (r1, r2, r3, r4)) :
    Calls Tryd.prog 19 #[.agg #[.string a0_0, .int .i64 a0_1]] w fun e w' => ∃ v1_ : Value, e = .returned (.tuple #[.agg #[.bool r1, v1_, .int .i64 r3], .bool r4]) ∧ Kd.V (Kd.int .u32) 58 w' w.heap.size (fun k_ => (w.heap.size ≤ k_)) v1_ r2 ∧ Below w.heap.size w w' := by
  have hu23 := Tryd.underlying23
  have hu30 := Tryd.underlying30
  have hu28 := Tryd.underlying28
  have HB := Aside0.mk (Below.refl w.heap.size w)
  have H : (if (a0_0.size : Int) > 2001 then (spec_OfAny.j0 k true a0_0 a0_1) else (if a0_1 < (-2000) then (spec_OfAny.j0 k true a0_0 a0_1) else (spec_OfAny.j0 k (decide (a0_1 > 2000)) a0_0 a0_1))) = some (r1, r2, r3, r4) := h
  clear h
  have HC2 := Aside0.mk H
  clear H
  go_enter Tryd.func19, Tryd.ntmps19
  go_upto_region 1 with (first | ((with_reducible refine gate_dst (N := 1) rfl ?_); refine box_event ?hg (N := 1) ?hd (cs := #[.string a0_0, .int .i64 a0_1]) (t := 23) ?hr ?_; (case hd => rfl); (case hg => rfl); (case hr => first | (go_simp; done) | (go_simp; rfl)); intro gb188 hg w3 hbox hb; have n0_ := Aside0.mk (below_step (by repeat (first | (with_reducible first | exact HB.out | apply below_alloc | apply pw_below_drewN | apply below_drew1) | exact HB.out)) hb); have n1_ := Aside0.mk (hbox); have n2_ := Aside0.mk ((by rw [hg]; exact (below_size (by repeat (first | (with_reducible first | exact HB.out | apply below_alloc | apply pw_below_drewN | apply below_drew1) | exact HB.out))) : w.heap.size ≤ gb188)); have n3_ := Aside0.mk ((by rw [hg]; exact (below_size (by repeat (first | (with_reducible first | exact HB.out | apply below_alloc | apply pw_below_drewN | apply below_drew1) | exact HB.out))) : w.heap.size ≤ gb188)); clear HB; have HB := n0_; have BK188 := n1_; have GW188 := n2_; have GE188 := n3_; clear n0_ n1_ n2_ n3_; clear hb hbox hg) | ((with_reducible refine gate_dst (N := 2) rfl ?_); refine box_event ?hg (N := 2) ?hd (cs := #[.bool false, .slice none 0 0, .int .i64 0]) (t := 30) ?hr ?_; (case hd => rfl); (case hg => rfl); (case hr => first | (go_simp; done) | (go_simp; rfl)); intro gb189 hg w4 hbox hb; have n0_ := Aside0.mk (blk_below (g := gb188) (o := .cells #[.string a0_0, .int .i64 a0_1] 23 (0, 0)) (by (with_reducible repeat (first | refine blk_drewN ?_ _ | refine blk_drew ?_ | refine blk_alloc ?_ _)); exact BK188.out) hb); have n1_ := Aside0.mk (below_step (by repeat (first | (with_reducible first | exact HB.out | apply below_alloc | apply pw_below_drewN | apply below_drew1 | refine below_set ?_ GE188.out) | exact HB.out)) hb); have n2_ := Aside0.mk (hbox); have n3_ := Aside0.mk ((by rw [hg]; exact (below_size (by repeat (first | (with_reducible first | exact HB.out | apply below_alloc | apply pw_below_drewN | apply below_drew1 | refine below_set ?_ GE188.out) | exact HB.out))) : w.heap.size ≤ gb189)); have n4_ := Aside0.mk ((by rw [hg]; exact (below_size (by repeat (first | (with_reducible first | exact HB.out | apply below_alloc | apply pw_below_drewN | apply below_drew1 | refine below_set ?_ GE188.out) | exact HB.out))) : w.heap.size ≤ gb189)); have n5_ := Aside0.mk ((by rw [hg]; exact Nat.ne_of_lt (blk_lt (g := gb188) (o := .cells #[.string a0_0, .int .i64 a0_1] 23 (0, 0)) (by (with_reducible repeat (first | refine blk_drewN ?_ _ | refine blk_drew ?_ | refine blk_alloc ?_ _)); exact BK188.out)) : gb188 ≠ gb189)); have n6_ := Aside0.mk ((by rw [hg]; exact Nat.ne_of_gt (blk_lt (g := gb188) (o := .cells #[.string a0_0, .int .i64 a0_1] 23 (0, 0)) (by (with_reducible repeat (first | refine blk_drewN ?_ _ | refine blk_drew ?_ | refine blk_alloc ?_ _)); exact BK188.out)) : gb189 ≠ gb188)); clear BK188; clear HB; have BK188 := n0_; have HB := n1_; have BK189 := n2_; have GW189 := n3_; have GE189 := n4_; have NB188_189 := n5_; have NB189_188 := n6_; clear n0_ n1_ n2_ n3_ n4_ n5_ n6_; clear hb hbox hg))
  (try simp only [Act.put, List.setIfInBounds_toArray, List.set_cons_zero, List.set_cons_succ])
  go_cut [19] (fun v19 wc => ∃ (kq : Nat) (x19_1 : Bool), v19 = .bool x19_1 ∧ Aside0 (spec_OfAny.j0 kq x19_1 a0_0 a0_1 = some (r1, r2, r3, r4)) ∧ Aside0 (kq ≤ k) ∧ Aside0 (wc.heap[gb188]? = some (.cells #[.string a0_0, .int .i64 a0_1] 23 (0, 0))) ∧ Aside0 (wc.heap[gb189]? = some (.cells #[.bool false, (.slice none 0 0), .int .i64 0] 30 (0, 0))) ∧ Aside0 (Below w.heap.size w wc))
  case first =>
    have H := HC2.out
    clear HC2
    by_cases c5 : (a0_0.size : Int) > 2001
    · rw [if_pos c5] at H
      have c5b0 : decide (2001 < (a0_0.size : Int)) = true := decide_eq_true c5
      have c5b1 : decide (2001 < a0_0.size) = true := decide_eq_true (by omega)
      clear c5
      (first | rw [c5b0] | (simp only [i64_w, i32_w]; rw [c5b0]) | skip)
      have H' := Aside0.mk H
      clear H
      have hnb6 := NB188_189.out
      have hnc6 := NB189_188.out
      have hcz7_0 : w4.cell? ⟨gb188, 0, none⟩ = some (.string a0_0) := (blk_cell BK188.out 0).trans rfl
      have hcz7_1 : w4.cell? ⟨gb188, 1, none⟩ = some (.int .i64 a0_1) := (blk_cell BK188.out 1).trans rfl
      have hfz7_0 := blk_frozen BK188.out 0
      have hfz7_1 := blk_frozen BK188.out 1
      go_wp2
      go_meet
      case rel => exact ⟨_, (true), (by first | rfl | (simp; done) | (simp [*]; done)), H', ⟨by first | omega | exact Nat.le_refl _⟩, ⟨by (with_reducible repeat (first | refine blk_drewN ?_ _ | refine blk_drew ?_ | refine blk_alloc ?_ _)); exact BK188.out⟩, ⟨by (with_reducible repeat (first | refine blk_drewN ?_ _ | refine blk_drew ?_ | refine blk_alloc ?_ _)); exact BK189.out⟩, ⟨by repeat (first | (with_reducible first | exact HB.out | apply below_alloc | apply pw_below_drewN | apply below_drew1 | refine below_set ?_ GE188.out | refine below_set ?_ GE189.out) | exact HB.out)⟩⟩
    · rw [if_neg c5] at H
      have c5b0 : decide (2001 < (a0_0.size : Int)) = false := decide_eq_false c5
      have c5b1 : decide (2001 < a0_0.size) = false := decide_eq_false (by omega)
      clear c5
      (first | rw [c5b0] | (simp only [i64_w, i32_w]; rw [c5b0]) | skip)
      by_cases c8 : a0_1 < (-2000)
      · rw [if_pos c8] at H
        have c8b0 : decide (a0_1 < (-2000)) = true := decide_eq_true c8
        clear c8
        have H' := Aside0.mk H
        clear H
        have hnb9 := NB188_189.out
        have hnc9 := NB189_188.out
        have hcz10_0 : w4.cell? ⟨gb188, 0, none⟩ = some (.string a0_0) := (blk_cell BK188.out 0).trans rfl
        have hcz10_1 : w4.cell? ⟨gb188, 1, none⟩ = some (.int .i64 a0_1) := (blk_cell BK188.out 1).trans rfl
        have hfz10_0 := blk_frozen BK188.out 0
        have hfz10_1 := blk_frozen BK188.out 1
        go_wp2
        go_meet
        case rel => exact ⟨_, (true), (by first | rfl | (simp; done) | (simp [*]; done)), H', ⟨by first | omega | exact Nat.le_refl _⟩, ⟨by (with_reducible repeat (first | refine blk_drewN ?_ _ | refine blk_drew ?_ | refine blk_alloc ?_ _)); exact BK188.out⟩, ⟨by (with_reducible repeat (first | refine blk_drewN ?_ _ | refine blk_drew ?_ | refine blk_alloc ?_ _)); exact BK189.out⟩, ⟨by repeat (first | (with_reducible first | exact HB.out | apply below_alloc | apply pw_below_drewN | apply below_drew1 | refine below_set ?_ GE188.out | refine below_set ?_ GE189.out) | exact HB.out)⟩⟩
      · rw [if_neg c8] at H
        have c8b0 : decide (a0_1 < (-2000)) = false := decide_eq_false c8
        clear c8
        have H' := Aside0.mk H
        clear H
        have hnb11 := NB188_189.out
        have hnc11 := NB189_188.out
        have hcz12_0 : w4.cell? ⟨gb188, 0, none⟩ = some (.string a0_0) := (blk_cell BK188.out 0).trans rfl
        have hcz12_1 : w4.cell? ⟨gb188, 1, none⟩ = some (.int .i64 a0_1) := (blk_cell BK188.out 1).trans rfl
        have hfz12_0 := blk_frozen BK188.out 0
        have hfz12_1 := blk_frozen BK188.out 1
        go_wp2
        go_meet
        case rel => exact ⟨_, (decide (a0_1 > 2000)), (by first | rfl | (simp; done) | (simp [*]; done)), H', ⟨by first | omega | exact Nat.le_refl _⟩, ⟨by (with_reducible repeat (first | refine blk_drewN ?_ _ | refine blk_drew ?_ | refine blk_alloc ?_ _)); exact BK188.out⟩, ⟨by (with_reducible repeat (first | refine blk_drewN ?_ _ | refine blk_drew ?_ | refine blk_alloc ?_ _)); exact BK189.out⟩, ⟨by repeat (first | (with_reducible first | exact HB.out | apply below_alloc | apply pw_below_drewN | apply below_drew1 | refine below_set ?_ GE188.out | refine below_set ?_ GE189.out) | exact HB.out)⟩⟩
  case rest =>
    clear HC2
    try clear c1
    try clear p2
    try clear c5
    try clear c5b0
    try clear c5b1
    try clear c6
    try clear c8
    try clear c8b0
    try clear c9
    try clear c11
    try clear hcz10_0
    try clear hcz10_1
    try clear hcz12_0
    try clear hcz12_1
    try clear hcz7_0
    try clear hcz7_1
    try clear hfz10_0
    try clear hfz10_1
    try clear hfz12_0
    try clear hfz12_1
    try clear hfz7_0
    try clear hfz7_1
    obtain ⟨kq, x19_1, rfl, HA, HJ1, BK188, BK189, HB⟩ := hcut
    cases kq with
    | zero => exact absurd HA.out (by simp [spec_OfAny.j0])
    | succ kj1 =>
      have H := HA.out
      clear HA
      simp only [spec_OfAny.j0] at H
      by_cases c13 : x19_1 = true
      · subst c13
        have H1 : (some (false, ([] : List Int), 0, false)) = some (r1, r2, r3, r4) := by rw [if_pos rfl] at H; exact H
        clear H
        have H := H1
        clear H1
        simp only [Option.some.injEq, Prod.mk.injEq] at H
        obtain ⟨rfl, rfl, rfl, rfl⟩ := H
        have hnb14 := NB189_188.out
        have hnc14 := NB188_189.out
        have hcz15_0 : wc.cell? ⟨gb189, 0, none⟩ = some (.bool false) := (blk_cell BK189.out 0).trans rfl
        have hcz15_1 : wc.cell? ⟨gb189, 1, none⟩ = some (.slice none 0 0) := (blk_cell BK189.out 1).trans rfl
        have hcz15_2 : wc.cell? ⟨gb189, 2, none⟩ = some (.int .i64 0) := (blk_cell BK189.out 2).trans rfl
        have hfz15_0 := blk_frozen BK189.out 0
        have hfz15_1 := blk_frozen BK189.out 1
        have hfz15_2 := blk_frozen BK189.out 2
        go_wp2
        refine bodyPost_ret (results_ct rfl _ _ gb189 30 #[.bool false, .slice none 0 0, .int .i64 0] (0, 0) _ rfl (by (with_reducible repeat (first | refine blk_drewN ?_ _ | refine blk_drew ?_ | refine blk_alloc ?_ _)); refine blk_put (cs := #[.bool false, .slice none 0 0, .int .i64 0]) ?_ 2 _ rfl; (with_reducible repeat (first | refine blk_drewN ?_ _ | refine blk_drew ?_ | refine blk_alloc ?_ _)); refine blk_put (cs := #[.bool false, .slice none 0 0, .int .i64 0]) ?_ 1 _ rfl; (with_reducible repeat (first | refine blk_drewN ?_ _ | refine blk_drew ?_ | refine blk_alloc ?_ _)); refine blk_put (cs := #[.bool false, .slice none 0 0, .int .i64 0]) ?_ 0 _ rfl; (with_reducible repeat (first | refine blk_drewN ?_ _ | refine blk_drew ?_ | refine blk_alloc ?_ _)); exact BK189.out) Tryd.underlying30 rfl (by kernel_rfl)) rfl ?_
        exact ⟨_, by first | rfl | (simp [errW_none, errW_some] <;> rfl) | (simp [*, errW_none, errW_some] <;> rfl), (Kd.V_nil _ _ _ _ _), by repeat (first | (with_reducible first | exact HB.out | apply below_alloc | apply pw_below_drewN | apply below_drew1 | refine below_set ?_ GE188.out | refine below_set ?_ GE189.out) | exact HB.out)⟩
      · replace c13 := Bool.eq_false_iff.mpr c13
        subst c13
        have H1 : ((spec_ParseWhole.f kj1 a0_0).bind fun bt190 => (if bt190.2.2 = true then ((spec_Whole_String.f kj1 bt190.1 bt190.2.1).bind fun t196 => (some (bt190.1, bt190.2.1, a0_1, (t196.toList == a0_0.toList)))) else (some (bt190.1, bt190.2.1, a0_1, false)))) = some (r1, r2, r3, r4) := by rw [if_neg (show ¬ (false = true) by decide)] at H; exact H
        clear H
        have H := H1
        clear H1
        replace H := Option.bind_eq_some_iff.mp H
        obtain ⟨⟨t190, t191, t194⟩, A160, H⟩ := H
        replace H : (if t194 = true then ((spec_Whole_String.f kj1 t190 t191).bind fun t196 => (some (t190, t191, a0_1, (t196.toList == a0_0.toList)))) else (some (t190, t191, a0_1, false))) = some (r1, r2, r3, r4) := H
        have A16 := Aside0.mk A160
        clear A160
        by_cases c17 : t194 = true
        · subst c17
          have H1 : ((spec_Whole_String.f kj1 t190 t191).bind fun t196 => (some (t190, t191, a0_1, (t196.toList == a0_0.toList)))) = some (r1, r2, r3, r4) := by rw [if_pos rfl] at H; exact H
          clear H
          have H := H1
          clear H1
          replace H := Option.bind_eq_some_iff.mp H
          obtain ⟨t196, A180, H⟩ := H
          replace H : (some (t190, t191, a0_1, (t196.toList == a0_0.toList))) = some (r1, r2, r3, r4) := H
          have A18 := Aside0.mk A180
          clear A180
          simp only [Option.some.injEq, Prod.mk.injEq] at H
          obtain ⟨rfl, rfl, rfl, rfl⟩ := H
          have hnb19 := NB188_189.out
          have hnc19 := NB189_188.out
          have hcz20_0 : wc.cell? ⟨gb188, 0, none⟩ = some (.string a0_0) := (blk_cell BK188.out 0).trans rfl
          have hcz20_1 : wc.cell? ⟨gb188, 1, none⟩ = some (.int .i64 a0_1) := (blk_cell BK188.out 1).trans rfl
          have hfz20_0 := blk_frozen BK188.out 0
          have hfz20_1 := blk_frozen BK188.out 1
          try go_wp2_with (first | ((with_reducible refine gate_callee (f := 10) rfl ?_); refine goesL_ (some 24) rfl rfl Tryd.func10 (by kernel_rfl) rfl #[.string a0_0] rfl (by (try simp only [List.map_toArray, List.map_cons, List.map_nil]); first | done | rfl | (simp only [List.length_drop, List.length_take]; rfl)) ?_; (with_reducible refine (spec_ParseWhole.calls kj1 a0_0 t190 t191 true _ A16.out).mono ?_); rintro e w21 ⟨v192, rfl, ho0, hb⟩; refine ⟨_, rfl, ?_⟩; have n0_ := Aside0.mk (Kd.V_lower (Kd.V_mono (ok' := fun k_ => (w.heap.size ≤ k_) ∧ k_ ≠ gb188 ∧ k_ ≠ gb189) ho0 (fun k_ hk_ => ⟨(Nat.le_trans (below_size (by repeat (first | (with_reducible first | exact HB.out | apply below_alloc | apply pw_below_drewN | apply below_drew1 | refine below_set ?_ GE188.out | refine below_set ?_ GE189.out) | exact HB.out))) hk_), (Kd.freshB (g := gb188) (o := .cells #[.string a0_0, .int .i64 a0_1] 23 (0, 0)) (by (with_reducible repeat (first | refine blk_drewN ?_ _ | refine blk_drew ?_ | refine blk_alloc ?_ _)); exact BK188.out) k_ hk_), (Kd.freshB (g := gb189) (o := .cells #[.bool false, .slice none 0 0, .int .i64 0] 30 (0, 0)) (by (with_reducible repeat (first | refine blk_drewN ?_ _ | refine blk_drew ?_ | refine blk_alloc ?_ _)); exact BK189.out) k_ hk_)⟩)) (below_size (by repeat (first | (with_reducible first | exact HB.out | apply below_alloc | apply pw_below_drewN | apply below_drew1 | refine below_set ?_ GE188.out | refine below_set ?_ GE189.out) | exact HB.out)))); have n1_ := Aside0.mk (blk_below (g := gb188) (o := .cells #[.string a0_0, .int .i64 a0_1] 23 (0, 0)) (by (with_reducible repeat (first | refine blk_drewN ?_ _ | refine blk_drew ?_ | refine blk_alloc ?_ _)); exact BK188.out) hb); have n2_ := Aside0.mk (blk_below (g := gb189) (o := .cells #[.bool false, .slice none 0 0, .int .i64 0] 30 (0, 0)) (by (with_reducible repeat (first | refine blk_drewN ?_ _ | refine blk_drew ?_ | refine blk_alloc ?_ _)); exact BK189.out) hb); have n3_ := Aside0.mk (below_step (by repeat (first | (with_reducible first | exact HB.out | apply below_alloc | apply pw_below_drewN | apply below_drew1 | refine below_set ?_ GE188.out | refine below_set ?_ GE189.out) | exact HB.out)) hb); clear BK188; clear BK189; clear HB; have HO193 := n0_; have BK188 := n1_; have BK189 := n2_; have HB := n3_; clear n0_ n1_ n2_ n3_; (try clear hb); (try clear hb2); (try clear hk); (try clear hi); (try clear ho0)) | ((with_reducible refine gate_dst (N := 4) rfl ?_); refine box_event ?hg (N := 4) ?hd (cs := #[.bool false, .slice none 0 0]) (t := 28) ?hr ?_; (case hd => rfl); (case hg => rfl); (case hr => first | (go_simp; done) | (go_simp; rfl)); intro gb195 hg w22 hbox hb; have n0_ := Aside0.mk (Kd.V_below (Kd.V_elderB (by (with_reducible repeat (first | apply Kd.V_alloc | apply Kd.V_drewN | apply Kd.V_drew)); exact HO193.out) gb195 (Nat.le_of_eq hg.symm)) hb); have n1_ := Aside0.mk (blk_below (g := gb188) (o := .cells #[.string a0_0, .int .i64 a0_1] 23 (0, 0)) (by (with_reducible repeat (first | refine blk_drewN ?_ _ | refine blk_drew ?_ | refine blk_alloc ?_ _)); exact BK188.out) hb); have n2_ := Aside0.mk (blk_below (g := gb189) (o := .cells #[.bool false, .slice none 0 0, .int .i64 0] 30 (0, 0)) (by (with_reducible repeat (first | refine blk_drewN ?_ _ | refine blk_drew ?_ | refine blk_alloc ?_ _)); exact BK189.out) hb); have n3_ := Aside0.mk (below_step (by repeat (first | (with_reducible first | exact HB.out | apply below_alloc | apply pw_below_drewN | apply below_drew1 | refine below_set ?_ GE188.out | refine below_set ?_ GE189.out) | exact HB.out)) hb); have n4_ := Aside0.mk (hbox); have n5_ := Aside0.mk ((by rw [hg]; exact (below_size (by repeat (first | (with_reducible first | exact HB.out | apply below_alloc | apply pw_below_drewN | apply below_drew1 | refine below_set ?_ GE188.out | refine below_set ?_ GE189.out) | exact HB.out))) : w.heap.size ≤ gb195)); have n6_ := Aside0.mk ((by rw [hg]; exact (below_size (by repeat (first | (with_reducible first | exact HB.out | apply below_alloc | apply pw_below_drewN | apply below_drew1 | refine below_set ?_ GE188.out | refine below_set ?_ GE189.out) | exact HB.out))) : w.heap.size ≤ gb195)); have n7_ := Aside0.mk ((by rw [hg]; exact Nat.ne_of_lt (blk_lt (g := gb188) (o := .cells #[.string a0_0, .int .i64 a0_1] 23 (0, 0)) (by (with_reducible repeat (first | refine blk_drewN ?_ _ | refine blk_drew ?_ | refine blk_alloc ?_ _)); exact BK188.out)) : gb188 ≠ gb195)); have n8_ := Aside0.mk ((by rw [hg]; exact Nat.ne_of_gt (blk_lt (g := gb188) (o := .cells #[.string a0_0, .int .i64 a0_1] 23 (0, 0)) (by (with_reducible repeat (first | refine blk_drewN ?_ _ | refine blk_drew ?_ | refine blk_alloc ?_ _)); exact BK188.out)) : gb195 ≠ gb188)); have n9_ := Aside0.mk ((by rw [hg]; exact Nat.ne_of_lt (blk_lt (g := gb189) (o := .cells #[.bool false, .slice none 0 0, .int .i64 0] 30 (0, 0)) (by (with_reducible repeat (first | refine blk_drewN ?_ _ | refine blk_drew ?_ | refine blk_alloc ?_ _)); exact BK189.out)) : gb189 ≠ gb195)); have n10_ := Aside0.mk ((by rw [hg]; exact Nat.ne_of_gt (blk_lt (g := gb189) (o := .cells #[.bool false, .slice none 0 0, .int .i64 0] 30 (0, 0)) (by (with_reducible repeat (first | refine blk_drewN ?_ _ | refine blk_drew ?_ | refine blk_alloc ?_ _)); exact BK189.out)) : gb195 ≠ gb189)); clear HO193; clear BK188; clear BK189; clear HB; have HO193 := n0_; have BK188 := n1_; have BK189 := n2_; have HB := n3_; have BK195 := n4_; have GW195 := n5_; have GE195 := n6_; have NB188_195 := n7_; have NB195_188 := n8_; have NB189_195 := n9_; have NB195_189 := n10_; clear n0_ n1_ n2_ n3_ n4_ n5_ n6_ n7_ n8_ n9_ n10_; clear hb hbox hg; have hnb23 := NB195_188.out; have hnc23 := NB188_195.out; have hnb24 := NB195_189.out; have hnc24 := NB189_195.out; have hcz25_0 : w22.cell? ⟨gb195, 0, none⟩ = some (.bool false) := (blk_cell BK195.out 0).trans rfl; have hcz25_1 : w22.cell? ⟨gb195, 1, none⟩ = some (.slice none 0 0) := (blk_cell BK195.out 1).trans rfl; have hfz25_0 := blk_frozen BK195.out 0; have hfz25_1 := blk_frozen BK195.out 1; obtain ⟨Ao26, co26, eo26⟩ := Kd.V_slice HO193.out; subst eo26))
          have n0_ : Aside0 (Kd.V (Kd.int .u32) 58 ((w22.setCell ⟨gb195, 0, none⟩ (.bool t190)).setCell ⟨gb195, 1, none⟩ (.slice Ao26 t191.length co26)) w.heap.size (fun k_ => (w.heap.size ≤ k_) ∧ k_ ≠ gb188 ∧ k_ ≠ gb189 ∧ k_ ≠ gb195) (.slice Ao26 t191.length co26) t191) := ⟨by (with_reducible repeat (first | apply Kd.V_alloc | apply Kd.V_drewN | apply Kd.V_drew)); exact Kd.V_mono (Kd.V_far (p := ⟨gb195, 1, none⟩) (Kd.V_far (p := ⟨gb195, 0, none⟩) (Kd.V_mono HO193.out (fun k_ hk => (⟨hk, hk.2⟩ : _ ∧ k_ ≠ gb195))) (fun _ hk => hk.2) (.bool t190)) (fun _ hk => hk.2) (.slice Ao26 t191.length co26)) (fun _ hk => ⟨hk.1.1.1, ⟨hk.1.1.2.1, ⟨hk.1.1.2.2, hk.1.2⟩⟩⟩)⟩
          have n1_ : Aside0 (((w22.setCell ⟨gb195, 0, none⟩ (.bool t190)).setCell ⟨gb195, 1, none⟩ (.slice Ao26 t191.length co26)).heap[gb188]? = some (.cells #[.string a0_0, .int .i64 a0_1] 23 (0, 0))) := ⟨by (with_reducible repeat (first | refine blk_drewN ?_ _ | refine blk_drew ?_ | refine blk_alloc ?_ _)); refine blk_far ?_ NB188_195.out _; (with_reducible repeat (first | refine blk_drewN ?_ _ | refine blk_drew ?_ | refine blk_alloc ?_ _)); refine blk_far ?_ NB188_195.out _; (with_reducible repeat (first | refine blk_drewN ?_ _ | refine blk_drew ?_ | refine blk_alloc ?_ _)); exact BK188.out⟩
          have n2_ : Aside0 (((w22.setCell ⟨gb195, 0, none⟩ (.bool t190)).setCell ⟨gb195, 1, none⟩ (.slice Ao26 t191.length co26)).heap[gb189]? = some (.cells #[.bool false, .slice none 0 0, .int .i64 0] 30 (0, 0))) := ⟨by (with_reducible repeat (first | refine blk_drewN ?_ _ | refine blk_drew ?_ | refine blk_alloc ?_ _)); refine blk_far ?_ NB189_195.out _; (with_reducible repeat (first | refine blk_drewN ?_ _ | refine blk_drew ?_ | refine blk_alloc ?_ _)); refine blk_far ?_ NB189_195.out _; (with_reducible repeat (first | refine blk_drewN ?_ _ | refine blk_drew ?_ | refine blk_alloc ?_ _)); exact BK189.out⟩
          have n3_ : Aside0 (((w22.setCell ⟨gb195, 0, none⟩ (.bool t190)).setCell ⟨gb195, 1, none⟩ (.slice Ao26 t191.length co26)).heap[gb195]? = some (.cells #[.bool t190, .slice Ao26 t191.length co26] 28 (0, 0))) := ⟨by (with_reducible repeat (first | refine blk_drewN ?_ _ | refine blk_drew ?_ | refine blk_alloc ?_ _)); refine blk_put (cs := #[.bool t190, .slice none 0 0]) ?_ 1 _ rfl; (with_reducible repeat (first | refine blk_drewN ?_ _ | refine blk_drew ?_ | refine blk_alloc ?_ _)); refine blk_put (cs := #[.bool false, .slice none 0 0]) ?_ 0 _ rfl; (with_reducible repeat (first | refine blk_drewN ?_ _ | refine blk_drew ?_ | refine blk_alloc ?_ _)); exact BK195.out⟩
          have n4_ : Aside0 (Below w.heap.size w ((w22.setCell ⟨gb195, 0, none⟩ (.bool t190)).setCell ⟨gb195, 1, none⟩ (.slice Ao26 t191.length co26))) := ⟨by repeat (first | (with_reducible first | exact HB.out | apply below_alloc | apply pw_below_drewN | apply below_drew1 | refine below_set ?_ GE188.out | refine below_set ?_ GE189.out | refine below_set ?_ GE195.out) | exact HB.out)⟩
          (try clear HO193)
          (try clear BK188)
          (try clear BK189)
          (try clear BK195)
          (try clear HB)
          generalize ((w22.setCell ⟨gb195, 0, none⟩ (.bool t190)).setCell ⟨gb195, 1, none⟩ (.slice Ao26 t191.length co26)) = w27 at n0_ n1_ n2_ n3_ n4_ ⊢
          have HO193 := n0_
          have BK188 := n1_
          have BK189 := n2_
          have BK195 := n3_
          have HB := n4_
          clear n0_ n1_ n2_ n3_ n4_
          have n0_ := Aside0.mk (Kd.V_drew HO193.out)
          have n1_ := Aside0.mk (blk_drew BK188.out)
          have n2_ := Aside0.mk (blk_drew BK189.out)
          have n3_ := Aside0.mk (blk_drew BK195.out)
          have n4_ := Aside0.mk (below_drew1 HB.out)
          clear HO193
          clear BK188
          clear BK189
          clear BK195
          clear HB
          have HO193 := n0_
          have BK188 := n1_
          have BK189 := n2_
          have BK195 := n3_
          have HB := n4_
          clear n0_ n1_ n2_ n3_ n4_
          refine start_ (n := 14) (S := fun w' => w'.cell? ⟨gb195, 0, none⟩ = some (.bool t190) ∧ w'.cell? ⟨gb195, 1, none⟩ = some (.slice Ao26 t191.length co26) ∧ w'.cell? ⟨gb188, 0, none⟩ = some (.string a0_0) ∧ w'.cell? ⟨gb188, 1, none⟩ = some (.int .i64 a0_1)) (ds := []) #[false, false, false, false, false, false, false, false, false, false, false, false, false, false] (by kernel_rfl) rfl rfl ⟨(blk_cell BK195.out 0).trans rfl, (blk_cell BK195.out 1).trans rfl, (blk_cell BK188.out 0).trans rfl, (blk_cell BK188.out 1).trans rfl⟩ (fun hHeld => ?_); refine with_tabW spec_OfAny.tab4 spec_OfAny.bits4 (fun HT_ HW_ => ?_)
          generalize w27.drew = w28 at HO193 BK188 BK189 BK195 HB hHeld ⊢
          refine pure_ (i := 1) (N := some 28) (v := ?_) (a' := ?_) #[false, true, false, false, false, false, false, false, false, false, false, false, false, false] rfl rfl (any_of HT_.out (by kernel_rfl)) (fun _ _ _ h => h) (Or.inl ⟨by rfl, ?_⟩) ?_ ?_
          rotate_left
          · intro w'
            go_simp
            with_reducible rfl
          rotate_left
          · simp only [Act.put, List.setIfInBounds_toArray, List.set_cons_zero, List.set_cons_succ, i64_w, i32_w]
            rfl
          refine pure_ (i := 4) (N := some 31) (v := ?_) (a' := ?_) #[false, true, false, false, true, false, false, false, false, false, false, false, false, false] rfl rfl (any_of HT_.out (by kernel_rfl)) (fun _ _ _ h => h) (Or.inl ⟨by rfl, ?_⟩) ?_ ?_
          rotate_left
          · intro w'
            go_simp
            with_reducible rfl
          rotate_left
          · simp only [Act.put, List.setIfInBounds_toArray, List.set_cons_zero, List.set_cons_succ, i64_w, i32_w]
            rfl
          refine pure_ (i := 5) (N := some 32) (v := ?_) (a' := ?_) #[false, true, false, false, true, true, false, false, false, false, false, false, false, false] rfl rfl (any_of HT_.out (by kernel_rfl)) (fun _ _ _ h => h) (Or.inl ⟨by rfl, ?_⟩) ?_ ?_
          rotate_left
          · intro w'
            go_simp
            with_reducible rfl
          rotate_left
          · simp only [Act.put, List.setIfInBounds_toArray, List.set_cons_zero, List.set_cons_succ, i64_w, i32_w]
            rfl
          refine pure_ (i := 8) (N := some 35) (v := ?_) (a' := ?_) #[false, true, false, false, true, true, false, false, true, false, false, false, false, false] rfl rfl (any_of HT_.out (by kernel_rfl)) (fun _ _ _ h => h) (Or.inl ⟨by rfl, ?_⟩) ?_ ?_
          rotate_left
          · intro w'
            go_simp
            with_reducible rfl
          rotate_left
          · simp only [Act.put, List.setIfInBounds_toArray, List.set_cons_zero, List.set_cons_succ, i64_w, i32_w]
            rfl
          refine take_ (i := 0) (N := some 27) (v := ?_) (a' := ?_) #[true, true, false, false, true, true, false, false, true, false, false, false, false, false] rfl rfl (take_ofW HT_.out HW_.out (by kernel_rfl)) (fun _ _ _ h => h) (Or.inl ⟨by rfl, ?_⟩) hHeld ?_ ?_
          rotate_left
          · rintro w' ⟨s0, s1, s2, s3⟩
            go_simp
            with_reducible rfl
          rotate_left
          · simp only [Act.put, List.setIfInBounds_toArray, List.set_cons_zero, List.set_cons_succ, i64_w, i32_w]
            rfl
          refine take_ (i := 2) (N := some 29) (v := ?_) (a' := ?_) #[true, true, true, false, true, true, false, false, true, false, false, false, false, false] rfl rfl (take_ofW HT_.out HW_.out (by kernel_rfl)) (fun _ _ _ h => h) (Or.inl ⟨by rfl, ?_⟩) hHeld ?_ ?_
          rotate_left
          · rintro w' ⟨s0, s1, s2, s3⟩
            go_simp
            with_reducible rfl
          rotate_left
          · simp only [Act.put, List.setIfInBounds_toArray, List.set_cons_zero, List.set_cons_succ, i64_w, i32_w]
            rfl
          refine pure_ (i := 3) (N := some 30) (v := ?_) (a' := ?_) #[true, true, true, true, true, true, false, false, true, false, false, false, false, false] rfl rfl (any_of HT_.out (by kernel_rfl)) (fun _ _ _ h => h) (Or.inl ⟨by rfl, ?_⟩) ?_ ?_
          rotate_left
          · intro w'
            go_simp
            with_reducible rfl
          rotate_left
          · simp only [Act.put, List.setIfInBounds_toArray, List.set_cons_zero, List.set_cons_succ, i64_w, i32_w]
            rfl
          refine take_ (i := 6) (N := some 33) (v := ?_) (a' := ?_) #[true, true, true, true, true, true, true, false, true, false, false, false, false, false] rfl rfl (take_ofW HT_.out HW_.out (by kernel_rfl)) (fun _ _ _ h => h) (Or.inl ⟨by rfl, ?_⟩) hHeld ?_ ?_
          rotate_left
          · rintro w' ⟨s0, s1, s2, s3⟩
            go_simp
            with_reducible rfl
          rotate_left
          · simp only [Act.put, List.setIfInBounds_toArray, List.set_cons_zero, List.set_cons_succ, i64_w, i32_w]
            rfl
          refine take_ (i := 9) (N := some 36) (v := ?_) (a' := ?_) #[true, true, true, true, true, true, true, false, true, true, false, false, false, false] rfl rfl (take_ofW HT_.out HW_.out (by kernel_rfl)) (fun _ _ _ h => h) (Or.inl ⟨by rfl, ?_⟩) hHeld ?_ ?_
          rotate_left
          · rintro w' ⟨s0, s1, s2, s3⟩
            go_simp
            with_reducible rfl
          rotate_left
          · simp only [Act.put, List.setIfInBounds_toArray, List.set_cons_zero, List.set_cons_succ, i64_w, i32_w]
            rfl
          refine one_ (i := 7) (N := some 34) #[true, true, true, true, true, true, true, true, true, true, false, false, false, false] rfl rfl (one_of HT_.out (by kernel_rfl)) (by decide) (fun K hK => ?_)
          refine goes_ Tryd.func11 (by kernel_rfl) rfl #[.agg #[.bool t190, .slice Ao26 t191.length co26]] (by rfl) rfl rfl (by (try simp only [List.map_toArray, List.map_cons, List.map_nil]); first | done | rfl | (simp only [List.length_drop, List.length_take]; rfl)) ?_
          with_reducible refine (spec_Whole_String.calls kj1 t190 _ _ t191 t196 _ ?side1 ?side2 A18.out).mono ?_
          (case side1 => repeat (first | exact (Kd.V_reads' HO193.out).2.2 | (with_reducible refine Kd.C_alloc ?_ _) | (with_reducible refine Kd.C_drewN ?_ _) | (with_reducible refine Kd.C_drew ?_)))
          (case side2 => exact (Kd.V_reads' HO193.out).2.1)
          rintro e w29 ⟨rfl, hb⟩
          refine ⟨_, rfl, ?_⟩
          have n0_ := Aside0.mk (Kd.V_below (by (with_reducible repeat (first | apply Kd.V_alloc | apply Kd.V_drewN | apply Kd.V_drew)); exact HO193.out) hb)
          have n1_ := Aside0.mk (blk_below (g := gb188) (o := .cells #[.string a0_0, .int .i64 a0_1] 23 (0, 0)) (by (with_reducible repeat (first | refine blk_drewN ?_ _ | refine blk_drew ?_ | refine blk_alloc ?_ _)); exact BK188.out) hb)
          have n2_ := Aside0.mk (blk_below (g := gb189) (o := .cells #[.bool false, .slice none 0 0, .int .i64 0] 30 (0, 0)) (by (with_reducible repeat (first | refine blk_drewN ?_ _ | refine blk_drew ?_ | refine blk_alloc ?_ _)); exact BK189.out) hb)
          have n3_ := Aside0.mk (blk_below (g := gb195) (o := .cells #[.bool t190, .slice Ao26 t191.length co26] 28 (0, 0)) (by (with_reducible repeat (first | refine blk_drewN ?_ _ | refine blk_drew ?_ | refine blk_alloc ?_ _)); exact BK195.out) hb)
          have n4_ := Aside0.mk (below_step (by repeat (first | (with_reducible first | exact HB.out | apply below_alloc | apply pw_below_drewN | apply below_drew1 | refine below_set ?_ GE188.out | refine below_set ?_ GE189.out | refine below_set ?_ GE195.out) | exact HB.out)) hb)
          clear HO193
          clear BK188
          clear BK189
          clear BK195
          clear HB
          have HO193 := n0_
          have BK188 := n1_
          have BK189 := n2_
          have BK195 := n3_
          have HB := n4_
          clear n0_ n1_ n2_ n3_ n4_
          (try clear hb)
          (try clear hb2)
          (try clear hk)
          (try clear hi)
          refine hK.out _ _ ⟨(blk_cell BK195.out 0).trans rfl, (blk_cell BK195.out 1).trans rfl, (blk_cell BK188.out 0).trans rfl, (blk_cell BK188.out 1).trans rfl⟩ (fun hHeld => ?_)
          clear hK K
          refine norm_ (a' := ?_) ?_ ?_
          rotate_left
          · show Act.put _ (some 34) _ = _
            simp only [Act.put, List.setIfInBounds_toArray, List.set_cons_zero, List.set_cons_succ, i64_w, i32_w]
            rfl
          refine pure_ (i := 10) (N := some 37) (v := ?_) (a' := ?_) #[true, true, true, true, true, true, true, true, true, true, true, false, false, false] rfl rfl (any_of HT_.out (by kernel_rfl)) (fun _ _ _ h => h) (Or.inl ⟨by rfl, ?_⟩) ?_ ?_
          rotate_left
          · intro w'
            go_simp
            with_reducible rfl
          rotate_left
          · simp only [Act.put, List.setIfInBounds_toArray, List.set_cons_zero, List.set_cons_succ, i64_w, i32_w]
            rfl
          refine pure_ (i := 11) (N := some 38) (v := ?_) (a' := ?_) #[true, true, true, true, true, true, true, true, true, true, true, true, false, false] rfl rfl (any_of HT_.out (by kernel_rfl)) (fun _ _ _ h => h) (Or.inl ⟨by rfl, ?_⟩) ?_ ?_
          rotate_left
          · intro w'
            go_simp
            with_reducible rfl
          rotate_left
          · simp only [Act.put, List.setIfInBounds_toArray, List.set_cons_zero, List.set_cons_succ, i64_w, i32_w]
            rfl
          refine one_ (i := 12) (N := none) #[true, true, true, true, true, true, true, true, true, true, true, true, true, false] rfl rfl (one_of HT_.out (by kernel_rfl)) (by decide) (fun K hK => ?_)
          have hs30 : w29.cell? ⟨gb189, 0, none⟩ = some (.bool false) := (blk_cell BK189.out 0).trans rfl
          have hfs30 := blk_frozen BK189.out 0
          have hns30_0 := NB188_189.out
          have hns30_2 := NB195_189.out
          have hms30_0 := NB189_188.out
          have hms30_2 := NB189_195.out
          have hs31 : w29.cell? ⟨gb189, 1, none⟩ = some (.slice none 0 0) := (blk_cell BK189.out 1).trans rfl
          have hfs31 := blk_frozen BK189.out 1
          have hns31_0 := NB188_189.out
          have hns31_2 := NB195_189.out
          have hms31_0 := NB189_188.out
          have hms31_2 := NB189_195.out
          have hs32 : w29.cell? ⟨gb189, 2, none⟩ = some (.int .i64 0) := (blk_cell BK189.out 2).trans rfl
          have hfs32 := blk_frozen BK189.out 2
          have hns32_0 := NB188_189.out
          have hns32_2 := NB195_189.out
          have hms32_0 := NB189_188.out
          have hms32_2 := NB189_195.out
          refine skip_ (w1 := ?_) (by rfl) rfl ?_ ?_
          rotate_left
          · go_simp
            rfl
          refine hK.out _ _ ⟨((cell_far (p := ⟨gb189, _, none⟩) NB195_189.out _).trans (((cell_far (p := ⟨gb189, _, none⟩) NB195_189.out _).trans (((cell_far (p := ⟨gb189, _, none⟩) NB195_189.out _).trans (hHeld.1)))))), ((cell_far (p := ⟨gb189, _, none⟩) NB195_189.out _).trans (((cell_far (p := ⟨gb189, _, none⟩) NB195_189.out _).trans (((cell_far (p := ⟨gb189, _, none⟩) NB195_189.out _).trans (hHeld.2.1)))))), ((cell_far (p := ⟨gb189, _, none⟩) NB188_189.out _).trans (((cell_far (p := ⟨gb189, _, none⟩) NB188_189.out _).trans (((cell_far (p := ⟨gb189, _, none⟩) NB188_189.out _).trans (hHeld.2.2.1)))))), ((cell_far (p := ⟨gb189, _, none⟩) NB188_189.out _).trans (((cell_far (p := ⟨gb189, _, none⟩) NB188_189.out _).trans (((cell_far (p := ⟨gb189, _, none⟩) NB188_189.out _).trans (hHeld.2.2.2))))))⟩ (fun hHeld => ?_)
          clear hK K
          refine pure_ (i := 13) (N := some 3) (v := ?_) (a' := ?_) #[true, true, true, true, true, true, true, true, true, true, true, true, true, true] rfl rfl (any_of HT_.out (by kernel_rfl)) (fun _ _ _ h => h) (Or.inl ⟨by rfl, ?_⟩) ?_ ?_
          rotate_left
          · intro w'
            go_simp
            with_reducible rfl
          rotate_left
          · simp only [Act.put, List.setIfInBounds_toArray, List.set_cons_zero, List.set_cons_succ, i64_w, i32_w]
            rfl
          refine done_ (done_of HT_.out (by kernel_rfl)) ?_
          try go_wp2
          refine bodyPost_ret (results_ct rfl _ _ gb189 30 #[.bool t190, .slice Ao26 t191.length co26, .int .i64 a0_1] (0, 0) _ rfl (by (with_reducible repeat (first | refine blk_drewN ?_ _ | refine blk_drew ?_ | refine blk_alloc ?_ _)); refine blk_put (cs := #[.bool t190, .slice Ao26 t191.length co26, .int .i64 0]) ?_ 2 _ rfl; (with_reducible repeat (first | refine blk_drewN ?_ _ | refine blk_drew ?_ | refine blk_alloc ?_ _)); refine blk_put (cs := #[.bool t190, .slice none 0 0, .int .i64 0]) ?_ 1 _ rfl; (with_reducible repeat (first | refine blk_drewN ?_ _ | refine blk_drew ?_ | refine blk_alloc ?_ _)); refine blk_put (cs := #[.bool false, .slice none 0 0, .int .i64 0]) ?_ 0 _ rfl; (with_reducible repeat (first | refine blk_drewN ?_ _ | refine blk_drew ?_ | refine blk_alloc ?_ _)); exact BK189.out) Tryd.underlying30 rfl (by kernel_rfl)) rfl ?_
          exact ⟨_, by first | rfl | (simp [errW_none, errW_some] <;> rfl) | (simp [*, errW_none, errW_some] <;> rfl), by (with_reducible repeat (first | apply Kd.V_alloc | apply Kd.V_drewN | apply Kd.V_drew)); exact Kd.V_mono (Kd.V_far (p := ⟨gb189, 2, none⟩) (Kd.V_far (p := ⟨gb189, 1, none⟩) (Kd.V_far (p := ⟨gb189, 0, none⟩) (Kd.V_mono HO193.out (fun k_ hk => (⟨hk, hk.2.2.1⟩ : _ ∧ k_ ≠ gb189))) (fun _ hk => hk.2) (.bool t190)) (fun _ hk => hk.2) (.slice Ao26 t191.length co26)) (fun _ hk => hk.2) (.int .i64 a0_1)) (fun _ hk => hk.1.1), by repeat (first | (with_reducible first | exact HB.out | apply below_alloc | apply pw_below_drewN | apply below_drew1 | refine below_set ?_ GE188.out | refine below_set ?_ GE189.out | refine below_set ?_ GE195.out) | exact HB.out)⟩
        · replace c17 := Bool.eq_false_iff.mpr c17
          subst c17
          have H1 : (some (t190, t191, a0_1, false)) = some (r1, r2, r3, r4) := by rw [if_neg (show ¬ (false = true) by decide)] at H; exact H
          clear H
          have H := H1
          clear H1
          simp only [Option.some.injEq, Prod.mk.injEq] at H
          obtain ⟨rfl, rfl, rfl, rfl⟩ := H
          have hnb33 := NB188_189.out
          have hnc33 := NB189_188.out
          have hcz34_0 : wc.cell? ⟨gb188, 0, none⟩ = some (.string a0_0) := (blk_cell BK188.out 0).trans rfl
          have hcz34_1 : wc.cell? ⟨gb188, 1, none⟩ = some (.int .i64 a0_1) := (blk_cell BK188.out 1).trans rfl
          have hfz34_0 := blk_frozen BK188.out 0
          have hfz34_1 := blk_frozen BK188.out 1
          try go_wp2_with (first | ((with_reducible refine gate_callee (f := 10) rfl ?_); refine goesL_ (some 24) rfl rfl Tryd.func10 (by kernel_rfl) rfl #[.string a0_0] rfl (by (try simp only [List.map_toArray, List.map_cons, List.map_nil]); first | done | rfl | (simp only [List.length_drop, List.length_take]; rfl)) ?_; (with_reducible refine (spec_ParseWhole.calls kj1 a0_0 t190 t191 false _ A16.out).mono ?_); rintro e w35 ⟨v192, rfl, ho0, hb⟩; refine ⟨_, rfl, ?_⟩; have n0_ := Aside0.mk (Kd.V_lower (Kd.V_mono (ok' := fun k_ => (w.heap.size ≤ k_) ∧ k_ ≠ gb188 ∧ k_ ≠ gb189) ho0 (fun k_ hk_ => ⟨(Nat.le_trans (below_size (by repeat (first | (with_reducible first | exact HB.out | apply below_alloc | apply pw_below_drewN | apply below_drew1 | refine below_set ?_ GE188.out | refine below_set ?_ GE189.out) | exact HB.out))) hk_), (Kd.freshB (g := gb188) (o := .cells #[.string a0_0, .int .i64 a0_1] 23 (0, 0)) (by (with_reducible repeat (first | refine blk_drewN ?_ _ | refine blk_drew ?_ | refine blk_alloc ?_ _)); exact BK188.out) k_ hk_), (Kd.freshB (g := gb189) (o := .cells #[.bool false, .slice none 0 0, .int .i64 0] 30 (0, 0)) (by (with_reducible repeat (first | refine blk_drewN ?_ _ | refine blk_drew ?_ | refine blk_alloc ?_ _)); exact BK189.out) k_ hk_)⟩)) (below_size (by repeat (first | (with_reducible first | exact HB.out | apply below_alloc | apply pw_below_drewN | apply below_drew1 | refine below_set ?_ GE188.out | refine below_set ?_ GE189.out) | exact HB.out)))); have n1_ := Aside0.mk (blk_below (g := gb188) (o := .cells #[.string a0_0, .int .i64 a0_1] 23 (0, 0)) (by (with_reducible repeat (first | refine blk_drewN ?_ _ | refine blk_drew ?_ | refine blk_alloc ?_ _)); exact BK188.out) hb); have n2_ := Aside0.mk (blk_below (g := gb189) (o := .cells #[.bool false, .slice none 0 0, .int .i64 0] 30 (0, 0)) (by (with_reducible repeat (first | refine blk_drewN ?_ _ | refine blk_drew ?_ | refine blk_alloc ?_ _)); exact BK189.out) hb); have n3_ := Aside0.mk (below_step (by repeat (first | (with_reducible first | exact HB.out | apply below_alloc | apply pw_below_drewN | apply below_drew1 | refine below_set ?_ GE188.out | refine below_set ?_ GE189.out) | exact HB.out)) hb); clear BK188; clear BK189; clear HB; have HO193 := n0_; have BK188 := n1_; have BK189 := n2_; have HB := n3_; clear n0_ n1_ n2_ n3_; (try clear hb); (try clear hb2); (try clear hk); (try clear hi); (try clear ho0)) | ((with_reducible refine gate_dst (N := 4) rfl ?_); refine box_event ?hg (N := 4) ?hd (cs := #[.bool false, .slice none 0 0]) (t := 28) ?hr ?_; (case hd => rfl); (case hg => rfl); (case hr => first | (go_simp; done) | (go_simp; rfl)); intro gb195 hg w36 hbox hb; have n0_ := Aside0.mk (Kd.V_below (Kd.V_elderB (by (with_reducible repeat (first | apply Kd.V_alloc | apply Kd.V_drewN | apply Kd.V_drew)); exact HO193.out) gb195 (Nat.le_of_eq hg.symm)) hb); have n1_ := Aside0.mk (blk_below (g := gb188) (o := .cells #[.string a0_0, .int .i64 a0_1] 23 (0, 0)) (by (with_reducible repeat (first | refine blk_drewN ?_ _ | refine blk_drew ?_ | refine blk_alloc ?_ _)); exact BK188.out) hb); have n2_ := Aside0.mk (blk_below (g := gb189) (o := .cells #[.bool false, .slice none 0 0, .int .i64 0] 30 (0, 0)) (by (with_reducible repeat (first | refine blk_drewN ?_ _ | refine blk_drew ?_ | refine blk_alloc ?_ _)); exact BK189.out) hb); have n3_ := Aside0.mk (below_step (by repeat (first | (with_reducible first | exact HB.out | apply below_alloc | apply pw_below_drewN | apply below_drew1 | refine below_set ?_ GE188.out | refine below_set ?_ GE189.out) | exact HB.out)) hb); have n4_ := Aside0.mk (hbox); have n5_ := Aside0.mk ((by rw [hg]; exact (below_size (by repeat (first | (with_reducible first | exact HB.out | apply below_alloc | apply pw_below_drewN | apply below_drew1 | refine below_set ?_ GE188.out | refine below_set ?_ GE189.out) | exact HB.out))) : w.heap.size ≤ gb195)); have n6_ := Aside0.mk ((by rw [hg]; exact (below_size (by repeat (first | (with_reducible first | exact HB.out | apply below_alloc | apply pw_below_drewN | apply below_drew1 | refine below_set ?_ GE188.out | refine below_set ?_ GE189.out) | exact HB.out))) : w.heap.size ≤ gb195)); have n7_ := Aside0.mk ((by rw [hg]; exact Nat.ne_of_lt (blk_lt (g := gb188) (o := .cells #[.string a0_0, .int .i64 a0_1] 23 (0, 0)) (by (with_reducible repeat (first | refine blk_drewN ?_ _ | refine blk_drew ?_ | refine blk_alloc ?_ _)); exact BK188.out)) : gb188 ≠ gb195)); have n8_ := Aside0.mk ((by rw [hg]; exact Nat.ne_of_gt (blk_lt (g := gb188) (o := .cells #[.string a0_0, .int .i64 a0_1] 23 (0, 0)) (by (with_reducible repeat (first | refine blk_drewN ?_ _ | refine blk_drew ?_ | refine blk_alloc ?_ _)); exact BK188.out)) : gb195 ≠ gb188)); have n9_ := Aside0.mk ((by rw [hg]; exact Nat.ne_of_lt (blk_lt (g := gb189) (o := .cells #[.bool false, .slice none 0 0, .int .i64 0] 30 (0, 0)) (by (with_reducible repeat (first | refine blk_drewN ?_ _ | refine blk_drew ?_ | refine blk_alloc ?_ _)); exact BK189.out)) : gb189 ≠ gb195)); have n10_ := Aside0.mk ((by rw [hg]; exact Nat.ne_of_gt (blk_lt (g := gb189) (o := .cells #[.bool false, .slice none 0 0, .int .i64 0] 30 (0, 0)) (by (with_reducible repeat (first | refine blk_drewN ?_ _ | refine blk_drew ?_ | refine blk_alloc ?_ _)); exact BK189.out)) : gb195 ≠ gb189)); clear HO193; clear BK188; clear BK189; clear HB; have HO193 := n0_; have BK188 := n1_; have BK189 := n2_; have HB := n3_; have BK195 := n4_; have GW195 := n5_; have GE195 := n6_; have NB188_195 := n7_; have NB195_188 := n8_; have NB189_195 := n9_; have NB195_189 := n10_; clear n0_ n1_ n2_ n3_ n4_ n5_ n6_ n7_ n8_ n9_ n10_; clear hb hbox hg; have hnb37 := NB195_188.out; have hnc37 := NB188_195.out; have hnb38 := NB195_189.out; have hnc38 := NB189_195.out; have hcz39_0 : w36.cell? ⟨gb195, 0, none⟩ = some (.bool false) := (blk_cell BK195.out 0).trans rfl; have hcz39_1 : w36.cell? ⟨gb195, 1, none⟩ = some (.slice none 0 0) := (blk_cell BK195.out 1).trans rfl; have hfz39_0 := blk_frozen BK195.out 0; have hfz39_1 := blk_frozen BK195.out 1; obtain ⟨Ao40, co40, eo40⟩ := Kd.V_slice HO193.out; subst eo40))
          have n0_ : Aside0 (Kd.V (Kd.int .u32) 58 ((w36.setCell ⟨gb195, 0, none⟩ (.bool t190)).setCell ⟨gb195, 1, none⟩ (.slice Ao40 t191.length co40)) w.heap.size (fun k_ => (w.heap.size ≤ k_) ∧ k_ ≠ gb188 ∧ k_ ≠ gb189 ∧ k_ ≠ gb195) (.slice Ao40 t191.length co40) t191) := ⟨by (with_reducible repeat (first | apply Kd.V_alloc | apply Kd.V_drewN | apply Kd.V_drew)); exact Kd.V_mono (Kd.V_far (p := ⟨gb195, 1, none⟩) (Kd.V_far (p := ⟨gb195, 0, none⟩) (Kd.V_mono HO193.out (fun k_ hk => (⟨hk, hk.2⟩ : _ ∧ k_ ≠ gb195))) (fun _ hk => hk.2) (.bool t190)) (fun _ hk => hk.2) (.slice Ao40 t191.length co40)) (fun _ hk => ⟨hk.1.1.1, ⟨hk.1.1.2.1, ⟨hk.1.1.2.2, hk.1.2⟩⟩⟩)⟩
          have n1_ : Aside0 (((w36.setCell ⟨gb195, 0, none⟩ (.bool t190)).setCell ⟨gb195, 1, none⟩ (.slice Ao40 t191.length co40)).heap[gb188]? = some (.cells #[.string a0_0, .int .i64 a0_1] 23 (0, 0))) := ⟨by (with_reducible repeat (first | refine blk_drewN ?_ _ | refine blk_drew ?_ | refine blk_alloc ?_ _)); refine blk_far ?_ NB188_195.out _; (with_reducible repeat (first | refine blk_drewN ?_ _ | refine blk_drew ?_ | refine blk_alloc ?_ _)); refine blk_far ?_ NB188_195.out _; (with_reducible repeat (first | refine blk_drewN ?_ _ | refine blk_drew ?_ | refine blk_alloc ?_ _)); exact BK188.out⟩
          have n2_ : Aside0 (((w36.setCell ⟨gb195, 0, none⟩ (.bool t190)).setCell ⟨gb195, 1, none⟩ (.slice Ao40 t191.length co40)).heap[gb189]? = some (.cells #[.bool false, .slice none 0 0, .int .i64 0] 30 (0, 0))) := ⟨by (with_reducible repeat (first | refine blk_drewN ?_ _ | refine blk_drew ?_ | refine blk_alloc ?_ _)); refine blk_far ?_ NB189_195.out _; (with_reducible repeat (first | refine blk_drewN ?_ _ | refine blk_drew ?_ | refine blk_alloc ?_ _)); refine blk_far ?_ NB189_195.out _; (with_reducible repeat (first | refine blk_drewN ?_ _ | refine blk_drew ?_ | refine blk_alloc ?_ _)); exact BK189.out⟩
          have n3_ : Aside0 (((w36.setCell ⟨gb195, 0, none⟩ (.bool t190)).setCell ⟨gb195, 1, none⟩ (.slice Ao40 t191.length co40)).heap[gb195]? = some (.cells #[.bool t190, .slice Ao40 t191.length co40] 28 (0, 0))) := ⟨by (with_reducible repeat (first | refine blk_drewN ?_ _ | refine blk_drew ?_ | refine blk_alloc ?_ _)); refine blk_put (cs := #[.bool t190, .slice none 0 0]) ?_ 1 _ rfl; (with_reducible repeat (first | refine blk_drewN ?_ _ | refine blk_drew ?_ | refine blk_alloc ?_ _)); refine blk_put (cs := #[.bool false, .slice none 0 0]) ?_ 0 _ rfl; (with_reducible repeat (first | refine blk_drewN ?_ _ | refine blk_drew ?_ | refine blk_alloc ?_ _)); exact BK195.out⟩
          have n4_ : Aside0 (Below w.heap.size w ((w36.setCell ⟨gb195, 0, none⟩ (.bool t190)).setCell ⟨gb195, 1, none⟩ (.slice Ao40 t191.length co40))) := ⟨by repeat (first | (with_reducible first | exact HB.out | apply below_alloc | apply pw_below_drewN | apply below_drew1 | refine below_set ?_ GE188.out | refine below_set ?_ GE189.out | refine below_set ?_ GE195.out) | exact HB.out)⟩
          (try clear HO193)
          (try clear BK188)
          (try clear BK189)
          (try clear BK195)
          (try clear HB)
          generalize ((w36.setCell ⟨gb195, 0, none⟩ (.bool t190)).setCell ⟨gb195, 1, none⟩ (.slice Ao40 t191.length co40)) = w41 at n0_ n1_ n2_ n3_ n4_ ⊢
          have HO193 := n0_
          have BK188 := n1_
          have BK189 := n2_
          have BK195 := n3_
          have HB := n4_
          clear n0_ n1_ n2_ n3_ n4_
          have n0_ := Aside0.mk (Kd.V_drew HO193.out)
          have n1_ := Aside0.mk (blk_drew BK188.out)
          have n2_ := Aside0.mk (blk_drew BK189.out)
          have n3_ := Aside0.mk (blk_drew BK195.out)
          have n4_ := Aside0.mk (below_drew1 HB.out)
          clear HO193
          clear BK188
          clear BK189
          clear BK195
          clear HB
          have HO193 := n0_
          have BK188 := n1_
          have BK189 := n2_
          have BK195 := n3_
          have HB := n4_
          clear n0_ n1_ n2_ n3_ n4_
          refine start_ (n := 14) (S := fun w' => w'.cell? ⟨gb195, 0, none⟩ = some (.bool t190) ∧ w'.cell? ⟨gb195, 1, none⟩ = some (.slice Ao40 t191.length co40) ∧ w'.cell? ⟨gb188, 0, none⟩ = some (.string a0_0) ∧ w'.cell? ⟨gb188, 1, none⟩ = some (.int .i64 a0_1)) (ds := []) #[false, false, false, false, false, false, false, false, false, false, false, false, false, false] (by kernel_rfl) rfl rfl ⟨(blk_cell BK195.out 0).trans rfl, (blk_cell BK195.out 1).trans rfl, (blk_cell BK188.out 0).trans rfl, (blk_cell BK188.out 1).trans rfl⟩ (fun hHeld => ?_); refine with_tabW spec_OfAny.tab4 spec_OfAny.bits4 (fun HT_ HW_ => ?_)
          generalize w41.drew = w42 at HO193 BK188 BK189 BK195 HB hHeld ⊢
          refine pure_ (i := 1) (N := some 28) (v := ?_) (a' := ?_) #[false, true, false, false, false, false, false, false, false, false, false, false, false, false] rfl rfl (any_of HT_.out (by kernel_rfl)) (fun _ _ _ h => h) (Or.inl ⟨by rfl, ?_⟩) ?_ ?_
          rotate_left
          · intro w'
            go_simp
            with_reducible rfl
          rotate_left
          · simp only [Act.put, List.setIfInBounds_toArray, List.set_cons_zero, List.set_cons_succ, i64_w, i32_w]
            rfl
          refine pure_ (i := 4) (N := some 31) (v := ?_) (a' := ?_) #[false, true, false, false, true, false, false, false, false, false, false, false, false, false] rfl rfl (any_of HT_.out (by kernel_rfl)) (fun _ _ _ h => h) (Or.inl ⟨by rfl, ?_⟩) ?_ ?_
          rotate_left
          · intro w'
            go_simp
            with_reducible rfl
          rotate_left
          · simp only [Act.put, List.setIfInBounds_toArray, List.set_cons_zero, List.set_cons_succ, i64_w, i32_w]
            rfl
          refine pure_ (i := 5) (N := some 32) (v := ?_) (a' := ?_) #[false, true, false, false, true, true, false, false, false, false, false, false, false, false] rfl rfl (any_of HT_.out (by kernel_rfl)) (fun _ _ _ h => h) (Or.inl ⟨by rfl, ?_⟩) ?_ ?_
          rotate_left
          · intro w'
            go_simp
            with_reducible rfl
          rotate_left
          · simp only [Act.put, List.setIfInBounds_toArray, List.set_cons_zero, List.set_cons_succ, i64_w, i32_w]
            rfl
          refine pure_ (i := 6) (N := some 33) (v := undef) (a' := ?_) #[false, true, false, false, true, true, true, false, false, false, false, false, false, false] rfl rfl (any_of HT_.out (by kernel_rfl)) (fun _ _ _ h => h) (Or.inr ⟨by rfl, rfl⟩) ?_ ?_
          rotate_left
          · simp only [Act.put, List.setIfInBounds_toArray, List.set_cons_zero, List.set_cons_succ, i64_w, i32_w]
            rfl
          refine pure_ (i := 7) (N := some 34) (v := undef) (a' := ?_) #[false, true, false, false, true, true, true, true, false, false, false, false, false, false] rfl rfl (any_of HT_.out (by kernel_rfl)) (fun _ _ _ h => h) (Or.inr ⟨by rfl, rfl⟩) ?_ ?_
          rotate_left
          · simp only [Act.put, List.setIfInBounds_toArray, List.set_cons_zero, List.set_cons_succ, i64_w, i32_w]
            rfl
          refine pure_ (i := 8) (N := some 35) (v := undef) (a' := ?_) #[false, true, false, false, true, true, true, true, true, false, false, false, false, false] rfl rfl (any_of HT_.out (by kernel_rfl)) (fun _ _ _ h => h) (Or.inr ⟨by rfl, rfl⟩) ?_ ?_
          rotate_left
          · simp only [Act.put, List.setIfInBounds_toArray, List.set_cons_zero, List.set_cons_succ, i64_w, i32_w]
            rfl
          refine pure_ (i := 9) (N := some 36) (v := undef) (a' := ?_) #[false, true, false, false, true, true, true, true, true, true, false, false, false, false] rfl rfl (any_of HT_.out (by kernel_rfl)) (fun _ _ _ h => h) (Or.inr ⟨by rfl, rfl⟩) ?_ ?_
          rotate_left
          · simp only [Act.put, List.setIfInBounds_toArray, List.set_cons_zero, List.set_cons_succ, i64_w, i32_w]
            rfl
          refine pure_ (i := 10) (N := some 37) (v := undef) (a' := ?_) #[false, true, false, false, true, true, true, true, true, true, true, false, false, false] rfl rfl (any_of HT_.out (by kernel_rfl)) (fun _ _ _ h => h) (Or.inr ⟨by rfl, rfl⟩) ?_ ?_
          rotate_left
          · simp only [Act.put, List.setIfInBounds_toArray, List.set_cons_zero, List.set_cons_succ, i64_w, i32_w]
            rfl
          refine pure_ (i := 11) (N := some 38) (v := ?_) (a' := ?_) #[false, true, false, false, true, true, true, true, true, true, true, true, false, false] rfl rfl (any_of HT_.out (by kernel_rfl)) (fun _ _ _ h => h) (Or.inl ⟨by rfl, ?_⟩) ?_ ?_
          rotate_left
          · intro w'
            go_simp
            with_reducible rfl
          rotate_left
          · simp only [Act.put, List.setIfInBounds_toArray, List.set_cons_zero, List.set_cons_succ, i64_w, i32_w]
            rfl
          refine take_ (i := 0) (N := some 27) (v := ?_) (a' := ?_) #[true, true, false, false, true, true, true, true, true, true, true, true, false, false] rfl rfl (take_ofW HT_.out HW_.out (by kernel_rfl)) (fun _ _ _ h => h) (Or.inl ⟨by rfl, ?_⟩) hHeld ?_ ?_
          rotate_left
          · rintro w' ⟨s0, s1, s2, s3⟩
            go_simp
            with_reducible rfl
          rotate_left
          · simp only [Act.put, List.setIfInBounds_toArray, List.set_cons_zero, List.set_cons_succ, i64_w, i32_w]
            rfl
          refine take_ (i := 2) (N := some 29) (v := ?_) (a' := ?_) #[true, true, true, false, true, true, true, true, true, true, true, true, false, false] rfl rfl (take_ofW HT_.out HW_.out (by kernel_rfl)) (fun _ _ _ h => h) (Or.inl ⟨by rfl, ?_⟩) hHeld ?_ ?_
          rotate_left
          · rintro w' ⟨s0, s1, s2, s3⟩
            go_simp
            with_reducible rfl
          rotate_left
          · simp only [Act.put, List.setIfInBounds_toArray, List.set_cons_zero, List.set_cons_succ, i64_w, i32_w]
            rfl
          refine pure_ (i := 3) (N := some 30) (v := ?_) (a' := ?_) #[true, true, true, true, true, true, true, true, true, true, true, true, false, false] rfl rfl (any_of HT_.out (by kernel_rfl)) (fun _ _ _ h => h) (Or.inl ⟨by rfl, ?_⟩) ?_ ?_
          rotate_left
          · intro w'
            go_simp
            with_reducible rfl
          rotate_left
          · simp only [Act.put, List.setIfInBounds_toArray, List.set_cons_zero, List.set_cons_succ, i64_w, i32_w]
            rfl
          refine one_ (i := 12) (N := none) #[true, true, true, true, true, true, true, true, true, true, true, true, true, false] rfl rfl (one_of HT_.out (by kernel_rfl)) (by decide) (fun K hK => ?_)
          have hs43 : w42.cell? ⟨gb189, 0, none⟩ = some (.bool false) := (blk_cell BK189.out 0).trans rfl
          have hfs43 := blk_frozen BK189.out 0
          have hns43_0 := NB188_189.out
          have hns43_2 := NB195_189.out
          have hms43_0 := NB189_188.out
          have hms43_2 := NB189_195.out
          have hs44 : w42.cell? ⟨gb189, 1, none⟩ = some (.slice none 0 0) := (blk_cell BK189.out 1).trans rfl
          have hfs44 := blk_frozen BK189.out 1
          have hns44_0 := NB188_189.out
          have hns44_2 := NB195_189.out
          have hms44_0 := NB189_188.out
          have hms44_2 := NB189_195.out
          have hs45 : w42.cell? ⟨gb189, 2, none⟩ = some (.int .i64 0) := (blk_cell BK189.out 2).trans rfl
          have hfs45 := blk_frozen BK189.out 2
          have hns45_0 := NB188_189.out
          have hns45_2 := NB195_189.out
          have hms45_0 := NB189_188.out
          have hms45_2 := NB189_195.out
          refine skip_ (w1 := ?_) (by rfl) rfl ?_ ?_
          rotate_left
          · go_simp
            rfl
          refine hK.out _ _ ⟨((cell_far (p := ⟨gb189, _, none⟩) NB195_189.out _).trans (((cell_far (p := ⟨gb189, _, none⟩) NB195_189.out _).trans (((cell_far (p := ⟨gb189, _, none⟩) NB195_189.out _).trans (hHeld.1)))))), ((cell_far (p := ⟨gb189, _, none⟩) NB195_189.out _).trans (((cell_far (p := ⟨gb189, _, none⟩) NB195_189.out _).trans (((cell_far (p := ⟨gb189, _, none⟩) NB195_189.out _).trans (hHeld.2.1)))))), ((cell_far (p := ⟨gb189, _, none⟩) NB188_189.out _).trans (((cell_far (p := ⟨gb189, _, none⟩) NB188_189.out _).trans (((cell_far (p := ⟨gb189, _, none⟩) NB188_189.out _).trans (hHeld.2.2.1)))))), ((cell_far (p := ⟨gb189, _, none⟩) NB188_189.out _).trans (((cell_far (p := ⟨gb189, _, none⟩) NB188_189.out _).trans (((cell_far (p := ⟨gb189, _, none⟩) NB188_189.out _).trans (hHeld.2.2.2))))))⟩ (fun hHeld => ?_)
          clear hK K
          refine pure_ (i := 13) (N := some 3) (v := ?_) (a' := ?_) #[true, true, true, true, true, true, true, true, true, true, true, true, true, true] rfl rfl (any_of HT_.out (by kernel_rfl)) (fun _ _ _ h => h) (Or.inl ⟨by rfl, ?_⟩) ?_ ?_
          rotate_left
          · intro w'
            go_simp
            with_reducible rfl
          rotate_left
          · simp only [Act.put, List.setIfInBounds_toArray, List.set_cons_zero, List.set_cons_succ, i64_w, i32_w]
            rfl
          refine done_ (done_of HT_.out (by kernel_rfl)) ?_
          try go_wp2
          refine bodyPost_ret (results_ct rfl _ _ gb189 30 #[.bool t190, .slice Ao40 t191.length co40, .int .i64 a0_1] (0, 0) _ rfl (by (with_reducible repeat (first | refine blk_drewN ?_ _ | refine blk_drew ?_ | refine blk_alloc ?_ _)); refine blk_put (cs := #[.bool t190, .slice Ao40 t191.length co40, .int .i64 0]) ?_ 2 _ rfl; (with_reducible repeat (first | refine blk_drewN ?_ _ | refine blk_drew ?_ | refine blk_alloc ?_ _)); refine blk_put (cs := #[.bool t190, .slice none 0 0, .int .i64 0]) ?_ 1 _ rfl; (with_reducible repeat (first | refine blk_drewN ?_ _ | refine blk_drew ?_ | refine blk_alloc ?_ _)); refine blk_put (cs := #[.bool false, .slice none 0 0, .int .i64 0]) ?_ 0 _ rfl; (with_reducible repeat (first | refine blk_drewN ?_ _ | refine blk_drew ?_ | refine blk_alloc ?_ _)); exact BK189.out) Tryd.underlying30 rfl (by kernel_rfl)) rfl ?_
          exact ⟨_, by first | rfl | (simp [errW_none, errW_some] <;> rfl) | (simp [*, errW_none, errW_some] <;> rfl), by (with_reducible repeat (first | apply Kd.V_alloc | apply Kd.V_drewN | apply Kd.V_drew)); exact Kd.V_mono (Kd.V_far (p := ⟨gb189, 2, none⟩) (Kd.V_far (p := ⟨gb189, 1, none⟩) (Kd.V_far (p := ⟨gb189, 0, none⟩) (Kd.V_mono HO193.out (fun k_ hk => (⟨hk, hk.2.2.1⟩ : _ ∧ k_ ≠ gb189))) (fun _ hk => hk.2) (.bool t190)) (fun _ hk => hk.2) (.slice Ao40 t191.length co40)) (fun _ hk => hk.2) (.int .i64 a0_1)) (fun _ hk => hk.1.1), by repeat (first | (with_reducible first | exact HB.out | apply below_alloc | apply pw_below_drewN | apply below_drew1 | refine below_set ?_ GE188.out | refine below_set ?_ GE189.out | refine below_set ?_ GE195.out) | exact HB.out)⟩


end Go.Proofs.YtghabdpbacgicaaDoor.S
