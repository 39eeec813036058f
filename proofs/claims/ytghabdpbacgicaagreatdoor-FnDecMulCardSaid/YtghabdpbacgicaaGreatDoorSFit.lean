/- CONTRACTS of spec_DecFit: each as the plain function beside it. (Began as print.sh's text for this seat; the turns are those of wip/tools/split.py.) -/
import Derived.Test.YtghabdpbacgicaaGreatDoorS0
namespace Go.Proofs.YtghabdpbacgicaaGreatDoor.S
open Go.RowKit Go.Proofs.YtghabdpbacgicaaGreatDoorW.PrintWords Go.Proofs.YtghabdpbacgicaaGreatDoorW.PrintLast Go.Proofs.YtghabdpbacgicaaGreatDoorW.PrintMore
attribute [local go_sem] max2_int min2_int max_two min_two max_three min_three max_four min_four   -- for this text's walks alone
set_option linter.unusedVariables false
set_option linter.unusedSimpArgs false

/-! ### spec_DecFit: function 9 -/
mutual
def spec_DecFit.l0 : Nat → Int → Int → List Int → Int → ByteArray → Int → Option (ByteArray × Int)
  | 0, _, _, _, _, _, _ => none
  | k + 1, x1, x2, x7, x8, x103000, x103001 => if x8 < (x103000.size : Int) then (spec_DecFit.j1 k x1 x2 x7 x8 (decide ((x7.length : Int) < x1)) x103000 x103001) else (spec_DecFit.j1 k x1 x2 x7 x8 false x103000 x103001)
def spec_DecFit.j1 : Nat → Int → Int → List Int → Int → Bool → ByteArray → Int → Option (ByteArray × Int)
  | 0, _, _, _, _, _, _, _ => none
  | k + 1, x1, x2, x7, x8, x21, x103000, x103001 => if x21 = true then (if 0 ≤ x8 then (if x8 < (x103000.size : Int) then (if (bt x103000 x8) ≥ 48 then (if (bt x103000 x8) ≤ 57 then (if (x7.length : Int) > 0 then (if x7.length < 140737488355328 then (spec_DecFit.l0 k x1 x2 (x7 ++ [bt x103000 x8]) (wrap64 (x8 + 1)) x103000 x103001) else (none)) else (if (bt x103000 x8) = 48 then (spec_DecFit.l0 k x1 x2 x7 (wrap64 (x8 + 1)) x103000 x103001) else (if x7.length < 140737488355328 then (spec_DecFit.l0 k x1 x2 (x7 ++ [bt x103000 x8]) (wrap64 (x8 + 1)) x103000 x103001) else (none)))) else (spec_DecFit.l0 k x1 x2 x7 (wrap64 (x8 + 1)) x103000 x103001)) else (spec_DecFit.l0 k x1 x2 x7 (wrap64 (x8 + 1)) x103000 x103001)) else (none)) else (none)) else (if (wrap64 (x2 + 1)) = 0 then (none) else (if (x7.length : Int) = 0 then (some ((⟨#[48]⟩ : ByteArray), Int.tmod x103001 (wrap64 (x2 + 1)))) else (if 0 < (x103000.size : Int) then (if (bt x103000 0) = 45 then (if 1 + (strOfNums x7).size ≤ 9223372036854775807 then (some ((⟨#[45]⟩ : ByteArray) ++ (strOfNums x7), Int.tmod x103001 (wrap64 (x2 + 1)))) else (none)) else (some (strOfNums x7, Int.tmod x103001 (wrap64 (x2 + 1))))) else (none))))
end
def spec_DecFit.f (k : Nat) (a0_0 : ByteArray) (a0_1 : Int) (a1 : Int) (a2 : Int) : Option (ByteArray × Int) := spec_DecFit.l0 k a1 a2 ([] : List Int) 0 a0_0 a0_1
theorem spec_DecFit.mono_l : ∀ k, (∀ y0 y1 y2 y3 y4 y5, LeO (spec_DecFit.l0 k y0 y1 y2 y3 y4 y5) (spec_DecFit.l0 (k + 1) y0 y1 y2 y3 y4 y5)) ∧ (∀ y0 y1 y2 y3 y4 y5 y6, LeO (spec_DecFit.j1 k y0 y1 y2 y3 y4 y5 y6) (spec_DecFit.j1 (k + 1) y0 y1 y2 y3 y4 y5 y6))
  | 0 => ⟨fun _ _ _ _ _ _ r h => by simp [spec_DecFit.l0] at h, fun _ _ _ _ _ _ _ r h => by simp [spec_DecFit.j1] at h⟩
  | k + 1 => by
    obtain ⟨ih0, ih1⟩ := spec_DecFit.mono_l k
    refine ⟨?_, ?_⟩
    · intro y0 y1 y2 y3 y4 y5
      unfold spec_DecFit.l0
      repeat' first
      | (with_reducible exact ih0 _ _ _ _ _ _)
      | (with_reducible exact ih1 _ _ _ _ _ _ _)
      | (with_reducible exact LeO.refl _)
      | (with_reducible exact LeO.none _)
      | (with_reducible refine LeO.ite ?_ ?_)
      | (with_reducible refine LeO.bind ?_ (fun _ => ?_))
      | exact ih0 _ _ _ _ _ _
      | exact ih1 _ _ _ _ _ _ _
      | exact LeO.none _
      | refine LeO.ite ?_ ?_
      | refine LeO.bind ?_ (fun _ => ?_)
    · intro y0 y1 y2 y3 y4 y5 y6
      unfold spec_DecFit.j1
      repeat' first
      | (with_reducible exact ih0 _ _ _ _ _ _)
      | (with_reducible exact ih1 _ _ _ _ _ _ _)
      | (with_reducible exact LeO.refl _)
      | (with_reducible exact LeO.none _)
      | (with_reducible refine LeO.ite ?_ ?_)
      | (with_reducible refine LeO.bind ?_ (fun _ => ?_))
      | exact ih0 _ _ _ _ _ _
      | exact ih1 _ _ _ _ _ _ _
      | exact LeO.none _
      | refine LeO.ite ?_ ?_
      | refine LeO.bind ?_ (fun _ => ?_)
theorem spec_DecFit.mono : ∀ a0 a1 a2 a3 k, LeO (spec_DecFit.f k a0 a1 a2 a3) (spec_DecFit.f (k + 1) a0 a1 a2 a3) := by
  intro a0 a1 a2 a3 k
  obtain ⟨ih0, ih1⟩ := spec_DecFit.mono_l k
  unfold spec_DecFit.f
  repeat' first
      | (with_reducible exact ih0 _ _ _ _ _ _)
      | (with_reducible exact ih1 _ _ _ _ _ _ _)
      | (with_reducible exact LeO.refl _)
      | (with_reducible exact LeO.none _)
      | (with_reducible refine LeO.ite ?_ ?_)
      | (with_reducible refine LeO.bind ?_ (fun _ => ?_))
      | exact ih0 _ _ _ _ _ _
      | exact ih1 _ _ _ _ _ _ _
      | exact LeO.none _
      | refine LeO.ite ?_ ?_
      | refine LeO.bind ?_ (fun _ => ?_)
def spec_DecFit.T8 : Bool × List (List Nat × List Nat) := (true, [([], []), ([0], [0]), ([], []), ([2], [2]), ([], []), ([4], [4]), ([3, 5], [3, 5]), ([1, 6], [1, 6]), ([], []), ([8, 7, 0, 1, 2, 3, 4, 5, 6, 7, 8], [7, 8])])
def spec_DecFit.B8 : List Nat := [0, 1, 0, 4, 0, 16, 60, 127, 0, 511]
theorem spec_DecFit.tab8 : rtab .any (opsOf Tryz.f9 8) = spec_DecFit.T8 := by kernel_rfl
theorem spec_DecFit.bits8 : waitsOk spec_DecFit.T8.2 spec_DecFit.B8 = true := by kernel_rfl
set_option maxHeartbeats 8000000 in
set_option maxRecDepth 100000 in
theorem spec_DecFit.calls (k : Nat) (a0_0 : ByteArray) (a0_1 : Int) (a1 : Int) (a2 : Int) (r1 : ByteArray) (r2 : Int) (w : World) (h : spec_DecFit.f k a0_0 a0_1 a1 a2 = some (r1, r2)) :
    Calls Tryz.prog 9 #[.agg #[.string a0_0, .int .i64 a0_1], .int .i64 a1, .int .i64 a2] w fun e w' => e = .returned (.agg #[.string r1, .int .i64 r2]) ∧ Below w.heap.size w w' := by
  have hu23 := Tryz.underlying23
  have HB := Aside0.mk (Below.refl w.heap.size w)
  have H : (spec_DecFit.l0 k a1 a2 ([] : List Int) 0 a0_0 a0_1) = some (r1, r2) := h
  clear h
  have H' := Aside0.mk H
  clear H
  go_enter Tryz.func9, Tryz.ntmps9
  go_wp2_with (first | ((with_reducible refine gate_dst (N := 3) rfl ?_); (try (refine gate_guard (by rfl) ?_; dsimp only)); refine box_event ?hg (N := 3) ?hd (cs := #[.string a0_0, .int .i64 a0_1]) (t := 23) ?hr ?_; (case hd => rfl); (case hg => rfl); (case hr => first | (go_simp; done) | (go_simp; rfl)); intro gb102 hg w4 hbox hb; have n0_ := Aside0.mk (below_step (by repeat (first | (with_reducible first | exact HB.out | apply below_alloc | apply pw_below_drewN | apply below_drew1) | exact HB.out)) hb); have n1_ := Aside0.mk (hbox); have n2_ := Aside0.mk ((by rw [hg]; exact (below_size (by repeat (first | (with_reducible first | exact HB.out | apply below_alloc | apply pw_below_drewN | apply below_drew1) | exact HB.out))) : w.heap.size ≤ gb102)); have n3_ := Aside0.mk ((by rw [hg]; exact (below_size (by repeat (first | (with_reducible first | exact HB.out | apply below_alloc | apply pw_below_drewN | apply below_drew1) | exact HB.out))) : w.heap.size ≤ gb102)); clear HB; have HB := n0_; have BK102 := n1_; have GW102 := n2_; have GE102 := n3_; clear n0_ n1_ n2_ n3_; clear hb hbox hg) | ((with_reducible refine gate_dst (N := 6) rfl ?_); (try (refine gate_guard (by rfl) ?_; dsimp only)); refine box_event ?hg (N := 6) ?hd (cs := #[.string (⟨#[]⟩ : ByteArray), .int .i64 0]) (t := 23) ?hr ?_; (case hd => rfl); (case hg => rfl); (case hr => first | (go_simp; done) | (go_simp; rfl)); intro gb103 hg w5 hbox hb; have n0_ := Aside0.mk (blk_below (g := gb102) (o := .cells #[.string a0_0, .int .i64 a0_1] 23 (0, 0)) (by (with_reducible repeat (first | refine blk_drewN ?_ _ | refine blk_drew ?_ | refine blk_alloc ?_ _)); exact BK102.out) hb); have n1_ := Aside0.mk (below_step (by repeat (first | (with_reducible first | exact HB.out | apply below_alloc | apply pw_below_drewN | apply below_drew1 | refine below_set ?_ GE102.out) | exact HB.out)) hb); have n2_ := Aside0.mk (hbox); have n3_ := Aside0.mk ((by rw [hg]; exact (below_size (by repeat (first | (with_reducible first | exact HB.out | apply below_alloc | apply pw_below_drewN | apply below_drew1 | refine below_set ?_ GE102.out) | exact HB.out))) : w.heap.size ≤ gb103)); have n4_ := Aside0.mk ((by rw [hg]; exact (below_size (by repeat (first | (with_reducible first | exact HB.out | apply below_alloc | apply pw_below_drewN | apply below_drew1 | refine below_set ?_ GE102.out) | exact HB.out))) : w.heap.size ≤ gb103)); have n5_ := Aside0.mk ((by rw [hg]; exact Nat.ne_of_lt (blk_lt (g := gb102) (o := .cells #[.string a0_0, .int .i64 a0_1] 23 (0, 0)) (by (with_reducible repeat (first | refine blk_drewN ?_ _ | refine blk_drew ?_ | refine blk_alloc ?_ _)); exact BK102.out)) : gb102 ≠ gb103)); have n6_ := Aside0.mk ((by rw [hg]; exact Nat.ne_of_gt (blk_lt (g := gb102) (o := .cells #[.string a0_0, .int .i64 a0_1] 23 (0, 0)) (by (with_reducible repeat (first | refine blk_drewN ?_ _ | refine blk_drew ?_ | refine blk_alloc ?_ _)); exact BK102.out)) : gb103 ≠ gb102)); clear BK102; clear HB; have BK102 := n0_; have HB := n1_; have BK103 := n2_; have GW103 := n3_; have GE103 := n4_; have NB102_103 := n5_; have NB103_102 := n6_; clear n0_ n1_ n2_ n3_ n4_ n5_ n6_; clear hb hbox hg))
  go_loopg [7, 8] k (fun kq v7 v8 w' => ∃ (x7_1 : List Int) (x8_1 : Int), v8 = .int .i64 x8_1 ∧ Aside0 (spec_DecFit.l0 kq a1 a2 x7_1 x8_1 a0_0 a0_1 = some (r1, r2)) ∧ Aside0 (kq ≤ k) ∧ Aside0 (Kd.R (Kd.int .u8) 5 w' w.heap.size (fun _ => True) v7 x7_1) ∧ Aside0 (w'.heap[gb102]? = some (.cells #[.string a0_0, .int .i64 a0_1] 23 (0, 0))) ∧ Aside0 (w'.heap[gb103]? = some (.cells #[.string (⟨#[]⟩ : ByteArray), .int .i64 0] 23 (0, 0))) ∧ Aside0 (Below w.heap.size w w'))
  case atStart => exact ⟨(([] : List Int)), (0), (by first | rfl | (simp; done) | (simp [*]; done)), H', ⟨Nat.le_refl _⟩, ⟨by first | exact Kd.R_nil _ _ _ _ _ | exact Kd.N_nil _ _ _ _ _ | exact Kd.V_nil _ _ _ _ _ | exact Kd.Q_nil _ _ _ _ _ | exact Kd.S_nil _ _ _ _ _⟩, ⟨by (with_reducible repeat (first | refine blk_drewN ?_ _ | refine blk_drew ?_ | refine blk_alloc ?_ _)); exact BK102.out⟩, ⟨by (with_reducible repeat (first | refine blk_drewN ?_ _ | refine blk_drew ?_ | refine blk_alloc ?_ _)); exact BK103.out⟩, ⟨by repeat (first | (with_reducible first | exact HB.out | apply below_alloc | apply pw_below_drewN | apply below_drew1 | refine below_set ?_ GE102.out | refine below_set ?_ GE103.out) | exact HB.out)⟩⟩
  case round =>
    clear H'
    try clear p2
    obtain ⟨x7_1, x8_1, rfl, HA, HK1, HO_7, BK102, BK103, HB⟩ := hrel
    cases gk with
    | zero => exact absurd HA.out (by simp [spec_DecFit.l0])
    | succ k1 =>
      have H := HA.out
      clear HA
      simp only [spec_DecFit.l0] at H
      have HC6 := Aside0.mk H
      clear H
      go_upto_region 3 with (fail)
      go_cut [21] (fun v21 wc => ∃ (kq : Nat) (x21_5 : Bool), v21 = .bool x21_5 ∧ Aside0 (spec_DecFit.j1 kq a1 a2 x7_1 x8_1 x21_5 a0_0 a0_1 = some (r1, r2)) ∧ Aside0 (kq ≤ k1) ∧ Aside0 (Kd.R (Kd.int .u8) 5 wc w.heap.size (fun _ => True) u7 x7_1) ∧ Aside0 (wc.heap[gb102]? = some (.cells #[.string a0_0, .int .i64 a0_1] 23 (0, 0))) ∧ Aside0 (wc.heap[gb103]? = some (.cells #[.string (⟨#[]⟩ : ByteArray), .int .i64 0] 23 (0, 0))) ∧ Aside0 (Below w.heap.size w wc))
      case first =>
        have H := HC6.out
        clear HC6
        by_cases c7 : x8_1 < (a0_0.size : Int)
        · rw [if_pos c7] at H
          have c7b0 : decide (x8_1 < (a0_0.size : Int)) = true := decide_eq_true c7
          clear c7
          (first | rw [c7b0] | (simp only [i64_w, i32_w]; rw [c7b0]) | skip)
          have H' := Aside0.mk H
          clear H
          have hnb8 := NB102_103.out
          have hnc8 := NB103_102.out
          have hcz9_0 : wr.cell? ⟨gb102, 0, none⟩ = some (.string a0_0) := (blk_cell BK102.out 0).trans rfl
          have hcz9_1 : wr.cell? ⟨gb102, 1, none⟩ = some (.int .i64 a0_1) := (blk_cell BK102.out 1).trans rfl
          have hfz9_0 := blk_frozen BK102.out 0
          have hfz9_1 := blk_frozen BK102.out 1
          obtain ⟨Ao10, co10, eo10⟩ := Kd.R_slice HO_7.out
          subst eo10
          go_wp2
          go_meet
          case rel => exact ⟨_, (decide ((x7_1.length : Int) < a1)), (by first | rfl | (simp; done) | (simp [*]; done)), H', ⟨by have := HK1.out; first | omega | exact Nat.le_refl _⟩, ⟨by (with_reducible repeat (first | apply Kd.R_alloc | apply Kd.R_drewN | apply Kd.R_drew)); exact HO_7.out⟩, ⟨by (with_reducible repeat (first | refine blk_drewN ?_ _ | refine blk_drew ?_ | refine blk_alloc ?_ _)); exact BK102.out⟩, ⟨by (with_reducible repeat (first | refine blk_drewN ?_ _ | refine blk_drew ?_ | refine blk_alloc ?_ _)); exact BK103.out⟩, ⟨by repeat (first | (with_reducible first | exact HB.out | apply below_alloc | apply pw_below_drewN | apply below_drew1 | refine below_set ?_ GE102.out | refine below_set ?_ GE103.out) | exact HB.out)⟩⟩
        · rw [if_neg c7] at H
          have c7b0 : decide (x8_1 < (a0_0.size : Int)) = false := decide_eq_false c7
          clear c7
          (first | rw [c7b0] | (simp only [i64_w, i32_w]; rw [c7b0]) | skip)
          have H' := Aside0.mk H
          clear H
          have hnb11 := NB102_103.out
          have hnc11 := NB103_102.out
          have hcz12_0 : wr.cell? ⟨gb102, 0, none⟩ = some (.string a0_0) := (blk_cell BK102.out 0).trans rfl
          have hcz12_1 : wr.cell? ⟨gb102, 1, none⟩ = some (.int .i64 a0_1) := (blk_cell BK102.out 1).trans rfl
          have hfz12_0 := blk_frozen BK102.out 0
          have hfz12_1 := blk_frozen BK102.out 1
          go_wp2
          go_meet
          case rel => exact ⟨_, (false), (by first | rfl | (simp; done) | (simp [*]; done)), H', ⟨by have := HK1.out; first | omega | exact Nat.le_refl _⟩, ⟨by (with_reducible repeat (first | apply Kd.R_alloc | apply Kd.R_drewN | apply Kd.R_drew)); exact HO_7.out⟩, ⟨by (with_reducible repeat (first | refine blk_drewN ?_ _ | refine blk_drew ?_ | refine blk_alloc ?_ _)); exact BK102.out⟩, ⟨by (with_reducible repeat (first | refine blk_drewN ?_ _ | refine blk_drew ?_ | refine blk_alloc ?_ _)); exact BK103.out⟩, ⟨by repeat (first | (with_reducible first | exact HB.out | apply below_alloc | apply pw_below_drewN | apply below_drew1 | refine below_set ?_ GE102.out | refine below_set ?_ GE103.out) | exact HB.out)⟩⟩
      case rest =>
        clear HC6
        try clear c1
        try clear p2
        try clear c7
        try clear c7b0
        try clear c8
        try clear c9
        try clear c11
        try clear hcz12_0
        try clear hcz12_1
        try clear hcz9_0
        try clear hcz9_1
        try clear hfz12_0
        try clear hfz12_1
        try clear hfz9_0
        try clear hfz9_1
        try clear p2
        obtain ⟨kq, x21_5, rfl, HA, HJ5, HO_7, BK102, BK103, HB⟩ := hcut
        cases kq with
        | zero => exact absurd HA.out (by simp [spec_DecFit.j1])
        | succ kj5 =>
          have H := HA.out
          clear HA
          simp only [spec_DecFit.j1] at H
          by_cases c13 : x21_5 = true
          · subst c13
            have H1 : (if 0 ≤ x8_1 then (if x8_1 < (a0_0.size : Int) then (if (bt a0_0 x8_1) ≥ 48 then (if (bt a0_0 x8_1) ≤ 57 then (if (x7_1.length : Int) > 0 then (if x7_1.length < 140737488355328 then (spec_DecFit.l0 kj5 a1 a2 (x7_1 ++ [bt a0_0 x8_1]) (wrap64 (x8_1 + 1)) a0_0 a0_1) else (none)) else (if (bt a0_0 x8_1) = 48 then (spec_DecFit.l0 kj5 a1 a2 x7_1 (wrap64 (x8_1 + 1)) a0_0 a0_1) else (if x7_1.length < 140737488355328 then (spec_DecFit.l0 kj5 a1 a2 (x7_1 ++ [bt a0_0 x8_1]) (wrap64 (x8_1 + 1)) a0_0 a0_1) else (none)))) else (spec_DecFit.l0 kj5 a1 a2 x7_1 (wrap64 (x8_1 + 1)) a0_0 a0_1)) else (spec_DecFit.l0 kj5 a1 a2 x7_1 (wrap64 (x8_1 + 1)) a0_0 a0_1)) else (none)) else (none)) = some (r1, r2) := by rw [if_pos rfl] at H; exact H
            clear H
            have H := H1
            clear H1
            by_cases c14 : 0 ≤ x8_1
            · rw [if_pos c14] at H
              have c14b0 : decide (0 ≤ x8_1) = true := decide_eq_true c14
              clear c14
              by_cases c15 : x8_1 < (a0_0.size : Int)
              · rw [if_pos c15] at H
                have c15b0 : decide (x8_1 < (a0_0.size : Int)) = true := decide_eq_true c15
                clear c15
                by_cases c17 : (bt a0_0 x8_1) ≥ 48
                · rw [if_pos c17] at H
                  have c17b0 : decide (48 ≤ (bt a0_0 x8_1)) = true := decide_eq_true c17
                  clear c17
                  by_cases c18 : (bt a0_0 x8_1) ≤ 57
                  · rw [if_pos c18] at H
                    have c18b0 : decide ((bt a0_0 x8_1) ≤ 57) = true := decide_eq_true c18
                    clear c18
                    by_cases c19 : (x7_1.length : Int) > 0
                    · rw [if_pos c19] at H
                      have c19b0 : decide (0 < (x7_1.length : Int)) = true := decide_eq_true c19
                      have c19b1 : decide (0 < x7_1.length) = true := decide_eq_true (by omega)
                      clear c19
                      by_cases c20 : x7_1.length < 140737488355328
                      · rw [if_pos c20] at H
                        have LMc20 := Aside0.mk c20
                        clear c20
                        obtain ⟨y104, hy104⟩ : ∃ y_ : List Int, y_ = (x7_1 ++ [bt a0_0 x8_1]) := ⟨_, rfl⟩
                        replace H : (spec_DecFit.l0 kj5 a1 a2 y104 (wrap64 (x8_1 + 1)) a0_0 a0_1) = some (r1, r2) := by first | (rw [hy104]; with_reducible exact H) | (have H2_ := (Option.bind_some _ _).symm.trans H; rw [hy104]; with_reducible exact H2_) | (have H2_ := (Option.bind_some _ _).symm.trans H; with_reducible exact H2_) | with_reducible exact H | (rw [hy104]; exact H) | exact H
                        have Ny104 := Aside0.mk hy104
                        clear hy104
                        have H' := Aside0.mk H
                        clear H
                        have hnb21 := NB102_103.out
                        have hnc21 := NB103_102.out
                        have hcz22_0 : wc.cell? ⟨gb102, 0, none⟩ = some (.string a0_0) := (blk_cell BK102.out 0).trans rfl
                        have hcz22_1 : wc.cell? ⟨gb102, 1, none⟩ = some (.int .i64 a0_1) := (blk_cell BK102.out 1).trans rfl
                        have hfz22_0 := blk_frozen BK102.out 0
                        have hfz22_1 := blk_frozen BK102.out 1
                        have p16 : 0 ≤ (x8_1 : Int) := of_decide_eq_true (by first | (with_reducible assumption) | assumption)
                        have q16 : x8_1 < (a0_0.size : Int) := of_decide_eq_true (by first | (with_reducible assumption) | assumption)
                        have hx16 := bt_at a0_0 x8_1
                        replace p16 := eq_true p16
                        replace q16 := eq_true q16
                        obtain ⟨Ao23, co23, eo23⟩ := Kd.R_slice HO_7.out
                        subst eo23
                        go_wp2_with (first | ((with_reducible refine gate_builtin (b := .append) (xs := #[.tmp 43, .tmp 45]) rfl ?_); (try (refine gate_guard (by rfl) ?_; dsimp only)); at_builtin; refine Kd.R_append (Kd.int .u8) (w0 := w) w.heap.size rfl (.tmp 43) (.tmp 45) 54 5 (.int .u8 0) 1 rfl Tryz.underlying54 info5 rfl (by decide) (by omega) (.slice Ao23 x7_1.length co23) x7_1 (bt a0_0 x8_1) [.int .u8 (bt a0_0 x8_1)] (fun _ => True) (fun _ => False) rfl rfl ?aP (fun _ hk => hk.elim) ?aF ?aO ?aB ?aS ?aL ?_; (case aP => exact rfl); (case aB => exact (by repeat (first | (with_reducible first | exact HB.out | apply below_alloc | apply pw_below_drewN | apply below_drew1 | refine below_set ?_ GE102.out | refine below_set ?_ GE103.out) | exact HB.out))); (case aF => exact (fun _ _ => trivial)); (case aO => exact (by (with_reducible repeat (first | apply Kd.R_alloc | apply Kd.R_drewN | apply Kd.R_drew)); exact HO_7.out)); (case aS => exact (below_size (by repeat (first | (with_reducible first | exact HB.out | apply below_alloc | apply pw_below_drewN | apply below_drew1 | refine below_set ?_ GE102.out | refine below_set ?_ GE103.out) | exact HB.out)))); (case aL => have := LMc20.out; omega); intro v105 w24 ho hb hg hat; rw [← Ny104.out] at ho; have n0_ := Aside0.mk (blk_grown (g := gb102) (o := .cells #[.string a0_0, .int .i64 a0_1] 23 (0, 0)) (by (with_reducible repeat (first | refine blk_drewN ?_ _ | refine blk_drew ?_ | refine blk_alloc ?_ _)); exact BK102.out) hg (Kd.R_ne HO_7.out BK102.out (by decide))); have n1_ := Aside0.mk (blk_grown (g := gb103) (o := .cells #[.string (⟨#[]⟩ : ByteArray), .int .i64 0] 23 (0, 0)) (by (with_reducible repeat (first | refine blk_drewN ?_ _ | refine blk_drew ?_ | refine blk_alloc ?_ _)); exact BK103.out) hg (Kd.R_ne HO_7.out BK103.out (by decide))); have n2_ := Aside0.mk (hb); have n3_ := Aside0.mk (ho); clear BK102; clear BK103; clear HB; clear HO_7; have BK102 := n0_; have BK103 := n1_; have HB := n2_; have HO106 := n3_; clear n0_ n1_ n2_ n3_; clear ho hb hg hat))
                        go_roundg kj5
                        case measure => have := HK1.out; have := HJ5.out; omega
                        case rel => exact ⟨(y104), (wrap64 (x8_1 + 1)), (by first | rfl | (simp; done) | (simp [*]; done)), H', ⟨by have := HK1.out; have := HJ5.out; omega⟩, ⟨by (with_reducible repeat (first | apply Kd.R_alloc | apply Kd.R_drewN | apply Kd.R_drew)); exact HO106.out⟩, ⟨by (with_reducible repeat (first | refine blk_drewN ?_ _ | refine blk_drew ?_ | refine blk_alloc ?_ _)); exact BK102.out⟩, ⟨by (with_reducible repeat (first | refine blk_drewN ?_ _ | refine blk_drew ?_ | refine blk_alloc ?_ _)); exact BK103.out⟩, ⟨by repeat (first | (with_reducible first | exact HB.out | apply below_alloc | apply pw_below_drewN | apply below_drew1 | refine below_set ?_ GE102.out | refine below_set ?_ GE103.out) | exact HB.out)⟩⟩
                      · rw [if_neg c20] at H
                        exact absurd H (by simp)
                    · rw [if_neg c19] at H
                      have c19b0 : decide (0 < (x7_1.length : Int)) = false := decide_eq_false c19
                      have c19b1 : decide (0 < x7_1.length) = false := decide_eq_false (by omega)
                      clear c19
                      by_cases c25 : (bt a0_0 x8_1) = 48
                      · rw [if_pos c25] at H
                        have c25b0 : ((bt a0_0 x8_1) == 48) = true := beq_iff_eq.mpr c25
                        have c25b1 : ((bt a0_0 x8_1) != 48) = false := bne_eq_false_iff_eq.mpr c25
                        clear c25
                        have H' := Aside0.mk H
                        clear H
                        have hnb26 := NB102_103.out
                        have hnc26 := NB103_102.out
                        have hcz27_0 : wc.cell? ⟨gb102, 0, none⟩ = some (.string a0_0) := (blk_cell BK102.out 0).trans rfl
                        have hcz27_1 : wc.cell? ⟨gb102, 1, none⟩ = some (.int .i64 a0_1) := (blk_cell BK102.out 1).trans rfl
                        have hfz27_0 := blk_frozen BK102.out 0
                        have hfz27_1 := blk_frozen BK102.out 1
                        have p16 : 0 ≤ (x8_1 : Int) := of_decide_eq_true (by first | (with_reducible assumption) | assumption)
                        have q16 : x8_1 < (a0_0.size : Int) := of_decide_eq_true (by first | (with_reducible assumption) | assumption)
                        have hx16 := bt_at a0_0 x8_1
                        replace p16 := eq_true p16
                        replace q16 := eq_true q16
                        obtain ⟨Ao28, co28, eo28⟩ := Kd.R_slice HO_7.out
                        subst eo28
                        go_wp2
                        go_roundg kj5
                        case measure => have := HK1.out; have := HJ5.out; omega
                        case rel => exact ⟨(x7_1), (wrap64 (x8_1 + 1)), (by first | rfl | (simp; done) | (simp [*]; done)), H', ⟨by have := HK1.out; have := HJ5.out; omega⟩, ⟨by (with_reducible repeat (first | apply Kd.R_alloc | apply Kd.R_drewN | apply Kd.R_drew)); exact HO_7.out⟩, ⟨by (with_reducible repeat (first | refine blk_drewN ?_ _ | refine blk_drew ?_ | refine blk_alloc ?_ _)); exact BK102.out⟩, ⟨by (with_reducible repeat (first | refine blk_drewN ?_ _ | refine blk_drew ?_ | refine blk_alloc ?_ _)); exact BK103.out⟩, ⟨by repeat (first | (with_reducible first | exact HB.out | apply below_alloc | apply pw_below_drewN | apply below_drew1 | refine below_set ?_ GE102.out | refine below_set ?_ GE103.out) | exact HB.out)⟩⟩
                      · rw [if_neg c25] at H
                        have c25b0 : ((bt a0_0 x8_1) == 48) = false := beq_eq_false_iff_ne.mpr c25
                        have c25b1 : ((bt a0_0 x8_1) != 48) = true := bne_iff_ne.mpr c25
                        by_cases c29 : x7_1.length < 140737488355328
                        · rw [if_pos c29] at H
                          have LMc29 := Aside0.mk c29
                          clear c29
                          obtain ⟨y107, hy107⟩ : ∃ y_ : List Int, y_ = (x7_1 ++ [bt a0_0 x8_1]) := ⟨_, rfl⟩
                          replace H : (spec_DecFit.l0 kj5 a1 a2 y107 (wrap64 (x8_1 + 1)) a0_0 a0_1) = some (r1, r2) := by first | (rw [hy107]; with_reducible exact H) | (have H2_ := (Option.bind_some _ _).symm.trans H; rw [hy107]; with_reducible exact H2_) | (have H2_ := (Option.bind_some _ _).symm.trans H; with_reducible exact H2_) | with_reducible exact H | (rw [hy107]; exact H) | exact H
                          have Ny107 := Aside0.mk hy107
                          clear hy107
                          have H' := Aside0.mk H
                          clear H
                          have hnb30 := NB102_103.out
                          have hnc30 := NB103_102.out
                          have hcz31_0 : wc.cell? ⟨gb102, 0, none⟩ = some (.string a0_0) := (blk_cell BK102.out 0).trans rfl
                          have hcz31_1 : wc.cell? ⟨gb102, 1, none⟩ = some (.int .i64 a0_1) := (blk_cell BK102.out 1).trans rfl
                          have hfz31_0 := blk_frozen BK102.out 0
                          have hfz31_1 := blk_frozen BK102.out 1
                          have p16 : 0 ≤ (x8_1 : Int) := of_decide_eq_true (by first | (with_reducible assumption) | assumption)
                          have q16 : x8_1 < (a0_0.size : Int) := of_decide_eq_true (by first | (with_reducible assumption) | assumption)
                          have hx16 := bt_at a0_0 x8_1
                          replace p16 := eq_true p16
                          replace q16 := eq_true q16
                          obtain ⟨Ao32, co32, eo32⟩ := Kd.R_slice HO_7.out
                          subst eo32
                          go_wp2_with (first | ((with_reducible refine gate_builtin (b := .append) (xs := #[.tmp 43, .tmp 45]) rfl ?_); (try (refine gate_guard (by rfl) ?_; dsimp only)); at_builtin; refine Kd.R_append (Kd.int .u8) (w0 := w) w.heap.size rfl (.tmp 43) (.tmp 45) 54 5 (.int .u8 0) 1 rfl Tryz.underlying54 info5 rfl (by decide) (by omega) (.slice Ao32 x7_1.length co32) x7_1 (bt a0_0 x8_1) [.int .u8 (bt a0_0 x8_1)] (fun _ => True) (fun _ => False) rfl rfl ?aP (fun _ hk => hk.elim) ?aF ?aO ?aB ?aS ?aL ?_; (case aP => exact rfl); (case aB => exact (by repeat (first | (with_reducible first | exact HB.out | apply below_alloc | apply pw_below_drewN | apply below_drew1 | refine below_set ?_ GE102.out | refine below_set ?_ GE103.out) | exact HB.out))); (case aF => exact (fun _ _ => trivial)); (case aO => exact (by (with_reducible repeat (first | apply Kd.R_alloc | apply Kd.R_drewN | apply Kd.R_drew)); exact HO_7.out)); (case aS => exact (below_size (by repeat (first | (with_reducible first | exact HB.out | apply below_alloc | apply pw_below_drewN | apply below_drew1 | refine below_set ?_ GE102.out | refine below_set ?_ GE103.out) | exact HB.out)))); (case aL => have := LMc29.out; omega); intro v108 w33 ho hb hg hat; rw [← Ny107.out] at ho; have n0_ := Aside0.mk (blk_grown (g := gb102) (o := .cells #[.string a0_0, .int .i64 a0_1] 23 (0, 0)) (by (with_reducible repeat (first | refine blk_drewN ?_ _ | refine blk_drew ?_ | refine blk_alloc ?_ _)); exact BK102.out) hg (Kd.R_ne HO_7.out BK102.out (by decide))); have n1_ := Aside0.mk (blk_grown (g := gb103) (o := .cells #[.string (⟨#[]⟩ : ByteArray), .int .i64 0] 23 (0, 0)) (by (with_reducible repeat (first | refine blk_drewN ?_ _ | refine blk_drew ?_ | refine blk_alloc ?_ _)); exact BK103.out) hg (Kd.R_ne HO_7.out BK103.out (by decide))); have n2_ := Aside0.mk (hb); have n3_ := Aside0.mk (ho); clear BK102; clear BK103; clear HB; clear HO_7; have BK102 := n0_; have BK103 := n1_; have HB := n2_; have HO109 := n3_; clear n0_ n1_ n2_ n3_; clear ho hb hg hat))
                          go_roundg kj5
                          case measure => have := HK1.out; have := HJ5.out; omega
                          case rel => exact ⟨(y107), (wrap64 (x8_1 + 1)), (by first | rfl | (simp; done) | (simp [*]; done)), H', ⟨by have := HK1.out; have := HJ5.out; omega⟩, ⟨by (with_reducible repeat (first | apply Kd.R_alloc | apply Kd.R_drewN | apply Kd.R_drew)); exact HO109.out⟩, ⟨by (with_reducible repeat (first | refine blk_drewN ?_ _ | refine blk_drew ?_ | refine blk_alloc ?_ _)); exact BK102.out⟩, ⟨by (with_reducible repeat (first | refine blk_drewN ?_ _ | refine blk_drew ?_ | refine blk_alloc ?_ _)); exact BK103.out⟩, ⟨by repeat (first | (with_reducible first | exact HB.out | apply below_alloc | apply pw_below_drewN | apply below_drew1 | refine below_set ?_ GE102.out | refine below_set ?_ GE103.out) | exact HB.out)⟩⟩
                        · rw [if_neg c29] at H
                          exact absurd H (by simp)
                  · rw [if_neg c18] at H
                    have c18b0 : decide ((bt a0_0 x8_1) ≤ 57) = false := decide_eq_false c18
                    clear c18
                    have H' := Aside0.mk H
                    clear H
                    have hnb34 := NB102_103.out
                    have hnc34 := NB103_102.out
                    have hcz35_0 : wc.cell? ⟨gb102, 0, none⟩ = some (.string a0_0) := (blk_cell BK102.out 0).trans rfl
                    have hcz35_1 : wc.cell? ⟨gb102, 1, none⟩ = some (.int .i64 a0_1) := (blk_cell BK102.out 1).trans rfl
                    have hfz35_0 := blk_frozen BK102.out 0
                    have hfz35_1 := blk_frozen BK102.out 1
                    have p16 : 0 ≤ (x8_1 : Int) := of_decide_eq_true (by first | (with_reducible assumption) | assumption)
                    have q16 : x8_1 < (a0_0.size : Int) := of_decide_eq_true (by first | (with_reducible assumption) | assumption)
                    have hx16 := bt_at a0_0 x8_1
                    replace p16 := eq_true p16
                    replace q16 := eq_true q16
                    go_wp2
                    go_roundg kj5
                    case measure => have := HK1.out; have := HJ5.out; omega
                    case rel => exact ⟨(x7_1), (wrap64 (x8_1 + 1)), (by first | rfl | (simp; done) | (simp [*]; done)), H', ⟨by have := HK1.out; have := HJ5.out; omega⟩, ⟨by (with_reducible repeat (first | apply Kd.R_alloc | apply Kd.R_drewN | apply Kd.R_drew)); exact HO_7.out⟩, ⟨by (with_reducible repeat (first | refine blk_drewN ?_ _ | refine blk_drew ?_ | refine blk_alloc ?_ _)); exact BK102.out⟩, ⟨by (with_reducible repeat (first | refine blk_drewN ?_ _ | refine blk_drew ?_ | refine blk_alloc ?_ _)); exact BK103.out⟩, ⟨by repeat (first | (with_reducible first | exact HB.out | apply below_alloc | apply pw_below_drewN | apply below_drew1 | refine below_set ?_ GE102.out | refine below_set ?_ GE103.out) | exact HB.out)⟩⟩
                · rw [if_neg c17] at H
                  have c17b0 : decide (48 ≤ (bt a0_0 x8_1)) = false := decide_eq_false c17
                  clear c17
                  have H' := Aside0.mk H
                  clear H
                  have hnb36 := NB102_103.out
                  have hnc36 := NB103_102.out
                  have hcz37_0 : wc.cell? ⟨gb102, 0, none⟩ = some (.string a0_0) := (blk_cell BK102.out 0).trans rfl
                  have hcz37_1 : wc.cell? ⟨gb102, 1, none⟩ = some (.int .i64 a0_1) := (blk_cell BK102.out 1).trans rfl
                  have hfz37_0 := blk_frozen BK102.out 0
                  have hfz37_1 := blk_frozen BK102.out 1
                  have p16 : 0 ≤ (x8_1 : Int) := of_decide_eq_true (by first | (with_reducible assumption) | assumption)
                  have q16 : x8_1 < (a0_0.size : Int) := of_decide_eq_true (by first | (with_reducible assumption) | assumption)
                  have hx16 := bt_at a0_0 x8_1
                  replace p16 := eq_true p16
                  replace q16 := eq_true q16
                  go_wp2
                  go_roundg kj5
                  case measure => have := HK1.out; have := HJ5.out; omega
                  case rel => exact ⟨(x7_1), (wrap64 (x8_1 + 1)), (by first | rfl | (simp; done) | (simp [*]; done)), H', ⟨by have := HK1.out; have := HJ5.out; omega⟩, ⟨by (with_reducible repeat (first | apply Kd.R_alloc | apply Kd.R_drewN | apply Kd.R_drew)); exact HO_7.out⟩, ⟨by (with_reducible repeat (first | refine blk_drewN ?_ _ | refine blk_drew ?_ | refine blk_alloc ?_ _)); exact BK102.out⟩, ⟨by (with_reducible repeat (first | refine blk_drewN ?_ _ | refine blk_drew ?_ | refine blk_alloc ?_ _)); exact BK103.out⟩, ⟨by repeat (first | (with_reducible first | exact HB.out | apply below_alloc | apply pw_below_drewN | apply below_drew1 | refine below_set ?_ GE102.out | refine below_set ?_ GE103.out) | exact HB.out)⟩⟩
              · rw [if_neg c15] at H
                exact absurd H (by simp)
            · rw [if_neg c14] at H
              exact absurd H (by simp)
          · replace c13 := Bool.eq_false_iff.mpr c13
            subst c13
            have H1 : (if (wrap64 (a2 + 1)) = 0 then (none) else (if (x7_1.length : Int) = 0 then (some ((⟨#[48]⟩ : ByteArray), Int.tmod a0_1 (wrap64 (a2 + 1)))) else (if 0 < (a0_0.size : Int) then (if (bt a0_0 0) = 45 then (if 1 + (strOfNums x7_1).size ≤ 9223372036854775807 then (some ((⟨#[45]⟩ : ByteArray) ++ (strOfNums x7_1), Int.tmod a0_1 (wrap64 (a2 + 1)))) else (none)) else (some (strOfNums x7_1, Int.tmod a0_1 (wrap64 (a2 + 1))))) else (none)))) = some (r1, r2) := by rw [if_neg (show ¬ (false = true) by decide)] at H; exact H
            clear H
            have H := H1
            clear H1
            by_cases c38 : (wrap64 (a2 + 1)) = 0
            · rw [if_pos c38] at H
              exact absurd H (by simp)
            · rw [if_neg c38] at H
              have c38b0 : ((wrap64 (a2 + 1)) == 0) = false := beq_eq_false_iff_ne.mpr c38
              have c38b1 : ((wrap64 (a2 + 1)) != 0) = true := bne_iff_ne.mpr c38
              by_cases c39 : (x7_1.length : Int) = 0
              · rw [if_pos c39] at H
                have c39b0 : ((x7_1.length : Int) == 0) = true := beq_iff_eq.mpr c39
                have c39b1 : ((x7_1.length : Int) != 0) = false := bne_eq_false_iff_eq.mpr c39
                clear c39
                simp only [Option.some.injEq, Prod.mk.injEq] at H
                obtain ⟨rfl, rfl⟩ := H
                try go_wp2
                have n0_ := Aside0.mk (Kd.R_drew HO_7.out)
                have n1_ := Aside0.mk (blk_drew BK102.out)
                have n2_ := Aside0.mk (blk_drew BK103.out)
                have n3_ := Aside0.mk (below_drew1 HB.out)
                clear HO_7
                clear BK102
                clear BK103
                clear HB
                have HO_7 := n0_
                have BK102 := n1_
                have BK103 := n2_
                have HB := n3_
                clear n0_ n1_ n2_ n3_
                have hcv41 := own_string (P := Tryz.prog) Tryz.underlying54 Tryz.underlying5 Tryz.underlying9 (Kd.own_of_R HO_7.out)
                (try rw [hl3_1] at c8b0)
                refine start_ (n := 10) (S := fun w' => w'.cell? ⟨gb102, 0, none⟩ = some (.string a0_0) ∧ w'.cell? ⟨gb102, 1, none⟩ = some (.int .i64 a0_1) ∧ (convert 54 9 u7).run Tryz.prog w' = .ok (.string (strOfNums x7_1)) w') (ds := [9]) #[false, false, false, false, false, false, false, false, false, false] (by kernel_rfl) rfl rfl ⟨(blk_cell BK102.out 0).trans rfl, (blk_cell BK102.out 1).trans rfl, own_string (P := Tryz.prog) Tryz.underlying54 Tryz.underlying5 Tryz.underlying9 (Kd.own_of_R HO_7.out)⟩ (fun hHeld => ?_); refine with_tabW spec_DecFit.tab8 spec_DecFit.bits8 (fun HT_ HW_ => ?_)
                generalize wc.drew = w40 at HO_7 BK102 BK103 HB hHeld ⊢
                refine pure_ (i := 0) (N := some 47) (v := ?_) (a' := ?_) #[true, false, false, false, false, false, false, false, false, false] rfl rfl (any_of HT_.out (by kernel_rfl)) (fun _ _ _ h => h) (Or.inl ⟨by rfl, ?_⟩) ?_ ?_
                rotate_left
                · intro w'
                  go_simp
                  with_reducible rfl
                rotate_left
                · simp only [Act.put, List.setIfInBounds_toArray, List.set_cons_zero, List.set_cons_succ, i64_w, i32_w]
                  rfl
                refine take_ (i := 1) (N := some 48) (v := ?_) (a' := ?_) #[true, true, false, false, false, false, false, false, false, false] rfl rfl (take_ofW HT_.out HW_.out (by kernel_rfl)) (fun _ _ _ h => h) (Or.inl ⟨by rfl, ?_⟩) hHeld ?_ ?_
                rotate_left
                · rintro w' ⟨s0, s1, s2⟩
                  go_simp
                  with_reducible rfl
                rotate_left
                · simp only [Act.put, List.setIfInBounds_toArray, List.set_cons_zero, List.set_cons_succ, i64_w, i32_w]
                  rfl
                refine pure_ (i := 2) (N := some 49) (v := ?_) (a' := ?_) #[true, true, true, false, false, false, false, false, false, false] rfl rfl (any_of HT_.out (by kernel_rfl)) (fun _ _ _ h => h) (Or.inl ⟨by rfl, ?_⟩) ?_ ?_
                rotate_left
                · intro w'
                  go_simp
                  with_reducible rfl
                rotate_left
                · simp only [Act.put, List.setIfInBounds_toArray, List.set_cons_zero, List.set_cons_succ, i64_w, i32_w]
                  rfl
                refine pure_ (i := 4) (N := some 51) (v := ?_) (a' := ?_) #[true, true, true, false, true, false, false, false, false, false] rfl rfl (any_of HT_.out (by kernel_rfl)) (fun _ _ _ h => h) (Or.inl ⟨by rfl, ?_⟩) ?_ ?_
                rotate_left
                · intro w'
                  go_simp
                  with_reducible rfl
                rotate_left
                · simp only [Act.put, List.setIfInBounds_toArray, List.set_cons_zero, List.set_cons_succ, i64_w, i32_w]
                  rfl
                refine pure_ (i := 5) (N := some 52) (v := ?_) (a' := ?_) #[true, true, true, false, true, true, false, false, false, false] rfl rfl (any_of HT_.out (by kernel_rfl)) (fun _ _ _ h => h) (Or.inl ⟨by rfl, ?_⟩) ?_ ?_
                rotate_left
                · intro w'
                  go_simp
                  with_reducible rfl
                rotate_left
                · simp only [Act.put, List.setIfInBounds_toArray, List.set_cons_zero, List.set_cons_succ, i64_w, i32_w]
                  rfl
                refine take_ (i := 3) (N := some 50) (v := ?_) (a' := ?_) #[true, true, true, true, true, true, false, false, false, false] rfl rfl (take_ofW HT_.out HW_.out (by kernel_rfl)) (fun _ _ _ h => h) (Or.inl ⟨by rfl, ?_⟩) hHeld ?_ ?_
                rotate_left
                · rintro w' ⟨s0, s1, s2⟩
                  go_simp
                  with_reducible rfl
                rotate_left
                · simp only [Act.put, List.setIfInBounds_toArray, List.set_cons_zero, List.set_cons_succ, i64_w, i32_w]
                  rfl
                refine pure_ (i := 6) (N := some 53) (v := ?_) (a' := ?_) #[true, true, true, true, true, true, true, false, false, false] rfl rfl (any_of HT_.out (by kernel_rfl)) (fun _ _ _ h => h) (Or.inl ⟨by rfl, ?_⟩) ?_ ?_
                rotate_left
                · intro w'
                  go_simp
                  with_reducible rfl
                rotate_left
                · simp only [Act.put, List.setIfInBounds_toArray, List.set_cons_zero, List.set_cons_succ, i64_w, i32_w]
                  rfl
                refine pure_ (i := 7) (N := some 54) (v := ?_) (a' := ?_) #[true, true, true, true, true, true, true, true, false, false] rfl rfl (any_of HT_.out (by kernel_rfl)) (fun _ _ _ h => h) (Or.inl ⟨by rfl, ?_⟩) ?_ ?_
                rotate_left
                · intro w'
                  go_simp
                  with_reducible rfl
                rotate_left
                · simp only [Act.put, List.setIfInBounds_toArray, List.set_cons_zero, List.set_cons_succ, i64_w, i32_w]
                  rfl
                refine one_ (i := 8) (N := some 10) #[true, true, true, true, true, true, true, true, true, false] rfl rfl (one_of HT_.out (by kernel_rfl)) (by decide) (fun K hK => ?_)
                refine box_step ?hg (N := 10) ?hd (cs := #[.string (⟨#[]⟩ : ByteArray), .int .i64 0]) (t := 23) ?hr ?_; (case hd => rfl); (case hg => rfl); (case hr => first | (go_simp; done) | (go_simp; rfl))
                intro gb110 hg w42 hbox hb
                have n0_ := Aside0.mk (Kd.R_below (by (with_reducible repeat (first | apply Kd.R_alloc | apply Kd.R_drewN | apply Kd.R_drew)); exact HO_7.out) hb)
                have n1_ := Aside0.mk (blk_below (g := gb102) (o := .cells #[.string a0_0, .int .i64 a0_1] 23 (0, 0)) (by (with_reducible repeat (first | refine blk_drewN ?_ _ | refine blk_drew ?_ | refine blk_alloc ?_ _)); exact BK102.out) hb)
                have n2_ := Aside0.mk (blk_below (g := gb103) (o := .cells #[.string (⟨#[]⟩ : ByteArray), .int .i64 0] 23 (0, 0)) (by (with_reducible repeat (first | refine blk_drewN ?_ _ | refine blk_drew ?_ | refine blk_alloc ?_ _)); exact BK103.out) hb)
                have n3_ := Aside0.mk (below_step (by repeat (first | (with_reducible first | exact HB.out | apply below_alloc | apply pw_below_drewN | apply below_drew1 | refine below_set ?_ GE102.out | refine below_set ?_ GE103.out) | exact HB.out)) hb)
                have n4_ := Aside0.mk (hbox)
                have n5_ := Aside0.mk ((by rw [hg]; exact (below_size (by repeat (first | (with_reducible first | exact HB.out | apply below_alloc | apply pw_below_drewN | apply below_drew1 | refine below_set ?_ GE102.out | refine below_set ?_ GE103.out) | exact HB.out))) : w.heap.size ≤ gb110))
                have n6_ := Aside0.mk ((by rw [hg]; exact (below_size (by repeat (first | (with_reducible first | exact HB.out | apply below_alloc | apply pw_below_drewN | apply below_drew1 | refine below_set ?_ GE102.out | refine below_set ?_ GE103.out) | exact HB.out))) : w.heap.size ≤ gb110))
                have n7_ := Aside0.mk ((by rw [hg]; exact Nat.ne_of_lt (blk_lt (g := gb102) (o := .cells #[.string a0_0, .int .i64 a0_1] 23 (0, 0)) (by (with_reducible repeat (first | refine blk_drewN ?_ _ | refine blk_drew ?_ | refine blk_alloc ?_ _)); exact BK102.out)) : gb102 ≠ gb110))
                have n8_ := Aside0.mk ((by rw [hg]; exact Nat.ne_of_gt (blk_lt (g := gb102) (o := .cells #[.string a0_0, .int .i64 a0_1] 23 (0, 0)) (by (with_reducible repeat (first | refine blk_drewN ?_ _ | refine blk_drew ?_ | refine blk_alloc ?_ _)); exact BK102.out)) : gb110 ≠ gb102))
                have n9_ := Aside0.mk ((by rw [hg]; exact Nat.ne_of_lt (blk_lt (g := gb103) (o := .cells #[.string (⟨#[]⟩ : ByteArray), .int .i64 0] 23 (0, 0)) (by (with_reducible repeat (first | refine blk_drewN ?_ _ | refine blk_drew ?_ | refine blk_alloc ?_ _)); exact BK103.out)) : gb103 ≠ gb110))
                have n10_ := Aside0.mk ((by rw [hg]; exact Nat.ne_of_gt (blk_lt (g := gb103) (o := .cells #[.string (⟨#[]⟩ : ByteArray), .int .i64 0] 23 (0, 0)) (by (with_reducible repeat (first | refine blk_drewN ?_ _ | refine blk_drew ?_ | refine blk_alloc ?_ _)); exact BK103.out)) : gb110 ≠ gb103))
                clear HO_7
                clear BK102
                clear BK103
                clear HB
                have HO_7 := n0_
                have BK102 := n1_
                have BK103 := n2_
                have HB := n3_
                have BK110 := n4_
                have GW110 := n5_
                have GE110 := n6_
                have NB102_110 := n7_
                have NB110_102 := n8_
                have NB103_110 := n9_
                have NB110_103 := n10_
                clear n0_ n1_ n2_ n3_ n4_ n5_ n6_ n7_ n8_ n9_ n10_
                clear hb hbox hg
                refine hK.out _ _ ⟨(blk_cell BK102.out 0).trans rfl, (blk_cell BK102.out 1).trans rfl, own_string (P := Tryz.prog) Tryz.underlying54 Tryz.underlying5 Tryz.underlying9 (Kd.own_of_R HO_7.out)⟩ (fun hHeld => ?_)
                clear hK K
                refine norm_ (a' := ?_) ?_ ?_
                rotate_left
                · show Act.put _ (some 10) _ = _
                  simp only [Act.put, List.setIfInBounds_toArray, List.set_cons_zero, List.set_cons_succ, i64_w, i32_w]
                  rfl
                refine last_ (i := 9) (N := none) #[true, true, true, true, true, true, true, true, true, true] rfl rfl (one_of HT_.out (by kernel_rfl)) (by decide) (fun K hK => ?_)
                have hs44 : w42.cell? ⟨gb110, 0, none⟩ = some (.string (⟨#[]⟩ : ByteArray)) := (blk_cell BK110.out 0).trans rfl
                have hfs44 := blk_frozen BK110.out 0
                have hns44_0 := NB102_110.out
                have hns44_1 := NB103_110.out
                have hms44_0 := NB110_102.out
                have hms44_1 := NB110_103.out
                have hs45 : w42.cell? ⟨gb110, 1, none⟩ = some (.int .i64 0) := (blk_cell BK110.out 1).trans rfl
                have hfs45 := blk_frozen BK110.out 1
                have hns45_0 := NB102_110.out
                have hns45_1 := NB103_110.out
                have hms45_0 := NB110_102.out
                have hms45_1 := NB110_103.out
                refine skip_ (w1 := ?_) (by rfl) rfl ?_ ?_
                rotate_left
                · go_simp
                  rfl
                refine hK.out _ _ ?_
                clear hK K
                refine done_ (done_of HT_.out (by kernel_rfl)) ?_
                obtain ⟨Ao46, co46, eo46⟩ := Kd.R_slice HO_7.out
                subst eo46
                have hnb47 := NB110_102.out
                have hnc47 := NB102_110.out
                have hnb48 := NB110_103.out
                have hnc48 := NB103_110.out
                have hcz49_0 : w42.cell? ⟨gb110, 0, none⟩ = some (.string (⟨#[]⟩ : ByteArray)) := (blk_cell BK110.out 0).trans rfl
                have hcz49_1 : w42.cell? ⟨gb110, 1, none⟩ = some (.int .i64 0) := (blk_cell BK110.out 1).trans rfl
                have hfz49_0 := blk_frozen BK110.out 0
                have hfz49_1 := blk_frozen BK110.out 1
                have hnb50 := NB103_102.out
                have hnc50 := NB102_103.out
                have hcz51_0 : w42.cell? ⟨gb103, 0, none⟩ = some (.string (⟨#[]⟩ : ByteArray)) := (blk_cell BK103.out 0).trans rfl
                have hcz51_1 : w42.cell? ⟨gb103, 1, none⟩ = some (.int .i64 0) := (blk_cell BK103.out 1).trans rfl
                have hfz51_0 := blk_frozen BK103.out 0
                have hfz51_1 := blk_frozen BK103.out 1
                try go_wp2
                refine bodyPost_ret (results_cell_row rfl _ _ gb103 23 #[.string (⟨#[48]⟩ : ByteArray), .int .i64 (Int.tmod a0_1 (wrap64 (a2 + 1)))] (0, 0) _ rfl (by (with_reducible repeat (first | refine blk_drewN ?_ _ | refine blk_drew ?_ | refine blk_alloc ?_ _)); refine blk_put (cs := #[.string (⟨#[48]⟩ : ByteArray), .int .i64 0]) ?_ 1 _ rfl; (with_reducible repeat (first | refine blk_drewN ?_ _ | refine blk_drew ?_ | refine blk_alloc ?_ _)); refine blk_put (cs := #[.string (⟨#[]⟩ : ByteArray), .int .i64 0]) ?_ 0 _ rfl; (with_reducible repeat (first | refine blk_drewN ?_ _ | refine blk_drew ?_ | refine blk_alloc ?_ _)); refine blk_far ?_ NB103_110.out _; (with_reducible repeat (first | refine blk_drewN ?_ _ | refine blk_drew ?_ | refine blk_alloc ?_ _)); refine blk_far ?_ NB103_110.out _; (with_reducible repeat (first | refine blk_drewN ?_ _ | refine blk_drew ?_ | refine blk_alloc ?_ _)); refine blk_far ?_ NB103_110.out _; (with_reducible repeat (first | refine blk_drewN ?_ _ | refine blk_drew ?_ | refine blk_alloc ?_ _)); exact BK103.out) Tryz.underlying23 rfl (by kernel_rfl)) rfl ?_
                exact ⟨by first | rfl | (simp [errW_none, errW_some] <;> rfl) | (simp [*, errW_none, errW_some] <;> rfl), by repeat (first | (with_reducible first | exact HB.out | apply below_alloc | apply pw_below_drewN | apply below_drew1 | refine below_set ?_ GE102.out | refine below_set ?_ GE103.out | refine below_set ?_ GE110.out) | exact HB.out)⟩
              · rw [if_neg c39] at H
                have c39b0 : ((x7_1.length : Int) == 0) = false := beq_eq_false_iff_ne.mpr c39
                have c39b1 : ((x7_1.length : Int) != 0) = true := bne_iff_ne.mpr c39
                have c39b2 : ¬ (x7_1 = []) := fun h_ => c39 (by rw [h_]; rfl)
                by_cases c52 : 0 < (a0_0.size : Int)
                · rw [if_pos c52] at H
                  have c52b0 : decide (0 < (a0_0.size : Int)) = true := decide_eq_true c52
                  have c52b1 : decide (0 < a0_0.size) = true := decide_eq_true (by omega)
                  clear c52
                  by_cases c54 : (bt a0_0 0) = 45
                  · rw [if_pos c54] at H
                    have c54b0 : ((bt a0_0 0) == 45) = true := beq_iff_eq.mpr c54
                    have c54b1 : ((bt a0_0 0) != 45) = false := bne_eq_false_iff_eq.mpr c54
                    clear c54
                    by_cases c55 : 1 + (strOfNums x7_1).size ≤ 9223372036854775807
                    · rw [if_pos c55] at H
                      have c55b0 := eq_true c55
                      have c55b1 : decide (1 + (strOfNums x7_1).size ≤ 9223372036854775807) = true := decide_eq_true c55
                      try have c55b2 : (9223372036854775807 < 1 + (strOfNums x7_1).size) = False := eq_false (Nat.not_lt.2 c55)
                      simp only [Option.some.injEq, Prod.mk.injEq] at H
                      obtain ⟨rfl, rfl⟩ := H
                      try go_wp2
                      have n0_ := Aside0.mk (Kd.R_drew HO_7.out)
                      have n1_ := Aside0.mk (blk_drew BK102.out)
                      have n2_ := Aside0.mk (blk_drew BK103.out)
                      have n3_ := Aside0.mk (below_drew1 HB.out)
                      clear HO_7
                      clear BK102
                      clear BK103
                      clear HB
                      have HO_7 := n0_
                      have BK102 := n1_
                      have BK103 := n2_
                      have HB := n3_
                      clear n0_ n1_ n2_ n3_
                      have hcv57 := own_string (P := Tryz.prog) Tryz.underlying54 Tryz.underlying5 Tryz.underlying9 (Kd.own_of_R HO_7.out)
                      (try rw [hl3_1] at c8b0)
                      refine start_ (n := 10) (S := fun w' => w'.cell? ⟨gb102, 0, none⟩ = some (.string a0_0) ∧ w'.cell? ⟨gb102, 1, none⟩ = some (.int .i64 a0_1) ∧ (convert 54 9 u7).run Tryz.prog w' = .ok (.string (strOfNums x7_1)) w') (ds := [9]) #[false, false, false, false, false, false, false, false, false, false] (by kernel_rfl) rfl rfl ⟨(blk_cell BK102.out 0).trans rfl, (blk_cell BK102.out 1).trans rfl, own_string (P := Tryz.prog) Tryz.underlying54 Tryz.underlying5 Tryz.underlying9 (Kd.own_of_R HO_7.out)⟩ (fun hHeld => ?_); refine with_tabW spec_DecFit.tab8 spec_DecFit.bits8 (fun HT_ HW_ => ?_)
                      generalize wc.drew = w56 at HO_7 BK102 BK103 HB hHeld ⊢
                      refine pure_ (i := 0) (N := some 47) (v := ?_) (a' := ?_) #[true, false, false, false, false, false, false, false, false, false] rfl rfl (any_of HT_.out (by kernel_rfl)) (fun _ _ _ h => h) (Or.inl ⟨by rfl, ?_⟩) ?_ ?_
                      rotate_left
                      · intro w'
                        go_simp
                        with_reducible rfl
                      rotate_left
                      · simp only [Act.put, List.setIfInBounds_toArray, List.set_cons_zero, List.set_cons_succ, i64_w, i32_w]
                        rfl
                      refine take_ (i := 1) (N := some 48) (v := ?_) (a' := ?_) #[true, true, false, false, false, false, false, false, false, false] rfl rfl (take_ofW HT_.out HW_.out (by kernel_rfl)) (fun _ _ _ h => h) (Or.inl ⟨by rfl, ?_⟩) hHeld ?_ ?_
                      rotate_left
                      · rintro w' ⟨s0, s1, s2⟩
                        go_simp
                        with_reducible rfl
                      rotate_left
                      · simp only [Act.put, List.setIfInBounds_toArray, List.set_cons_zero, List.set_cons_succ, i64_w, i32_w]
                        rfl
                      refine pure_ (i := 2) (N := some 49) (v := ?_) (a' := ?_) #[true, true, true, false, false, false, false, false, false, false] rfl rfl (any_of HT_.out (by kernel_rfl)) (fun _ _ _ h => h) (Or.inl ⟨by rfl, ?_⟩) ?_ ?_
                      rotate_left
                      · intro w'
                        go_simp
                        with_reducible rfl
                      rotate_left
                      · simp only [Act.put, List.setIfInBounds_toArray, List.set_cons_zero, List.set_cons_succ, i64_w, i32_w]
                        rfl
                      refine pure_ (i := 4) (N := some 51) (v := ?_) (a' := ?_) #[true, true, true, false, true, false, false, false, false, false] rfl rfl (any_of HT_.out (by kernel_rfl)) (fun _ _ _ h => h) (Or.inl ⟨by rfl, ?_⟩) ?_ ?_
                      rotate_left
                      · intro w'
                        go_simp
                        with_reducible rfl
                      rotate_left
                      · simp only [Act.put, List.setIfInBounds_toArray, List.set_cons_zero, List.set_cons_succ, i64_w, i32_w]
                        rfl
                      refine pure_ (i := 5) (N := some 52) (v := ?_) (a' := ?_) #[true, true, true, false, true, true, false, false, false, false] rfl rfl (any_of HT_.out (by kernel_rfl)) (fun _ _ _ h => h) (Or.inl ⟨by rfl, ?_⟩) ?_ ?_
                      rotate_left
                      · intro w'
                        go_simp
                        with_reducible rfl
                      rotate_left
                      · simp only [Act.put, List.setIfInBounds_toArray, List.set_cons_zero, List.set_cons_succ, i64_w, i32_w]
                        rfl
                      refine take_ (i := 3) (N := some 50) (v := ?_) (a' := ?_) #[true, true, true, true, true, true, false, false, false, false] rfl rfl (take_ofW HT_.out HW_.out (by kernel_rfl)) (fun _ _ _ h => h) (Or.inl ⟨by rfl, ?_⟩) hHeld ?_ ?_
                      rotate_left
                      · rintro w' ⟨s0, s1, s2⟩
                        go_simp
                        with_reducible rfl
                      rotate_left
                      · simp only [Act.put, List.setIfInBounds_toArray, List.set_cons_zero, List.set_cons_succ, i64_w, i32_w]
                        rfl
                      refine pure_ (i := 6) (N := some 53) (v := ?_) (a' := ?_) #[true, true, true, true, true, true, true, false, false, false] rfl rfl (any_of HT_.out (by kernel_rfl)) (fun _ _ _ h => h) (Or.inl ⟨by rfl, ?_⟩) ?_ ?_
                      rotate_left
                      · intro w'
                        go_simp
                        with_reducible rfl
                      rotate_left
                      · simp only [Act.put, List.setIfInBounds_toArray, List.set_cons_zero, List.set_cons_succ, i64_w, i32_w]
                        rfl
                      refine pure_ (i := 7) (N := some 54) (v := ?_) (a' := ?_) #[true, true, true, true, true, true, true, true, false, false] rfl rfl (any_of HT_.out (by kernel_rfl)) (fun _ _ _ h => h) (Or.inl ⟨by rfl, ?_⟩) ?_ ?_
                      rotate_left
                      · intro w'
                        go_simp
                        with_reducible rfl
                      rotate_left
                      · simp only [Act.put, List.setIfInBounds_toArray, List.set_cons_zero, List.set_cons_succ, i64_w, i32_w]
                        rfl
                      refine one_ (i := 8) (N := some 10) #[true, true, true, true, true, true, true, true, true, false] rfl rfl (one_of HT_.out (by kernel_rfl)) (by decide) (fun K hK => ?_)
                      refine box_step ?hg (N := 10) ?hd (cs := #[.string (⟨#[]⟩ : ByteArray), .int .i64 0]) (t := 23) ?hr ?_; (case hd => rfl); (case hg => rfl); (case hr => first | (go_simp; done) | (go_simp; rfl))
                      intro gb110 hg w58 hbox hb
                      have n0_ := Aside0.mk (Kd.R_below (by (with_reducible repeat (first | apply Kd.R_alloc | apply Kd.R_drewN | apply Kd.R_drew)); exact HO_7.out) hb)
                      have n1_ := Aside0.mk (blk_below (g := gb102) (o := .cells #[.string a0_0, .int .i64 a0_1] 23 (0, 0)) (by (with_reducible repeat (first | refine blk_drewN ?_ _ | refine blk_drew ?_ | refine blk_alloc ?_ _)); exact BK102.out) hb)
                      have n2_ := Aside0.mk (blk_below (g := gb103) (o := .cells #[.string (⟨#[]⟩ : ByteArray), .int .i64 0] 23 (0, 0)) (by (with_reducible repeat (first | refine blk_drewN ?_ _ | refine blk_drew ?_ | refine blk_alloc ?_ _)); exact BK103.out) hb)
                      have n3_ := Aside0.mk (below_step (by repeat (first | (with_reducible first | exact HB.out | apply below_alloc | apply pw_below_drewN | apply below_drew1 | refine below_set ?_ GE102.out | refine below_set ?_ GE103.out) | exact HB.out)) hb)
                      have n4_ := Aside0.mk (hbox)
                      have n5_ := Aside0.mk ((by rw [hg]; exact (below_size (by repeat (first | (with_reducible first | exact HB.out | apply below_alloc | apply pw_below_drewN | apply below_drew1 | refine below_set ?_ GE102.out | refine below_set ?_ GE103.out) | exact HB.out))) : w.heap.size ≤ gb110))
                      have n6_ := Aside0.mk ((by rw [hg]; exact (below_size (by repeat (first | (with_reducible first | exact HB.out | apply below_alloc | apply pw_below_drewN | apply below_drew1 | refine below_set ?_ GE102.out | refine below_set ?_ GE103.out) | exact HB.out))) : w.heap.size ≤ gb110))
                      have n7_ := Aside0.mk ((by rw [hg]; exact Nat.ne_of_lt (blk_lt (g := gb102) (o := .cells #[.string a0_0, .int .i64 a0_1] 23 (0, 0)) (by (with_reducible repeat (first | refine blk_drewN ?_ _ | refine blk_drew ?_ | refine blk_alloc ?_ _)); exact BK102.out)) : gb102 ≠ gb110))
                      have n8_ := Aside0.mk ((by rw [hg]; exact Nat.ne_of_gt (blk_lt (g := gb102) (o := .cells #[.string a0_0, .int .i64 a0_1] 23 (0, 0)) (by (with_reducible repeat (first | refine blk_drewN ?_ _ | refine blk_drew ?_ | refine blk_alloc ?_ _)); exact BK102.out)) : gb110 ≠ gb102))
                      have n9_ := Aside0.mk ((by rw [hg]; exact Nat.ne_of_lt (blk_lt (g := gb103) (o := .cells #[.string (⟨#[]⟩ : ByteArray), .int .i64 0] 23 (0, 0)) (by (with_reducible repeat (first | refine blk_drewN ?_ _ | refine blk_drew ?_ | refine blk_alloc ?_ _)); exact BK103.out)) : gb103 ≠ gb110))
                      have n10_ := Aside0.mk ((by rw [hg]; exact Nat.ne_of_gt (blk_lt (g := gb103) (o := .cells #[.string (⟨#[]⟩ : ByteArray), .int .i64 0] 23 (0, 0)) (by (with_reducible repeat (first | refine blk_drewN ?_ _ | refine blk_drew ?_ | refine blk_alloc ?_ _)); exact BK103.out)) : gb110 ≠ gb103))
                      clear HO_7
                      clear BK102
                      clear BK103
                      clear HB
                      have HO_7 := n0_
                      have BK102 := n1_
                      have BK103 := n2_
                      have HB := n3_
                      have BK110 := n4_
                      have GW110 := n5_
                      have GE110 := n6_
                      have NB102_110 := n7_
                      have NB110_102 := n8_
                      have NB103_110 := n9_
                      have NB110_103 := n10_
                      clear n0_ n1_ n2_ n3_ n4_ n5_ n6_ n7_ n8_ n9_ n10_
                      clear hb hbox hg
                      refine hK.out _ _ ⟨(blk_cell BK102.out 0).trans rfl, (blk_cell BK102.out 1).trans rfl, own_string (P := Tryz.prog) Tryz.underlying54 Tryz.underlying5 Tryz.underlying9 (Kd.own_of_R HO_7.out)⟩ (fun hHeld => ?_)
                      clear hK K
                      refine norm_ (a' := ?_) ?_ ?_
                      rotate_left
                      · show Act.put _ (some 10) _ = _
                        simp only [Act.put, List.setIfInBounds_toArray, List.set_cons_zero, List.set_cons_succ, i64_w, i32_w]
                        rfl
                      refine last_ (i := 9) (N := none) #[true, true, true, true, true, true, true, true, true, true] rfl rfl (one_of HT_.out (by kernel_rfl)) (by decide) (fun K hK => ?_)
                      have hs60 : w58.cell? ⟨gb110, 0, none⟩ = some (.string (⟨#[]⟩ : ByteArray)) := (blk_cell BK110.out 0).trans rfl
                      have hfs60 := blk_frozen BK110.out 0
                      have hns60_0 := NB102_110.out
                      have hns60_1 := NB103_110.out
                      have hms60_0 := NB110_102.out
                      have hms60_1 := NB110_103.out
                      have hs61 : w58.cell? ⟨gb110, 1, none⟩ = some (.int .i64 0) := (blk_cell BK110.out 1).trans rfl
                      have hfs61 := blk_frozen BK110.out 1
                      have hns61_0 := NB102_110.out
                      have hns61_1 := NB103_110.out
                      have hms61_0 := NB110_102.out
                      have hms61_1 := NB110_103.out
                      refine skip_ (w1 := ?_) (by rfl) rfl ?_ ?_
                      rotate_left
                      · go_simp
                        rfl
                      refine hK.out _ _ ?_
                      clear hK K
                      refine done_ (done_of HT_.out (by kernel_rfl)) ?_
                      obtain ⟨Ao62, co62, eo62⟩ := Kd.R_slice HO_7.out
                      subst eo62
                      have hnb63 := NB102_103.out
                      have hnc63 := NB103_102.out
                      have hnb64 := NB102_110.out
                      have hnc64 := NB110_102.out
                      have hcz65_0 : w58.cell? ⟨gb102, 0, none⟩ = some (.string a0_0) := (blk_cell BK102.out 0).trans rfl
                      have hcz65_1 : w58.cell? ⟨gb102, 1, none⟩ = some (.int .i64 a0_1) := (blk_cell BK102.out 1).trans rfl
                      have hfz65_0 := blk_frozen BK102.out 0
                      have hfz65_1 := blk_frozen BK102.out 1
                      have p53 : 0 ≤ (0 : Int) := (by omega)
                      have q53 : 0 < a0_0.size := (by have : (0 : Int) < (a0_0.size : Int) := of_decide_eq_true (by first | (with_reducible assumption) | assumption); omega)
                      have hx53 : ∀ h : 0 < a0_0.size, ((a0_0[0]'h).toNat : Int) = bt a0_0 0 := bt_at a0_0 0
                      clear p53
                      have qi53 : (0 < (a0_0.size : Int)) = True := eq_true (of_decide_eq_true (by first | (with_reducible assumption) | assumption))
                      replace q53 := eq_true q53
                      have hnb66 := NB110_103.out
                      have hnc66 := NB103_110.out
                      have hcz67_0 : w58.cell? ⟨gb110, 0, none⟩ = some (.string (⟨#[]⟩ : ByteArray)) := (blk_cell BK110.out 0).trans rfl
                      have hcz67_1 : w58.cell? ⟨gb110, 1, none⟩ = some (.int .i64 0) := (blk_cell BK110.out 1).trans rfl
                      have hfz67_0 := blk_frozen BK110.out 0
                      have hfz67_1 := blk_frozen BK110.out 1
                      have hcz68_0 : w58.cell? ⟨gb103, 0, none⟩ = some (.string (⟨#[]⟩ : ByteArray)) := (blk_cell BK103.out 0).trans rfl
                      have hcz68_1 : w58.cell? ⟨gb103, 1, none⟩ = some (.int .i64 0) := (blk_cell BK103.out 1).trans rfl
                      have hfz68_0 := blk_frozen BK103.out 0
                      have hfz68_1 := blk_frozen BK103.out 1
                      try go_wp2
                      refine bodyPost_ret (results_cell_row rfl _ _ gb103 23 #[.string ((⟨#[45]⟩ : ByteArray) ++ (strOfNums x7_1)), .int .i64 (Int.tmod a0_1 (wrap64 (a2 + 1)))] (0, 0) _ rfl (by (with_reducible repeat (first | refine blk_drewN ?_ _ | refine blk_drew ?_ | refine blk_alloc ?_ _)); refine blk_put (cs := #[.string ((⟨#[45]⟩ : ByteArray) ++ (strOfNums x7_1)), .int .i64 0]) ?_ 1 _ rfl; (with_reducible repeat (first | refine blk_drewN ?_ _ | refine blk_drew ?_ | refine blk_alloc ?_ _)); refine blk_put (cs := #[.string (⟨#[]⟩ : ByteArray), .int .i64 0]) ?_ 0 _ rfl; (with_reducible repeat (first | refine blk_drewN ?_ _ | refine blk_drew ?_ | refine blk_alloc ?_ _)); refine blk_far ?_ NB103_110.out _; (with_reducible repeat (first | refine blk_drewN ?_ _ | refine blk_drew ?_ | refine blk_alloc ?_ _)); refine blk_far ?_ NB103_110.out _; (with_reducible repeat (first | refine blk_drewN ?_ _ | refine blk_drew ?_ | refine blk_alloc ?_ _)); refine blk_far ?_ NB103_110.out _; (with_reducible repeat (first | refine blk_drewN ?_ _ | refine blk_drew ?_ | refine blk_alloc ?_ _)); exact BK103.out) Tryz.underlying23 rfl (by kernel_rfl)) rfl ?_
                      exact ⟨by first | rfl | (simp [errW_none, errW_some] <;> rfl) | (simp [*, errW_none, errW_some] <;> rfl), by repeat (first | (with_reducible first | exact HB.out | apply below_alloc | apply pw_below_drewN | apply below_drew1 | refine below_set ?_ GE102.out | refine below_set ?_ GE103.out | refine below_set ?_ GE110.out) | exact HB.out)⟩
                    · rw [if_neg c55] at H
                      exact absurd H (by simp)
                  · rw [if_neg c54] at H
                    have c54b0 : ((bt a0_0 0) == 45) = false := beq_eq_false_iff_ne.mpr c54
                    have c54b1 : ((bt a0_0 0) != 45) = true := bne_iff_ne.mpr c54
                    simp only [Option.some.injEq, Prod.mk.injEq] at H
                    obtain ⟨rfl, rfl⟩ := H
                    try go_wp2
                    have n0_ := Aside0.mk (Kd.R_drew HO_7.out)
                    have n1_ := Aside0.mk (blk_drew BK102.out)
                    have n2_ := Aside0.mk (blk_drew BK103.out)
                    have n3_ := Aside0.mk (below_drew1 HB.out)
                    clear HO_7
                    clear BK102
                    clear BK103
                    clear HB
                    have HO_7 := n0_
                    have BK102 := n1_
                    have BK103 := n2_
                    have HB := n3_
                    clear n0_ n1_ n2_ n3_
                    have hcv70 := own_string (P := Tryz.prog) Tryz.underlying54 Tryz.underlying5 Tryz.underlying9 (Kd.own_of_R HO_7.out)
                    (try rw [hl3_1] at c8b0)
                    refine start_ (n := 10) (S := fun w' => w'.cell? ⟨gb102, 0, none⟩ = some (.string a0_0) ∧ w'.cell? ⟨gb102, 1, none⟩ = some (.int .i64 a0_1) ∧ (convert 54 9 u7).run Tryz.prog w' = .ok (.string (strOfNums x7_1)) w') (ds := [9]) #[false, false, false, false, false, false, false, false, false, false] (by kernel_rfl) rfl rfl ⟨(blk_cell BK102.out 0).trans rfl, (blk_cell BK102.out 1).trans rfl, own_string (P := Tryz.prog) Tryz.underlying54 Tryz.underlying5 Tryz.underlying9 (Kd.own_of_R HO_7.out)⟩ (fun hHeld => ?_); refine with_tabW spec_DecFit.tab8 spec_DecFit.bits8 (fun HT_ HW_ => ?_)
                    generalize wc.drew = w69 at HO_7 BK102 BK103 HB hHeld ⊢
                    refine pure_ (i := 0) (N := some 47) (v := ?_) (a' := ?_) #[true, false, false, false, false, false, false, false, false, false] rfl rfl (any_of HT_.out (by kernel_rfl)) (fun _ _ _ h => h) (Or.inl ⟨by rfl, ?_⟩) ?_ ?_
                    rotate_left
                    · intro w'
                      go_simp
                      with_reducible rfl
                    rotate_left
                    · simp only [Act.put, List.setIfInBounds_toArray, List.set_cons_zero, List.set_cons_succ, i64_w, i32_w]
                      rfl
                    refine take_ (i := 1) (N := some 48) (v := ?_) (a' := ?_) #[true, true, false, false, false, false, false, false, false, false] rfl rfl (take_ofW HT_.out HW_.out (by kernel_rfl)) (fun _ _ _ h => h) (Or.inl ⟨by rfl, ?_⟩) hHeld ?_ ?_
                    rotate_left
                    · rintro w' ⟨s0, s1, s2⟩
                      go_simp
                      with_reducible rfl
                    rotate_left
                    · simp only [Act.put, List.setIfInBounds_toArray, List.set_cons_zero, List.set_cons_succ, i64_w, i32_w]
                      rfl
                    refine pure_ (i := 2) (N := some 49) (v := ?_) (a' := ?_) #[true, true, true, false, false, false, false, false, false, false] rfl rfl (any_of HT_.out (by kernel_rfl)) (fun _ _ _ h => h) (Or.inl ⟨by rfl, ?_⟩) ?_ ?_
                    rotate_left
                    · intro w'
                      go_simp
                      with_reducible rfl
                    rotate_left
                    · simp only [Act.put, List.setIfInBounds_toArray, List.set_cons_zero, List.set_cons_succ, i64_w, i32_w]
                      rfl
                    refine pure_ (i := 4) (N := some 51) (v := ?_) (a' := ?_) #[true, true, true, false, true, false, false, false, false, false] rfl rfl (any_of HT_.out (by kernel_rfl)) (fun _ _ _ h => h) (Or.inl ⟨by rfl, ?_⟩) ?_ ?_
                    rotate_left
                    · intro w'
                      go_simp
                      with_reducible rfl
                    rotate_left
                    · simp only [Act.put, List.setIfInBounds_toArray, List.set_cons_zero, List.set_cons_succ, i64_w, i32_w]
                      rfl
                    refine pure_ (i := 5) (N := some 52) (v := ?_) (a' := ?_) #[true, true, true, false, true, true, false, false, false, false] rfl rfl (any_of HT_.out (by kernel_rfl)) (fun _ _ _ h => h) (Or.inl ⟨by rfl, ?_⟩) ?_ ?_
                    rotate_left
                    · intro w'
                      go_simp
                      with_reducible rfl
                    rotate_left
                    · simp only [Act.put, List.setIfInBounds_toArray, List.set_cons_zero, List.set_cons_succ, i64_w, i32_w]
                      rfl
                    refine take_ (i := 3) (N := some 50) (v := ?_) (a' := ?_) #[true, true, true, true, true, true, false, false, false, false] rfl rfl (take_ofW HT_.out HW_.out (by kernel_rfl)) (fun _ _ _ h => h) (Or.inl ⟨by rfl, ?_⟩) hHeld ?_ ?_
                    rotate_left
                    · rintro w' ⟨s0, s1, s2⟩
                      go_simp
                      with_reducible rfl
                    rotate_left
                    · simp only [Act.put, List.setIfInBounds_toArray, List.set_cons_zero, List.set_cons_succ, i64_w, i32_w]
                      rfl
                    refine pure_ (i := 6) (N := some 53) (v := ?_) (a' := ?_) #[true, true, true, true, true, true, true, false, false, false] rfl rfl (any_of HT_.out (by kernel_rfl)) (fun _ _ _ h => h) (Or.inl ⟨by rfl, ?_⟩) ?_ ?_
                    rotate_left
                    · intro w'
                      go_simp
                      with_reducible rfl
                    rotate_left
                    · simp only [Act.put, List.setIfInBounds_toArray, List.set_cons_zero, List.set_cons_succ, i64_w, i32_w]
                      rfl
                    refine pure_ (i := 7) (N := some 54) (v := ?_) (a' := ?_) #[true, true, true, true, true, true, true, true, false, false] rfl rfl (any_of HT_.out (by kernel_rfl)) (fun _ _ _ h => h) (Or.inl ⟨by rfl, ?_⟩) ?_ ?_
                    rotate_left
                    · intro w'
                      go_simp
                      with_reducible rfl
                    rotate_left
                    · simp only [Act.put, List.setIfInBounds_toArray, List.set_cons_zero, List.set_cons_succ, i64_w, i32_w]
                      rfl
                    refine one_ (i := 8) (N := some 10) #[true, true, true, true, true, true, true, true, true, false] rfl rfl (one_of HT_.out (by kernel_rfl)) (by decide) (fun K hK => ?_)
                    refine box_step ?hg (N := 10) ?hd (cs := #[.string (⟨#[]⟩ : ByteArray), .int .i64 0]) (t := 23) ?hr ?_; (case hd => rfl); (case hg => rfl); (case hr => first | (go_simp; done) | (go_simp; rfl))
                    intro gb110 hg w71 hbox hb
                    have n0_ := Aside0.mk (Kd.R_below (by (with_reducible repeat (first | apply Kd.R_alloc | apply Kd.R_drewN | apply Kd.R_drew)); exact HO_7.out) hb)
                    have n1_ := Aside0.mk (blk_below (g := gb102) (o := .cells #[.string a0_0, .int .i64 a0_1] 23 (0, 0)) (by (with_reducible repeat (first | refine blk_drewN ?_ _ | refine blk_drew ?_ | refine blk_alloc ?_ _)); exact BK102.out) hb)
                    have n2_ := Aside0.mk (blk_below (g := gb103) (o := .cells #[.string (⟨#[]⟩ : ByteArray), .int .i64 0] 23 (0, 0)) (by (with_reducible repeat (first | refine blk_drewN ?_ _ | refine blk_drew ?_ | refine blk_alloc ?_ _)); exact BK103.out) hb)
                    have n3_ := Aside0.mk (below_step (by repeat (first | (with_reducible first | exact HB.out | apply below_alloc | apply pw_below_drewN | apply below_drew1 | refine below_set ?_ GE102.out | refine below_set ?_ GE103.out) | exact HB.out)) hb)
                    have n4_ := Aside0.mk (hbox)
                    have n5_ := Aside0.mk ((by rw [hg]; exact (below_size (by repeat (first | (with_reducible first | exact HB.out | apply below_alloc | apply pw_below_drewN | apply below_drew1 | refine below_set ?_ GE102.out | refine below_set ?_ GE103.out) | exact HB.out))) : w.heap.size ≤ gb110))
                    have n6_ := Aside0.mk ((by rw [hg]; exact (below_size (by repeat (first | (with_reducible first | exact HB.out | apply below_alloc | apply pw_below_drewN | apply below_drew1 | refine below_set ?_ GE102.out | refine below_set ?_ GE103.out) | exact HB.out))) : w.heap.size ≤ gb110))
                    have n7_ := Aside0.mk ((by rw [hg]; exact Nat.ne_of_lt (blk_lt (g := gb102) (o := .cells #[.string a0_0, .int .i64 a0_1] 23 (0, 0)) (by (with_reducible repeat (first | refine blk_drewN ?_ _ | refine blk_drew ?_ | refine blk_alloc ?_ _)); exact BK102.out)) : gb102 ≠ gb110))
                    have n8_ := Aside0.mk ((by rw [hg]; exact Nat.ne_of_gt (blk_lt (g := gb102) (o := .cells #[.string a0_0, .int .i64 a0_1] 23 (0, 0)) (by (with_reducible repeat (first | refine blk_drewN ?_ _ | refine blk_drew ?_ | refine blk_alloc ?_ _)); exact BK102.out)) : gb110 ≠ gb102))
                    have n9_ := Aside0.mk ((by rw [hg]; exact Nat.ne_of_lt (blk_lt (g := gb103) (o := .cells #[.string (⟨#[]⟩ : ByteArray), .int .i64 0] 23 (0, 0)) (by (with_reducible repeat (first | refine blk_drewN ?_ _ | refine blk_drew ?_ | refine blk_alloc ?_ _)); exact BK103.out)) : gb103 ≠ gb110))
                    have n10_ := Aside0.mk ((by rw [hg]; exact Nat.ne_of_gt (blk_lt (g := gb103) (o := .cells #[.string (⟨#[]⟩ : ByteArray), .int .i64 0] 23 (0, 0)) (by (with_reducible repeat (first | refine blk_drewN ?_ _ | refine blk_drew ?_ | refine blk_alloc ?_ _)); exact BK103.out)) : gb110 ≠ gb103))
                    clear HO_7
                    clear BK102
                    clear BK103
                    clear HB
                    have HO_7 := n0_
                    have BK102 := n1_
                    have BK103 := n2_
                    have HB := n3_
                    have BK110 := n4_
                    have GW110 := n5_
                    have GE110 := n6_
                    have NB102_110 := n7_
                    have NB110_102 := n8_
                    have NB103_110 := n9_
                    have NB110_103 := n10_
                    clear n0_ n1_ n2_ n3_ n4_ n5_ n6_ n7_ n8_ n9_ n10_
                    clear hb hbox hg
                    refine hK.out _ _ ⟨(blk_cell BK102.out 0).trans rfl, (blk_cell BK102.out 1).trans rfl, own_string (P := Tryz.prog) Tryz.underlying54 Tryz.underlying5 Tryz.underlying9 (Kd.own_of_R HO_7.out)⟩ (fun hHeld => ?_)
                    clear hK K
                    refine norm_ (a' := ?_) ?_ ?_
                    rotate_left
                    · show Act.put _ (some 10) _ = _
                      simp only [Act.put, List.setIfInBounds_toArray, List.set_cons_zero, List.set_cons_succ, i64_w, i32_w]
                      rfl
                    refine last_ (i := 9) (N := none) #[true, true, true, true, true, true, true, true, true, true] rfl rfl (one_of HT_.out (by kernel_rfl)) (by decide) (fun K hK => ?_)
                    have hs73 : w71.cell? ⟨gb110, 0, none⟩ = some (.string (⟨#[]⟩ : ByteArray)) := (blk_cell BK110.out 0).trans rfl
                    have hfs73 := blk_frozen BK110.out 0
                    have hns73_0 := NB102_110.out
                    have hns73_1 := NB103_110.out
                    have hms73_0 := NB110_102.out
                    have hms73_1 := NB110_103.out
                    have hs74 : w71.cell? ⟨gb110, 1, none⟩ = some (.int .i64 0) := (blk_cell BK110.out 1).trans rfl
                    have hfs74 := blk_frozen BK110.out 1
                    have hns74_0 := NB102_110.out
                    have hns74_1 := NB103_110.out
                    have hms74_0 := NB110_102.out
                    have hms74_1 := NB110_103.out
                    refine skip_ (w1 := ?_) (by rfl) rfl ?_ ?_
                    rotate_left
                    · go_simp
                      rfl
                    refine hK.out _ _ ?_
                    clear hK K
                    refine done_ (done_of HT_.out (by kernel_rfl)) ?_
                    obtain ⟨Ao75, co75, eo75⟩ := Kd.R_slice HO_7.out
                    subst eo75
                    have hnb76 := NB102_103.out
                    have hnc76 := NB103_102.out
                    have hnb77 := NB102_110.out
                    have hnc77 := NB110_102.out
                    have hcz78_0 : w71.cell? ⟨gb102, 0, none⟩ = some (.string a0_0) := (blk_cell BK102.out 0).trans rfl
                    have hcz78_1 : w71.cell? ⟨gb102, 1, none⟩ = some (.int .i64 a0_1) := (blk_cell BK102.out 1).trans rfl
                    have hfz78_0 := blk_frozen BK102.out 0
                    have hfz78_1 := blk_frozen BK102.out 1
                    have p53 : 0 ≤ (0 : Int) := (by omega)
                    have q53 : 0 < a0_0.size := (by have : (0 : Int) < (a0_0.size : Int) := of_decide_eq_true (by first | (with_reducible assumption) | assumption); omega)
                    have hx53 : ∀ h : 0 < a0_0.size, ((a0_0[0]'h).toNat : Int) = bt a0_0 0 := bt_at a0_0 0
                    clear p53
                    have qi53 : (0 < (a0_0.size : Int)) = True := eq_true (of_decide_eq_true (by first | (with_reducible assumption) | assumption))
                    replace q53 := eq_true q53
                    have hnb79 := NB110_103.out
                    have hnc79 := NB103_110.out
                    have hcz80_0 : w71.cell? ⟨gb110, 0, none⟩ = some (.string (⟨#[]⟩ : ByteArray)) := (blk_cell BK110.out 0).trans rfl
                    have hcz80_1 : w71.cell? ⟨gb110, 1, none⟩ = some (.int .i64 0) := (blk_cell BK110.out 1).trans rfl
                    have hfz80_0 := blk_frozen BK110.out 0
                    have hfz80_1 := blk_frozen BK110.out 1
                    have hcz81_0 : w71.cell? ⟨gb103, 0, none⟩ = some (.string (⟨#[]⟩ : ByteArray)) := (blk_cell BK103.out 0).trans rfl
                    have hcz81_1 : w71.cell? ⟨gb103, 1, none⟩ = some (.int .i64 0) := (blk_cell BK103.out 1).trans rfl
                    have hfz81_0 := blk_frozen BK103.out 0
                    have hfz81_1 := blk_frozen BK103.out 1
                    try go_wp2
                    refine bodyPost_ret (results_cell_row rfl _ _ gb103 23 #[.string (strOfNums x7_1), .int .i64 (Int.tmod a0_1 (wrap64 (a2 + 1)))] (0, 0) _ rfl (by (with_reducible repeat (first | refine blk_drewN ?_ _ | refine blk_drew ?_ | refine blk_alloc ?_ _)); refine blk_put (cs := #[.string (strOfNums x7_1), .int .i64 0]) ?_ 1 _ rfl; (with_reducible repeat (first | refine blk_drewN ?_ _ | refine blk_drew ?_ | refine blk_alloc ?_ _)); refine blk_put (cs := #[.string (⟨#[]⟩ : ByteArray), .int .i64 0]) ?_ 0 _ rfl; (with_reducible repeat (first | refine blk_drewN ?_ _ | refine blk_drew ?_ | refine blk_alloc ?_ _)); refine blk_far ?_ NB103_110.out _; (with_reducible repeat (first | refine blk_drewN ?_ _ | refine blk_drew ?_ | refine blk_alloc ?_ _)); refine blk_far ?_ NB103_110.out _; (with_reducible repeat (first | refine blk_drewN ?_ _ | refine blk_drew ?_ | refine blk_alloc ?_ _)); exact BK103.out) Tryz.underlying23 rfl (by kernel_rfl)) rfl ?_
                    exact ⟨by first | rfl | (simp [errW_none, errW_some] <;> rfl) | (simp [*, errW_none, errW_some] <;> rfl), by repeat (first | (with_reducible first | exact HB.out | apply below_alloc | apply pw_below_drewN | apply below_drew1 | refine below_set ?_ GE102.out | refine below_set ?_ GE103.out | refine below_set ?_ GE110.out) | exact HB.out)⟩
                · rw [if_neg c52] at H
                  exact absurd H (by simp)


end Go.Proofs.YtghabdpbacgicaaGreatDoor.S
