/- CONTRACTS of spec_ParseWhole: each as the plain function beside it. (Began as print.sh's text for this seat; the turns are those of wip/tools/split.py.) -/
import Derived.Test.YtghabdpbacgicaaGreatDoorSNOf
import Derived.Test.YtghabdpbacgicaaGreatDoorSWOf
namespace Go.Proofs.YtghabdpbacgicaaGreatDoor.S
open Go.RowKit Go.Proofs.YtghabdpbacgicaaGreatDoorW.PrintWords Go.Proofs.YtghabdpbacgicaaGreatDoorW.PrintLast Go.Proofs.YtghabdpbacgicaaGreatDoorW.PrintMore
attribute [local go_sem] max2_int min2_int max_two min_two max_three min_three max_four min_four   -- for this text's walks alone
set_option linter.unusedVariables false
set_option linter.unusedSimpArgs false

/-! ### spec_ParseWhole: function 29 -/
mutual
def spec_ParseWhole.j0 : Nat → ByteArray → Bool → Option (Bool × List Int × Bool)
  | 0, _, _ => none
  | k + 1, x0, x4 => if x0.toList = ([] : List UInt8) then (spec_ParseWhole.j1 k x0 x4 false) else (if 0 < (x0.size : Int) then (if (bt x0 0) = 45 then (spec_ParseWhole.j1 k x0 x4 true) else (spec_ParseWhole.j1 k x0 x4 ((bt x0 0) == 43))) else (none))
def spec_ParseWhole.j1 : Nat → ByteArray → Bool → Bool → Option (Bool × List Int × Bool)
  | 0, _, _, _ => none
  | k + 1, x0, x4, x25 => if x25 = true then (if 1 ≤ (x0.size : Int) then ((spec_NatOf.f k (x0.extract 1 x0.size)).bind fun bt125 => ((spec_wholeOf.f x4 bt125.1).bind fun bt129 => (some (bt129.1, bt129.2, bt125.2)))) else (none)) else ((spec_NatOf.f k x0).bind fun bt133 => ((spec_wholeOf.f x4 bt133.1).bind fun bt137 => (some (bt137.1, bt137.2, bt133.2))))
end
def spec_ParseWhole.f (k : Nat) (a0 : ByteArray) : Option (Bool × List Int × Bool) := if a0.toList = ([] : List UInt8) then (spec_ParseWhole.j0 k a0 false) else (if 0 < (a0.size : Int) then (spec_ParseWhole.j0 k a0 ((bt a0 0) == 45)) else (none))
theorem spec_ParseWhole.mono_l : ∀ k, (∀ y0 y1, LeO (spec_ParseWhole.j0 k y0 y1) (spec_ParseWhole.j0 (k + 1) y0 y1)) ∧ (∀ y0 y1 y2, LeO (spec_ParseWhole.j1 k y0 y1 y2) (spec_ParseWhole.j1 (k + 1) y0 y1 y2))
  | 0 => ⟨fun _ _ r h => by simp [spec_ParseWhole.j0] at h, fun _ _ _ r h => by simp [spec_ParseWhole.j1] at h⟩
  | k + 1 => by
    obtain ⟨ih0, ih1⟩ := spec_ParseWhole.mono_l k
    refine ⟨?_, ?_⟩
    · intro y0 y1
      unfold spec_ParseWhole.j0
      repeat' first
      | (with_reducible exact ih0 _ _)
      | (with_reducible exact ih1 _ _ _)
      | (with_reducible exact spec_NatOf.mono _ _)
      | (with_reducible exact LeO.refl _)
      | (with_reducible exact LeO.none _)
      | (with_reducible refine LeO.ite ?_ ?_)
      | (with_reducible refine LeO.bind ?_ (fun _ => ?_))
      | exact ih0 _ _
      | exact ih1 _ _ _
      | exact spec_NatOf.mono _ _
      | exact LeO.none _
      | refine LeO.ite ?_ ?_
      | refine LeO.bind ?_ (fun _ => ?_)
    · intro y0 y1 y2
      unfold spec_ParseWhole.j1
      repeat' first
      | (with_reducible exact ih0 _ _)
      | (with_reducible exact ih1 _ _ _)
      | (with_reducible exact spec_NatOf.mono _ _)
      | (with_reducible exact LeO.refl _)
      | (with_reducible exact LeO.none _)
      | (with_reducible refine LeO.ite ?_ ?_)
      | (with_reducible refine LeO.bind ?_ (fun _ => ?_))
      | exact ih0 _ _
      | exact ih1 _ _ _
      | exact spec_NatOf.mono _ _
      | exact LeO.none _
      | refine LeO.ite ?_ ?_
      | refine LeO.bind ?_ (fun _ => ?_)
theorem spec_ParseWhole.mono : ∀ a0 k, LeO (spec_ParseWhole.f k a0) (spec_ParseWhole.f (k + 1) a0) := by
  intro a0 k
  obtain ⟨ih0, ih1⟩ := spec_ParseWhole.mono_l k
  unfold spec_ParseWhole.f
  repeat' first
      | (with_reducible exact ih0 _ _)
      | (with_reducible exact ih1 _ _ _)
      | (with_reducible exact spec_NatOf.mono _ _)
      | (with_reducible exact LeO.refl _)
      | (with_reducible exact LeO.none _)
      | (with_reducible refine LeO.ite ?_ ?_)
      | (with_reducible refine LeO.bind ?_ (fun _ => ?_))
      | exact ih0 _ _
      | exact ih1 _ _ _
      | exact spec_NatOf.mono _ _
      | exact LeO.none _
      | refine LeO.ite ?_ ?_
      | refine LeO.bind ?_ (fun _ => ?_)
set_option maxHeartbeats 8000000 in
set_option maxRecDepth 100000 in
theorem spec_ParseWhole.calls (k : Nat) (a0 : ByteArray) (r1 : Bool) (r2 : List Int) (r3 : Bool) (w : World) (h : spec_ParseWhole.f k a0 = some (r1, r2, r3)) :
    Calls Tryz.prog 29 #[.string a0] w fun e w' => ∃ v1_ : Value, e = .returned (.tuple #[.agg #[.bool r1, v1_], .bool r3]) ∧ Kd.V (Kd.int .u32) 76 w' w.heap.size (fun k_ => (w.heap.size ≤ k_)) v1_ r2 ∧ Below w.heap.size w w' := by
  have hu28 := Tryz.underlying28
  have HB := Aside0.mk (Below.refl w.heap.size w)
  have H : (if a0.toList = ([] : List UInt8) then (spec_ParseWhole.j0 k a0 false) else (if 0 < (a0.size : Int) then (spec_ParseWhole.j0 k a0 ((bt a0 0) == 45)) else (none))) = some (r1, r2, r3) := h
  clear h
  have HC2 := Aside0.mk H
  clear H
  go_enter Tryz.func29, Tryz.ntmps29
  go_upto_region 1 with (first | ((with_reducible refine gate_dst (N := 2) rfl ?_); refine box_event ?hg (N := 2) ?hd (cs := #[.bool false, .slice none 0 0]) (t := 28) ?hr ?_; (case hd => rfl); (case hg => rfl); (case hr => first | (go_simp; done) | (go_simp; rfl)); intro gb124 hg w3 hbox hb; have n0_ := Aside0.mk (below_step (by repeat (first | (with_reducible first | exact HB.out | apply below_alloc | apply pw_below_drewN | apply below_drew1) | exact HB.out)) hb); have n1_ := Aside0.mk (hbox); have n2_ := Aside0.mk ((by rw [hg]; exact (below_size (by repeat (first | (with_reducible first | exact HB.out | apply below_alloc | apply pw_below_drewN | apply below_drew1) | exact HB.out))) : w.heap.size ≤ gb124)); have n3_ := Aside0.mk ((by rw [hg]; exact (below_size (by repeat (first | (with_reducible first | exact HB.out | apply below_alloc | apply pw_below_drewN | apply below_drew1) | exact HB.out))) : w.heap.size ≤ gb124)); clear HB; have HB := n0_; have BK124 := n1_; have GW124 := n2_; have GE124 := n3_; clear n0_ n1_ n2_ n3_; clear hb hbox hg))
  (try simp only [Act.put, List.setIfInBounds_toArray, List.set_cons_zero, List.set_cons_succ])
  go_cut [4] (fun v4 wc => ∃ (kq : Nat) (x4_1 : Bool), v4 = .bool x4_1 ∧ Aside0 (spec_ParseWhole.j0 kq a0 x4_1 = some (r1, r2, r3)) ∧ Aside0 (kq ≤ k) ∧ Aside0 (wc.heap[gb124]? = some (.cells #[.bool false, (.slice none 0 0)] 28 (0, 0))) ∧ Aside0 (Below w.heap.size w wc))
  case first =>
    have H := HC2.out
    clear HC2
    by_cases c4 : a0.toList = ([] : List UInt8)
    · rw [if_pos c4] at H
      have c4b0 : (a0.toList == ([] : List UInt8)) = true := beq_iff_eq.mpr c4
      have c4b1 : (a0.toList != ([] : List UInt8)) = false := bne_eq_false_iff_eq.mpr c4
      clear c4
      (first | rw [c4b0] | (simp only [i64_w, i32_w]; rw [c4b0]) | skip)
      have H' := Aside0.mk H
      clear H
      go_wp2
      go_meet
      case rel => exact ⟨_, (false), (by first | rfl | (simp; done) | (simp [*]; done)), H', ⟨by first | omega | exact Nat.le_refl _⟩, ⟨by (with_reducible repeat (first | refine blk_drewN ?_ _ | refine blk_drew ?_ | refine blk_alloc ?_ _)); exact BK124.out⟩, ⟨by repeat (first | (with_reducible first | exact HB.out | apply below_alloc | apply pw_below_drewN | apply below_drew1 | refine below_set ?_ GE124.out) | exact HB.out)⟩⟩
    · rw [if_neg c4] at H
      have c4b0 : (a0.toList == ([] : List UInt8)) = false := beq_eq_false_iff_ne.mpr c4
      have c4b1 : (a0.toList != ([] : List UInt8)) = true := bne_iff_ne.mpr c4
      (first | rw [c4b0] | (simp only [i64_w, i32_w]; rw [c4b0]) | skip)
      by_cases c5 : 0 < (a0.size : Int)
      · rw [if_pos c5] at H
        have c5b0 : decide (0 < (a0.size : Int)) = true := decide_eq_true c5
        have c5b1 : decide (0 < a0.size) = true := decide_eq_true (by omega)
        clear c5
        have H' := Aside0.mk H
        clear H
        have p6 : 0 ≤ (0 : Int) := (by omega)
        have q6 : 0 < a0.size := (by have : (0 : Int) < (a0.size : Int) := of_decide_eq_true (by first | (with_reducible assumption) | assumption); omega)
        have hx6 : ∀ h : 0 < a0.size, ((a0[0]'h).toNat : Int) = bt a0 0 := bt_at a0 0
        clear p6
        have qi6 : (0 < (a0.size : Int)) = True := eq_true (of_decide_eq_true (by first | (with_reducible assumption) | assumption))
        replace q6 := eq_true q6
        go_wp2
        go_meet
        case rel => exact ⟨_, (((bt a0 0) == 45)), (by first | rfl | (simp; done) | (simp [*]; done)), H', ⟨by first | omega | exact Nat.le_refl _⟩, ⟨by (with_reducible repeat (first | refine blk_drewN ?_ _ | refine blk_drew ?_ | refine blk_alloc ?_ _)); exact BK124.out⟩, ⟨by repeat (first | (with_reducible first | exact HB.out | apply below_alloc | apply pw_below_drewN | apply below_drew1 | refine below_set ?_ GE124.out) | exact HB.out)⟩⟩
      · rw [if_neg c5] at H
        exact absurd H (by simp)
  case rest =>
    clear HC2
    try clear c2
    try clear p2
    try clear c4
    try clear c4b0
    try clear c4b1
    try clear c5
    try clear c5b0
    try clear c5b1
    try clear p6
    try clear q6
    try clear hx6
    try clear qi6
    try clear p6
    try clear q6
    obtain ⟨kq, x4_1, rfl, HA, HJ1, BK124, HB⟩ := hcut
    cases kq with
    | zero => exact absurd HA.out (by simp [spec_ParseWhole.j0])
    | succ kj1 =>
      have H := HA.out
      clear HA
      simp only [spec_ParseWhole.j0] at H
      have HC7 := Aside0.mk H
      clear H
      go_upto_region 2 with (fail)
      go_cut [25] (fun v25 wc => ∃ (kq : Nat) (x25_6 : Bool), v25 = .bool x25_6 ∧ Aside0 (spec_ParseWhole.j1 kq a0 x4_1 x25_6 = some (r1, r2, r3)) ∧ Aside0 (kq ≤ kj1) ∧ Aside0 (wc.heap[gb124]? = some (.cells #[.bool false, (.slice none 0 0)] 28 (0, 0))) ∧ Aside0 (Below w.heap.size w wc))
      case first =>
        have H := HC7.out
        clear HC7
        by_cases c8 : a0.toList = ([] : List UInt8)
        · rw [if_pos c8] at H
          have c8b0 : (a0.toList == ([] : List UInt8)) = true := beq_iff_eq.mpr c8
          have c8b1 : (a0.toList != ([] : List UInt8)) = false := bne_eq_false_iff_eq.mpr c8
          clear c8
          (first | rw [c8b0] | (simp only [i64_w, i32_w]; rw [c8b0]) | skip)
          have H' := Aside0.mk H
          clear H
          go_wp2
          go_meet
          case rel => exact ⟨_, (false), (by first | rfl | (simp; done) | (simp [*]; done)), H', ⟨by have := HJ1.out; first | omega | exact Nat.le_refl _⟩, ⟨by (with_reducible repeat (first | refine blk_drewN ?_ _ | refine blk_drew ?_ | refine blk_alloc ?_ _)); exact BK124.out⟩, ⟨by repeat (first | (with_reducible first | exact HB.out | apply below_alloc | apply pw_below_drewN | apply below_drew1 | refine below_set ?_ GE124.out) | exact HB.out)⟩⟩
        · rw [if_neg c8] at H
          have c8b0 : (a0.toList == ([] : List UInt8)) = false := beq_eq_false_iff_ne.mpr c8
          have c8b1 : (a0.toList != ([] : List UInt8)) = true := bne_iff_ne.mpr c8
          (first | rw [c8b0] | (simp only [i64_w, i32_w]; rw [c8b0]) | skip)
          by_cases c9 : 0 < (a0.size : Int)
          · rw [if_pos c9] at H
            have c9b0 : decide (0 < (a0.size : Int)) = true := decide_eq_true c9
            have c9b1 : decide (0 < a0.size) = true := decide_eq_true (by omega)
            clear c9
            by_cases c11 : (bt a0 0) = 45
            · rw [if_pos c11] at H
              have c11b0 : ((bt a0 0) == 45) = true := beq_iff_eq.mpr c11
              have c11b1 : ((bt a0 0) != 45) = false := bne_eq_false_iff_eq.mpr c11
              clear c11
              have H' := Aside0.mk H
              clear H
              have p10 : 0 ≤ (0 : Int) := (by omega)
              have q10 : 0 < a0.size := (by have : (0 : Int) < (a0.size : Int) := of_decide_eq_true (by first | (with_reducible assumption) | assumption); omega)
              have hx10 : ∀ h : 0 < a0.size, ((a0[0]'h).toNat : Int) = bt a0 0 := bt_at a0 0
              clear p10
              have qi10 : (0 < (a0.size : Int)) = True := eq_true (of_decide_eq_true (by first | (with_reducible assumption) | assumption))
              replace q10 := eq_true q10
              go_wp2
              go_meet
              case rel => exact ⟨_, (true), (by first | rfl | (simp; done) | (simp [*]; done)), H', ⟨by have := HJ1.out; first | omega | exact Nat.le_refl _⟩, ⟨by (with_reducible repeat (first | refine blk_drewN ?_ _ | refine blk_drew ?_ | refine blk_alloc ?_ _)); exact BK124.out⟩, ⟨by repeat (first | (with_reducible first | exact HB.out | apply below_alloc | apply pw_below_drewN | apply below_drew1 | refine below_set ?_ GE124.out) | exact HB.out)⟩⟩
            · rw [if_neg c11] at H
              have c11b0 : ((bt a0 0) == 45) = false := beq_eq_false_iff_ne.mpr c11
              have c11b1 : ((bt a0 0) != 45) = true := bne_iff_ne.mpr c11
              have H' := Aside0.mk H
              clear H
              have p10 : 0 ≤ (0 : Int) := (by omega)
              have q10 : 0 < a0.size := (by have : (0 : Int) < (a0.size : Int) := of_decide_eq_true (by first | (with_reducible assumption) | assumption); omega)
              have hx10 : ∀ h : 0 < a0.size, ((a0[0]'h).toNat : Int) = bt a0 0 := bt_at a0 0
              clear p10
              have qi10 : (0 < (a0.size : Int)) = True := eq_true (of_decide_eq_true (by first | (with_reducible assumption) | assumption))
              replace q10 := eq_true q10
              have p12 : 0 ≤ (0 : Int) := (by omega)
              have q12 : 0 < a0.size := (by have : (0 : Int) < (a0.size : Int) := of_decide_eq_true (by first | (with_reducible assumption) | assumption); omega)
              have hx12 : ∀ h : 0 < a0.size, ((a0[0]'h).toNat : Int) = bt a0 0 := bt_at a0 0
              clear p12
              have qi12 : (0 < (a0.size : Int)) = True := eq_true (of_decide_eq_true (by first | (with_reducible assumption) | assumption))
              replace q12 := eq_true q12
              go_wp2
              go_meet
              case rel => exact ⟨_, (((bt a0 0) == 43)), (by first | rfl | (simp; done) | (simp [*]; done)), H', ⟨by have := HJ1.out; first | omega | exact Nat.le_refl _⟩, ⟨by (with_reducible repeat (first | refine blk_drewN ?_ _ | refine blk_drew ?_ | refine blk_alloc ?_ _)); exact BK124.out⟩, ⟨by repeat (first | (with_reducible first | exact HB.out | apply below_alloc | apply pw_below_drewN | apply below_drew1 | refine below_set ?_ GE124.out) | exact HB.out)⟩⟩
          · rw [if_neg c9] at H
            exact absurd H (by simp)
      case rest =>
        clear HC7
        try clear c1
        try clear p1
        try clear q1
        try clear hx1
        try clear qi1
        try clear c2
        try clear p2
        try clear c4
        try clear c4b0
        try clear c4b1
        try clear c5
        try clear c5b0
        try clear c5b1
        try clear p6
        try clear q6
        try clear hx6
        try clear qi6
        try clear c8
        try clear c8b0
        try clear c8b1
        try clear c9
        try clear c9b0
        try clear c9b1
        try clear p10
        try clear q10
        try clear hx10
        try clear qi10
        try clear c11
        try clear c11b0
        try clear c11b1
        try clear p12
        try clear q12
        try clear hx12
        try clear qi12
        try clear p10
        try clear p12
        try clear p2
        try clear p6
        try clear q10
        try clear q12
        try clear q6
        obtain ⟨kq, x25_6, rfl, HA, HJ6, BK124, HB⟩ := hcut
        cases kq with
        | zero => exact absurd HA.out (by simp [spec_ParseWhole.j1])
        | succ kj6 =>
          have H := HA.out
          clear HA
          simp only [spec_ParseWhole.j1] at H
          by_cases c13 : x25_6 = true
          · subst c13
            have H1 : (if 1 ≤ (a0.size : Int) then ((spec_NatOf.f kj6 (a0.extract 1 a0.size)).bind fun bt125 => ((spec_wholeOf.f x4_1 bt125.1).bind fun bt129 => (some (bt129.1, bt129.2, bt125.2)))) else (none)) = some (r1, r2, r3) := by rw [if_pos rfl] at H; exact H
            clear H
            have H := H1
            clear H1
            by_cases c14 : 1 ≤ (a0.size : Int)
            · rw [if_pos c14] at H
              have c14b0 := eq_true c14
              have c14b1 : decide (1 ≤ (a0.size : Int)) = true := decide_eq_true c14
              clear c14
              replace H := Option.bind_eq_some_iff.mp H
              obtain ⟨⟨t125, t128⟩, A150, H⟩ := H
              replace H : ((spec_wholeOf.f x4_1 t125).bind fun bt129 => (some (bt129.1, bt129.2, t128))) = some (r1, r2, r3) := H
              have A15 := Aside0.mk A150
              clear A150
              replace H := Option.bind_eq_some_iff.mp H
              obtain ⟨⟨t129, t130⟩, A160, H⟩ := H
              replace H : (some (t129, t130, t128)) = some (r1, r2, r3) := H
              have A16 := Aside0.mk A160
              clear A160
              simp only [Option.some.injEq, Prod.mk.injEq] at H
              obtain ⟨rfl, rfl, rfl⟩ := H
              go_wp2_with (first | ((with_reducible refine gate_callee (f := 43) rfl ?_); refine goesL_ (some 30) rfl rfl Tryz.func43 (by kernel_rfl) rfl #[.string (a0.extract 1 a0.size)] rfl (by (try simp only [List.map_toArray, List.map_cons, List.map_nil]); first | done | rfl | (simp only [List.length_drop, List.length_take]; rfl)) ?_; (with_reducible refine (spec_NatOf.calls kj6 (a0.extract 1 a0.size) t125 t128 _ A15.out).mono ?_); rintro e w17 ⟨v126, rfl, ho0, hb⟩; refine ⟨_, rfl, ?_⟩; have n0_ := Aside0.mk (Kd.V_lower (Kd.V_mono (ok' := fun k_ => (w.heap.size ≤ k_) ∧ k_ ≠ gb124) ho0 (fun k_ hk_ => ⟨(Nat.le_trans (below_size (by repeat (first | (with_reducible first | exact HB.out | apply below_alloc | apply pw_below_drewN | apply below_drew1 | refine below_set ?_ GE124.out) | exact HB.out))) hk_), (Kd.freshB (g := gb124) (o := .cells #[.bool false, .slice none 0 0] 28 (0, 0)) (by (with_reducible repeat (first | refine blk_drewN ?_ _ | refine blk_drew ?_ | refine blk_alloc ?_ _)); exact BK124.out) k_ hk_)⟩)) (below_size (by repeat (first | (with_reducible first | exact HB.out | apply below_alloc | apply pw_below_drewN | apply below_drew1 | refine below_set ?_ GE124.out) | exact HB.out)))); have n1_ := Aside0.mk (blk_below (g := gb124) (o := .cells #[.bool false, .slice none 0 0] 28 (0, 0)) (by (with_reducible repeat (first | refine blk_drewN ?_ _ | refine blk_drew ?_ | refine blk_alloc ?_ _)); exact BK124.out) hb); have n2_ := Aside0.mk (below_step (by repeat (first | (with_reducible first | exact HB.out | apply below_alloc | apply pw_below_drewN | apply below_drew1 | refine below_set ?_ GE124.out) | exact HB.out)) hb); clear BK124; clear HB; have HO127 := n0_; have BK124 := n1_; have HB := n2_; clear n0_ n1_ n2_; (try clear hb); (try clear hb2); (try clear hk); (try clear hi); (try clear ho0); obtain ⟨Ao18, co18, eo18⟩ := Kd.V_slice HO127.out; subst eo18) | ((with_reducible refine gate_callee (f := 32) rfl ?_); refine goesL_ (some 35) rfl rfl Tryz.func32 (by kernel_rfl) rfl #[.bool x4_1, .slice Ao18 t125.length co18] rfl (by (try simp only [List.map_toArray, List.map_cons, List.map_nil]); first | done | rfl | (simp only [List.length_drop, List.length_take]; rfl)) ?_; (with_reducible refine (spec_wholeOf.calls x4_1 (fun k_ => ((w.heap.size ≤ k_) ∧ k_ ≠ gb124)) _ _ t125 t129 t130 _ ?side1 A16.out).mono ?_); (case side1 => exact HO127.out); rintro e w19 ⟨v131, rfl, ho0, hb⟩; refine ⟨_, rfl, ?_⟩; have n0_ := Aside0.mk (Kd.V_below (by (with_reducible repeat (first | apply Kd.V_alloc | apply Kd.V_drewN | apply Kd.V_drew)); exact HO127.out) hb); have n1_ := Aside0.mk (Kd.V_lower (Kd.V_mono (ok' := fun k_ => (w.heap.size ≤ k_) ∧ k_ ≠ gb124) ho0 (fun k_ hk_ => ⟨Or.elim hk_ (fun hs_ => hs_.1) (fun hn_ => (Nat.le_trans (below_size (by repeat (first | (with_reducible first | exact HB.out | apply below_alloc | apply pw_below_drewN | apply below_drew1 | refine below_set ?_ GE124.out) | exact HB.out))) hn_)), Or.elim hk_ (fun hs_ => hs_.2) (fun hn_ => (Kd.freshB (g := gb124) (o := .cells #[.bool false, .slice none 0 0] 28 (0, 0)) (by (with_reducible repeat (first | refine blk_drewN ?_ _ | refine blk_drew ?_ | refine blk_alloc ?_ _)); exact BK124.out) k_ hn_))⟩)) (below_size (by repeat (first | (with_reducible first | exact HB.out | apply below_alloc | apply pw_below_drewN | apply below_drew1 | refine below_set ?_ GE124.out) | exact HB.out)))); have n2_ := Aside0.mk (blk_below (g := gb124) (o := .cells #[.bool false, .slice none 0 0] 28 (0, 0)) (by (with_reducible repeat (first | refine blk_drewN ?_ _ | refine blk_drew ?_ | refine blk_alloc ?_ _)); exact BK124.out) hb); have n3_ := Aside0.mk (below_step (by repeat (first | (with_reducible first | exact HB.out | apply below_alloc | apply pw_below_drewN | apply below_drew1 | refine below_set ?_ GE124.out) | exact HB.out)) hb); clear HO127; clear BK124; clear HB; have HO127 := n0_; have HO132 := n1_; have BK124 := n2_; have HB := n3_; clear n0_ n1_ n2_ n3_; (try clear hb); (try clear hb2); (try clear hk); (try clear hi); (try clear ho0); have hcz20_0 : w19.cell? ⟨gb124, 0, none⟩ = some (.bool false) := (blk_cell BK124.out 0).trans rfl; have hcz20_1 : w19.cell? ⟨gb124, 1, none⟩ = some (.slice none 0 0) := (blk_cell BK124.out 1).trans rfl; have hfz20_0 := blk_frozen BK124.out 0; have hfz20_1 := blk_frozen BK124.out 1; obtain ⟨Ao21, co21, eo21⟩ := Kd.V_slice HO132.out; subst eo21))
              refine bodyPost_ret (results_ct rfl _ _ gb124 28 #[.bool t129, .slice Ao21 t130.length co21] (0, 0) _ rfl (by (with_reducible repeat (first | refine blk_drewN ?_ _ | refine blk_drew ?_ | refine blk_alloc ?_ _)); refine blk_put (cs := #[.bool t129, .slice none 0 0]) ?_ 1 _ rfl; (with_reducible repeat (first | refine blk_drewN ?_ _ | refine blk_drew ?_ | refine blk_alloc ?_ _)); refine blk_put (cs := #[.bool false, .slice none 0 0]) ?_ 0 _ rfl; (with_reducible repeat (first | refine blk_drewN ?_ _ | refine blk_drew ?_ | refine blk_alloc ?_ _)); exact BK124.out) Tryz.underlying28 rfl (by kernel_rfl)) rfl ?_
              exact ⟨_, by first | rfl | (simp [errW_none, errW_some] <;> rfl) | (simp [*, errW_none, errW_some] <;> rfl), by (with_reducible repeat (first | apply Kd.V_alloc | apply Kd.V_drewN | apply Kd.V_drew)); exact Kd.V_mono (Kd.V_far (p := ⟨gb124, 1, none⟩) (Kd.V_far (p := ⟨gb124, 0, none⟩) (Kd.V_mono HO132.out (fun k_ hk => (⟨hk, hk.2⟩ : _ ∧ k_ ≠ gb124))) (fun _ hk => hk.2) (.bool t129)) (fun _ hk => hk.2) (.slice Ao21 t130.length co21)) (fun _ hk => hk.1.1), by repeat (first | (with_reducible first | exact HB.out | apply below_alloc | apply pw_below_drewN | apply below_drew1 | refine below_set ?_ GE124.out) | exact HB.out)⟩
            · rw [if_neg c14] at H
              exact absurd H (by simp)
          · replace c13 := Bool.eq_false_iff.mpr c13
            subst c13
            have H1 : ((spec_NatOf.f kj6 a0).bind fun bt133 => ((spec_wholeOf.f x4_1 bt133.1).bind fun bt137 => (some (bt137.1, bt137.2, bt133.2)))) = some (r1, r2, r3) := by rw [if_neg (show ¬ (false = true) by decide)] at H; exact H
            clear H
            have H := H1
            clear H1
            replace H := Option.bind_eq_some_iff.mp H
            obtain ⟨⟨t133, t136⟩, A220, H⟩ := H
            replace H : ((spec_wholeOf.f x4_1 t133).bind fun bt137 => (some (bt137.1, bt137.2, t136))) = some (r1, r2, r3) := H
            have A22 := Aside0.mk A220
            clear A220
            replace H := Option.bind_eq_some_iff.mp H
            obtain ⟨⟨t137, t138⟩, A230, H⟩ := H
            replace H : (some (t137, t138, t136)) = some (r1, r2, r3) := H
            have A23 := Aside0.mk A230
            clear A230
            simp only [Option.some.injEq, Prod.mk.injEq] at H
            obtain ⟨rfl, rfl, rfl⟩ := H
            go_wp2_with (first | ((with_reducible refine gate_callee (f := 43) rfl ?_); refine goesL_ (some 30) rfl rfl Tryz.func43 (by kernel_rfl) rfl #[.string a0] rfl (by (try simp only [List.map_toArray, List.map_cons, List.map_nil]); first | done | rfl | (simp only [List.length_drop, List.length_take]; rfl)) ?_; (with_reducible refine (spec_NatOf.calls kj6 a0 t133 t136 _ A22.out).mono ?_); rintro e w24 ⟨v134, rfl, ho0, hb⟩; refine ⟨_, rfl, ?_⟩; have n0_ := Aside0.mk (Kd.V_lower (Kd.V_mono (ok' := fun k_ => (w.heap.size ≤ k_) ∧ k_ ≠ gb124) ho0 (fun k_ hk_ => ⟨(Nat.le_trans (below_size (by repeat (first | (with_reducible first | exact HB.out | apply below_alloc | apply pw_below_drewN | apply below_drew1 | refine below_set ?_ GE124.out) | exact HB.out))) hk_), (Kd.freshB (g := gb124) (o := .cells #[.bool false, .slice none 0 0] 28 (0, 0)) (by (with_reducible repeat (first | refine blk_drewN ?_ _ | refine blk_drew ?_ | refine blk_alloc ?_ _)); exact BK124.out) k_ hk_)⟩)) (below_size (by repeat (first | (with_reducible first | exact HB.out | apply below_alloc | apply pw_below_drewN | apply below_drew1 | refine below_set ?_ GE124.out) | exact HB.out)))); have n1_ := Aside0.mk (blk_below (g := gb124) (o := .cells #[.bool false, .slice none 0 0] 28 (0, 0)) (by (with_reducible repeat (first | refine blk_drewN ?_ _ | refine blk_drew ?_ | refine blk_alloc ?_ _)); exact BK124.out) hb); have n2_ := Aside0.mk (below_step (by repeat (first | (with_reducible first | exact HB.out | apply below_alloc | apply pw_below_drewN | apply below_drew1 | refine below_set ?_ GE124.out) | exact HB.out)) hb); clear BK124; clear HB; have HO135 := n0_; have BK124 := n1_; have HB := n2_; clear n0_ n1_ n2_; (try clear hb); (try clear hb2); (try clear hk); (try clear hi); (try clear ho0); obtain ⟨Ao25, co25, eo25⟩ := Kd.V_slice HO135.out; subst eo25) | ((with_reducible refine gate_callee (f := 32) rfl ?_); refine goesL_ (some 35) rfl rfl Tryz.func32 (by kernel_rfl) rfl #[.bool x4_1, .slice Ao25 t133.length co25] rfl (by (try simp only [List.map_toArray, List.map_cons, List.map_nil]); first | done | rfl | (simp only [List.length_drop, List.length_take]; rfl)) ?_; (with_reducible refine (spec_wholeOf.calls x4_1 (fun k_ => ((w.heap.size ≤ k_) ∧ k_ ≠ gb124)) _ _ t133 t137 t138 _ ?side1 A23.out).mono ?_); (case side1 => exact HO135.out); rintro e w26 ⟨v139, rfl, ho0, hb⟩; refine ⟨_, rfl, ?_⟩; have n0_ := Aside0.mk (Kd.V_below (by (with_reducible repeat (first | apply Kd.V_alloc | apply Kd.V_drewN | apply Kd.V_drew)); exact HO135.out) hb); have n1_ := Aside0.mk (Kd.V_lower (Kd.V_mono (ok' := fun k_ => (w.heap.size ≤ k_) ∧ k_ ≠ gb124) ho0 (fun k_ hk_ => ⟨Or.elim hk_ (fun hs_ => hs_.1) (fun hn_ => (Nat.le_trans (below_size (by repeat (first | (with_reducible first | exact HB.out | apply below_alloc | apply pw_below_drewN | apply below_drew1 | refine below_set ?_ GE124.out) | exact HB.out))) hn_)), Or.elim hk_ (fun hs_ => hs_.2) (fun hn_ => (Kd.freshB (g := gb124) (o := .cells #[.bool false, .slice none 0 0] 28 (0, 0)) (by (with_reducible repeat (first | refine blk_drewN ?_ _ | refine blk_drew ?_ | refine blk_alloc ?_ _)); exact BK124.out) k_ hn_))⟩)) (below_size (by repeat (first | (with_reducible first | exact HB.out | apply below_alloc | apply pw_below_drewN | apply below_drew1 | refine below_set ?_ GE124.out) | exact HB.out)))); have n2_ := Aside0.mk (blk_below (g := gb124) (o := .cells #[.bool false, .slice none 0 0] 28 (0, 0)) (by (with_reducible repeat (first | refine blk_drewN ?_ _ | refine blk_drew ?_ | refine blk_alloc ?_ _)); exact BK124.out) hb); have n3_ := Aside0.mk (below_step (by repeat (first | (with_reducible first | exact HB.out | apply below_alloc | apply pw_below_drewN | apply below_drew1 | refine below_set ?_ GE124.out) | exact HB.out)) hb); clear HO135; clear BK124; clear HB; have HO135 := n0_; have HO140 := n1_; have BK124 := n2_; have HB := n3_; clear n0_ n1_ n2_ n3_; (try clear hb); (try clear hb2); (try clear hk); (try clear hi); (try clear ho0); have hcz27_0 : w26.cell? ⟨gb124, 0, none⟩ = some (.bool false) := (blk_cell BK124.out 0).trans rfl; have hcz27_1 : w26.cell? ⟨gb124, 1, none⟩ = some (.slice none 0 0) := (blk_cell BK124.out 1).trans rfl; have hfz27_0 := blk_frozen BK124.out 0; have hfz27_1 := blk_frozen BK124.out 1; obtain ⟨Ao28, co28, eo28⟩ := Kd.V_slice HO140.out; subst eo28))
            refine bodyPost_ret (results_ct rfl _ _ gb124 28 #[.bool t137, .slice Ao28 t138.length co28] (0, 0) _ rfl (by (with_reducible repeat (first | refine blk_drewN ?_ _ | refine blk_drew ?_ | refine blk_alloc ?_ _)); refine blk_put (cs := #[.bool t137, .slice none 0 0]) ?_ 1 _ rfl; (with_reducible repeat (first | refine blk_drewN ?_ _ | refine blk_drew ?_ | refine blk_alloc ?_ _)); refine blk_put (cs := #[.bool false, .slice none 0 0]) ?_ 0 _ rfl; (with_reducible repeat (first | refine blk_drewN ?_ _ | refine blk_drew ?_ | refine blk_alloc ?_ _)); exact BK124.out) Tryz.underlying28 rfl (by kernel_rfl)) rfl ?_
            exact ⟨_, by first | rfl | (simp [errW_none, errW_some] <;> rfl) | (simp [*, errW_none, errW_some] <;> rfl), by (with_reducible repeat (first | apply Kd.V_alloc | apply Kd.V_drewN | apply Kd.V_drew)); exact Kd.V_mono (Kd.V_far (p := ⟨gb124, 1, none⟩) (Kd.V_far (p := ⟨gb124, 0, none⟩) (Kd.V_mono HO140.out (fun k_ hk => (⟨hk, hk.2⟩ : _ ∧ k_ ≠ gb124))) (fun _ hk => hk.2) (.bool t137)) (fun _ hk => hk.2) (.slice Ao28 t138.length co28)) (fun _ hk => hk.1.1), by repeat (first | (with_reducible first | exact HB.out | apply below_alloc | apply pw_below_drewN | apply below_drew1 | refine below_set ?_ GE124.out) | exact HB.out)⟩


end Go.Proofs.YtghabdpbacgicaaGreatDoor.S
