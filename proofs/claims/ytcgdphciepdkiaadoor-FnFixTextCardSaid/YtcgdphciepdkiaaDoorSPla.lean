/- CONTRACTS of spec_Dec_Plain: each as the plain function beside it. (Began as print.sh's text for this seat; the turns are those of wip/tools/split.py.) -/
import Derived.Test.YtcgdphciepdkiaaDoorSStr
import Derived.Test.YtcgdphciepdkiaaDoorSZer
namespace Go.Proofs.YtcgdphciepdkiaaDoor.S
open Go.RowKit Go.Proofs.YtcgdphciepdkiaaDoorW.PrintWords Go.Proofs.YtcgdphciepdkiaaDoorW.PrintLast Go.Proofs.YtcgdphciepdkiaaDoorW.PrintMore
attribute [local go_sem] max2_int min2_int max_two min_two max_three min_three max_four min_four   -- for this text's walks alone
set_option linter.unusedVariables false
set_option linter.unusedSimpArgs false

/-! ### spec_Dec_Plain: function 22 -/
mutual
def spec_Dec_Plain.j0 : Nat → ByteArray → Bool → Bool → List Int → Int → Option (ByteArray)
  | 0, _, _, _, _, _ => none
  | k + 1, x3, x17, x145000, x145001, x145002 => if x17 = true then ((spec_zeros.f k x145002).bind fun t146 => (if x3.size + t146.size ≤ 9223372036854775807 then (spec_Dec_Plain.j1 k (x3 ++ t146) x145000 x145001 x145002) else (none))) else (spec_Dec_Plain.j1 k x3 x145000 x145001 x145002)
def spec_Dec_Plain.j1 : Nat → ByteArray → Bool → List Int → Int → Option (ByteArray)
  | 0, _, _, _, _ => none
  | k + 1, x3, x145000, x145001, x145002 => if x145002 < 0 then (if (x3.size : Int) ≤ (wrap64 (-x145002)) then ((spec_zeros.f k (wrap64 ((wrap64 ((wrap64 (-x145002)) - (x3.size : Int))) + 1))).bind fun t147 => (if t147.size + x3.size ≤ 9223372036854775807 then (if 0 ≤ (wrap64 (((t147 ++ x3).size : Int) + x145002)) then (if (wrap64 (((t147 ++ x3).size : Int) + x145002)) ≤ ((t147 ++ x3).size : Int) then (if ((t147 ++ x3).extract 0 ((wrap64 (((t147 ++ x3).size : Int) + x145002)) : Int).toNat).size + 1 ≤ 9223372036854775807 then (if (((t147 ++ x3).extract 0 ((wrap64 (((t147 ++ x3).size : Int) + x145002)) : Int).toNat) ++ (⟨#[46]⟩ : ByteArray)).size + ((t147 ++ x3).extract ((wrap64 (((t147 ++ x3).size : Int) + x145002)) : Int).toNat (t147 ++ x3).size).size ≤ 9223372036854775807 then (if x145000 = true then (if 1 + ((((t147 ++ x3).extract 0 ((wrap64 (((t147 ++ x3).size : Int) + x145002)) : Int).toNat) ++ (⟨#[46]⟩ : ByteArray)) ++ ((t147 ++ x3).extract ((wrap64 (((t147 ++ x3).size : Int) + x145002)) : Int).toNat (t147 ++ x3).size)).size ≤ 9223372036854775807 then (some ((⟨#[45]⟩ : ByteArray) ++ ((((t147 ++ x3).extract 0 ((wrap64 (((t147 ++ x3).size : Int) + x145002)) : Int).toNat) ++ (⟨#[46]⟩ : ByteArray)) ++ ((t147 ++ x3).extract ((wrap64 (((t147 ++ x3).size : Int) + x145002)) : Int).toNat (t147 ++ x3).size)))) else (none)) else (some ((((t147 ++ x3).extract 0 ((wrap64 (((t147 ++ x3).size : Int) + x145002)) : Int).toNat) ++ (⟨#[46]⟩ : ByteArray)) ++ ((t147 ++ x3).extract ((wrap64 (((t147 ++ x3).size : Int) + x145002)) : Int).toNat (t147 ++ x3).size)))) else (none)) else (none)) else (none)) else (none)) else (none))) else (if 0 ≤ (wrap64 ((x3.size : Int) + x145002)) then (if (wrap64 ((x3.size : Int) + x145002)) ≤ (x3.size : Int) then (if (x3.extract 0 ((wrap64 ((x3.size : Int) + x145002)) : Int).toNat).size + 1 ≤ 9223372036854775807 then (if ((x3.extract 0 ((wrap64 ((x3.size : Int) + x145002)) : Int).toNat) ++ (⟨#[46]⟩ : ByteArray)).size + (x3.extract ((wrap64 ((x3.size : Int) + x145002)) : Int).toNat x3.size).size ≤ 9223372036854775807 then (if x145000 = true then (if 1 + (((x3.extract 0 ((wrap64 ((x3.size : Int) + x145002)) : Int).toNat) ++ (⟨#[46]⟩ : ByteArray)) ++ (x3.extract ((wrap64 ((x3.size : Int) + x145002)) : Int).toNat x3.size)).size ≤ 9223372036854775807 then (some ((⟨#[45]⟩ : ByteArray) ++ (((x3.extract 0 ((wrap64 ((x3.size : Int) + x145002)) : Int).toNat) ++ (⟨#[46]⟩ : ByteArray)) ++ (x3.extract ((wrap64 ((x3.size : Int) + x145002)) : Int).toNat x3.size)))) else (none)) else (some (((x3.extract 0 ((wrap64 ((x3.size : Int) + x145002)) : Int).toNat) ++ (⟨#[46]⟩ : ByteArray)) ++ (x3.extract ((wrap64 ((x3.size : Int) + x145002)) : Int).toNat x3.size)))) else (none)) else (none)) else (none)) else (none))) else (if x145000 = true then (if 1 + x3.size ≤ 9223372036854775807 then (some ((⟨#[45]⟩ : ByteArray) ++ x3)) else (none)) else (some x3))
end
def spec_Dec_Plain.f (k : Nat) (a0_0 : Bool) (l0_1 : List Int) (a0_2 : Int) : Option (ByteArray) := (spec_Nat_String.f k l0_1).bind fun t145 => (if a0_2 > 0 then (spec_Dec_Plain.j0 k t145 (decide (0 < l0_1.length)) a0_0 l0_1 a0_2) else (spec_Dec_Plain.j0 k t145 false a0_0 l0_1 a0_2))
theorem spec_Dec_Plain.mono_l : ∀ k, (∀ y0 y1 y2 y3 y4, LeO (spec_Dec_Plain.j0 k y0 y1 y2 y3 y4) (spec_Dec_Plain.j0 (k + 1) y0 y1 y2 y3 y4)) ∧ (∀ y0 y1 y2 y3, LeO (spec_Dec_Plain.j1 k y0 y1 y2 y3) (spec_Dec_Plain.j1 (k + 1) y0 y1 y2 y3))
  | 0 => ⟨fun _ _ _ _ _ r h => by simp [spec_Dec_Plain.j0] at h, fun _ _ _ _ r h => by simp [spec_Dec_Plain.j1] at h⟩
  | k + 1 => by
    obtain ⟨ih0, ih1⟩ := spec_Dec_Plain.mono_l k
    refine ⟨?_, ?_⟩
    · intro y0 y1 y2 y3 y4
      unfold spec_Dec_Plain.j0
      repeat' first
      | (with_reducible exact ih0 _ _ _ _ _)
      | (with_reducible exact ih1 _ _ _ _)
      | (with_reducible exact spec_Nat_String.mono _ _)
      | (with_reducible exact spec_zeros.mono _ _)
      | (with_reducible exact LeO.refl _)
      | (with_reducible exact LeO.none _)
      | (with_reducible refine LeO.ite ?_ ?_)
      | (with_reducible refine LeO.bind ?_ (fun _ => ?_))
      | exact ih0 _ _ _ _ _
      | exact ih1 _ _ _ _
      | exact spec_Nat_String.mono _ _
      | exact spec_zeros.mono _ _
      | exact LeO.none _
      | refine LeO.ite ?_ ?_
      | refine LeO.bind ?_ (fun _ => ?_)
    · intro y0 y1 y2 y3
      unfold spec_Dec_Plain.j1
      repeat' first
      | (with_reducible exact ih0 _ _ _ _ _)
      | (with_reducible exact ih1 _ _ _ _)
      | (with_reducible exact spec_Nat_String.mono _ _)
      | (with_reducible exact spec_zeros.mono _ _)
      | (with_reducible exact LeO.refl _)
      | (with_reducible exact LeO.none _)
      | (with_reducible refine LeO.ite ?_ ?_)
      | (with_reducible refine LeO.bind ?_ (fun _ => ?_))
      | exact ih0 _ _ _ _ _
      | exact ih1 _ _ _ _
      | exact spec_Nat_String.mono _ _
      | exact spec_zeros.mono _ _
      | exact LeO.none _
      | refine LeO.ite ?_ ?_
      | refine LeO.bind ?_ (fun _ => ?_)
theorem spec_Dec_Plain.mono : ∀ a0 a1 a2 k, LeO (spec_Dec_Plain.f k a0 a1 a2) (spec_Dec_Plain.f (k + 1) a0 a1 a2) := by
  intro a0 a1 a2 k
  obtain ⟨ih0, ih1⟩ := spec_Dec_Plain.mono_l k
  unfold spec_Dec_Plain.f
  repeat' first
      | (with_reducible exact ih0 _ _ _ _ _)
      | (with_reducible exact ih1 _ _ _ _)
      | (with_reducible exact spec_Nat_String.mono _ _)
      | (with_reducible exact spec_zeros.mono _ _)
      | (with_reducible exact LeO.refl _)
      | (with_reducible exact LeO.none _)
      | (with_reducible refine LeO.ite ?_ ?_)
      | (with_reducible refine LeO.bind ?_ (fun _ => ?_))
      | exact ih0 _ _ _ _ _
      | exact ih1 _ _ _ _
      | exact spec_Nat_String.mono _ _
      | exact spec_zeros.mono _ _
      | exact LeO.none _
      | refine LeO.ite ?_ ?_
      | refine LeO.bind ?_ (fun _ => ?_)
set_option maxHeartbeats 8000000 in
set_option maxRecDepth 100000 in
theorem spec_Dec_Plain.calls (k : Nat) (a0_0 : Bool) (A0_1 : Option Addr) (c0_1 : Nat) (l0_1 : List Int) (a0_2 : Int) (r : ByteArray) (w : World) (hr0_1 : Kd.C (Kd.int .u32) w A0_1 l0_1.length l0_1) (hc0_1 : l0_1.length ≤ c0_1) (h : spec_Dec_Plain.f k a0_0 l0_1 a0_2 = some r) :
    Calls Tryd.prog 22 #[.agg #[.bool a0_0, .slice A0_1 l0_1.length c0_1, .int .i64 a0_2]] w fun e w' => e = .returned (.string r) ∧ Below w.heap.size w w' := by
  have hu40 := Tryd.underlying40
  have HR0_1 := Aside0.mk hr0_1
  have HC0_1 := Aside0.mk hc0_1
  clear hr0_1 hc0_1
  have HB := Aside0.mk (Below.refl w.heap.size w)
  have H : ((spec_Nat_String.f k l0_1).bind fun t145 => (if a0_2 > 0 then (spec_Dec_Plain.j0 k t145 (decide (0 < l0_1.length)) a0_0 l0_1 a0_2) else (spec_Dec_Plain.j0 k t145 false a0_0 l0_1 a0_2))) = some r := h
  clear h
  replace H := Option.bind_eq_some_iff.mp H
  obtain ⟨t145, A20, H⟩ := H
  replace H : (if a0_2 > 0 then (spec_Dec_Plain.j0 k t145 (decide (0 < l0_1.length)) a0_0 l0_1 a0_2) else (spec_Dec_Plain.j0 k t145 false a0_0 l0_1 a0_2)) = some r := H
  have A2 := Aside0.mk A20
  clear A20
  have HC3 := Aside0.mk H
  clear H
  go_enter Tryd.func22, Tryd.ntmps22
  go_upto_region 2 with (first | ((with_reducible refine gate_dst (N := 1) rfl ?_); (try (refine gate_guard (by rfl) ?_; dsimp only)); refine box_event ?hg (N := 1) ?hd (cs := #[.bool a0_0, .slice A0_1 l0_1.length c0_1, .int .i64 a0_2]) (t := 40) ?hr ?_; (case hd => rfl); (case hg => rfl); (case hr => first | (go_simp; done) | (go_simp; rfl)); intro gb144 hg w4 hbox hb; have n0_ := Aside0.mk (below_step (by repeat (first | (with_reducible first | exact HB.out | apply below_alloc | apply pw_below_drewN | apply below_drew1) | exact HB.out)) hb); have n1_ := Aside0.mk (hbox); have n2_ := Aside0.mk ((by rw [hg]; exact (below_size (by repeat (first | (with_reducible first | exact HB.out | apply below_alloc | apply pw_below_drewN | apply below_drew1) | exact HB.out))) : w.heap.size ≤ gb144)); have n3_ := Aside0.mk ((by rw [hg]; exact (below_size (by repeat (first | (with_reducible first | exact HB.out | apply below_alloc | apply pw_below_drewN | apply below_drew1) | exact HB.out))) : w.heap.size ≤ gb144)); clear HB; have HB := n0_; have BK144 := n1_; have GW144 := n2_; have GE144 := n3_; clear n0_ n1_ n2_ n3_; clear hb hbox hg; have hcz5_0 : w4.cell? ⟨gb144, 0, none⟩ = some (.bool a0_0) := (blk_cell BK144.out 0).trans rfl; have hcz5_1 : w4.cell? ⟨gb144, 1, none⟩ = some (.slice A0_1 l0_1.length c0_1) := (blk_cell BK144.out 1).trans rfl; have hcz5_2 : w4.cell? ⟨gb144, 2, none⟩ = some (.int .i64 a0_2) := (blk_cell BK144.out 2).trans rfl; have hfz5_0 := blk_frozen BK144.out 0; have hfz5_1 := blk_frozen BK144.out 1; have hfz5_2 := blk_frozen BK144.out 2) | (go_at_call 44; (with_reducible refine (spec_Nat_String.calls k _ _ l0_1 t145 _ ?side1 ?side2 A2.out).mono ?_); (case side1 => repeat (first | exact (Kd.C_below HR0_1.out HB.out) | (with_reducible refine Kd.C_alloc ?_ _) | (with_reducible refine Kd.C_drewN ?_ _) | (with_reducible refine Kd.C_drew ?_))); (case side2 => exact HC0_1.out); rintro e w6 ⟨rfl, hb⟩; have n0_ := Aside0.mk (blk_below (g := gb144) (o := .cells #[.bool a0_0, .slice A0_1 l0_1.length c0_1, .int .i64 a0_2] 40 (0, 0)) (by (with_reducible repeat (first | refine blk_drewN ?_ _ | refine blk_drew ?_ | refine blk_alloc ?_ _)); exact BK144.out) hb); have n1_ := Aside0.mk (below_step (by repeat (first | (with_reducible first | exact HB.out | apply below_alloc | apply pw_below_drewN | apply below_drew1 | refine below_set ?_ GE144.out) | exact HB.out)) hb); clear BK144; clear HB; have BK144 := n0_; have HB := n1_; clear n0_ n1_; (try clear hb); (try clear hb2); (try clear hk); (try clear hi)))
  repeat (go_quiet (first | ((with_reducible refine gate_dst (N := 1) rfl ?_); (try (refine gate_guard (by rfl) ?_; dsimp only)); refine box_event ?hg (N := 1) ?hd (cs := #[.bool a0_0, .slice A0_1 l0_1.length c0_1, .int .i64 a0_2]) (t := 40) ?hr ?_; (case hd => rfl); (case hg => rfl); (case hr => first | (go_simp; done) | (go_simp; rfl)); intro gb144 hg w4 hbox hb; have n0_ := Aside0.mk (below_step (by repeat (first | (with_reducible first | exact HB.out | apply below_alloc | apply pw_below_drewN | apply below_drew1) | exact HB.out)) hb); have n1_ := Aside0.mk (hbox); have n2_ := Aside0.mk ((by rw [hg]; exact (below_size (by repeat (first | (with_reducible first | exact HB.out | apply below_alloc | apply pw_below_drewN | apply below_drew1) | exact HB.out))) : w.heap.size ≤ gb144)); have n3_ := Aside0.mk ((by rw [hg]; exact (below_size (by repeat (first | (with_reducible first | exact HB.out | apply below_alloc | apply pw_below_drewN | apply below_drew1) | exact HB.out))) : w.heap.size ≤ gb144)); clear HB; have HB := n0_; have BK144 := n1_; have GW144 := n2_; have GE144 := n3_; clear n0_ n1_ n2_ n3_; clear hb hbox hg; have hcz5_0 : w4.cell? ⟨gb144, 0, none⟩ = some (.bool a0_0) := (blk_cell BK144.out 0).trans rfl; have hcz5_1 : w4.cell? ⟨gb144, 1, none⟩ = some (.slice A0_1 l0_1.length c0_1) := (blk_cell BK144.out 1).trans rfl; have hcz5_2 : w4.cell? ⟨gb144, 2, none⟩ = some (.int .i64 a0_2) := (blk_cell BK144.out 2).trans rfl; have hfz5_0 := blk_frozen BK144.out 0; have hfz5_1 := blk_frozen BK144.out 1; have hfz5_2 := blk_frozen BK144.out 2) | (go_at_call 44; (with_reducible refine (spec_Nat_String.calls k _ _ l0_1 t145 _ ?side1 ?side2 A2.out).mono ?_); (case side1 => repeat (first | exact (Kd.C_below HR0_1.out HB.out) | (with_reducible refine Kd.C_alloc ?_ _) | (with_reducible refine Kd.C_drewN ?_ _) | (with_reducible refine Kd.C_drew ?_))); (case side2 => exact HC0_1.out); rintro e w6 ⟨rfl, hb⟩; have n0_ := Aside0.mk (blk_below (g := gb144) (o := .cells #[.bool a0_0, .slice A0_1 l0_1.length c0_1, .int .i64 a0_2] 40 (0, 0)) (by (with_reducible repeat (first | refine blk_drewN ?_ _ | refine blk_drew ?_ | refine blk_alloc ?_ _)); exact BK144.out) hb); have n1_ := Aside0.mk (below_step (by repeat (first | (with_reducible first | exact HB.out | apply below_alloc | apply pw_below_drewN | apply below_drew1 | refine below_set ?_ GE144.out) | exact HB.out)) hb); clear BK144; clear HB; have BK144 := n0_; have HB := n1_; clear n0_ n1_; (try clear hb); (try clear hb2); (try clear hk); (try clear hi))); go_upto_region 2 with (first | ((with_reducible refine gate_dst (N := 1) rfl ?_); (try (refine gate_guard (by rfl) ?_; dsimp only)); refine box_event ?hg (N := 1) ?hd (cs := #[.bool a0_0, .slice A0_1 l0_1.length c0_1, .int .i64 a0_2]) (t := 40) ?hr ?_; (case hd => rfl); (case hg => rfl); (case hr => first | (go_simp; done) | (go_simp; rfl)); intro gb144 hg w4 hbox hb; have n0_ := Aside0.mk (below_step (by repeat (first | (with_reducible first | exact HB.out | apply below_alloc | apply pw_below_drewN | apply below_drew1) | exact HB.out)) hb); have n1_ := Aside0.mk (hbox); have n2_ := Aside0.mk ((by rw [hg]; exact (below_size (by repeat (first | (with_reducible first | exact HB.out | apply below_alloc | apply pw_below_drewN | apply below_drew1) | exact HB.out))) : w.heap.size ≤ gb144)); have n3_ := Aside0.mk ((by rw [hg]; exact (below_size (by repeat (first | (with_reducible first | exact HB.out | apply below_alloc | apply pw_below_drewN | apply below_drew1) | exact HB.out))) : w.heap.size ≤ gb144)); clear HB; have HB := n0_; have BK144 := n1_; have GW144 := n2_; have GE144 := n3_; clear n0_ n1_ n2_ n3_; clear hb hbox hg; have hcz5_0 : w4.cell? ⟨gb144, 0, none⟩ = some (.bool a0_0) := (blk_cell BK144.out 0).trans rfl; have hcz5_1 : w4.cell? ⟨gb144, 1, none⟩ = some (.slice A0_1 l0_1.length c0_1) := (blk_cell BK144.out 1).trans rfl; have hcz5_2 : w4.cell? ⟨gb144, 2, none⟩ = some (.int .i64 a0_2) := (blk_cell BK144.out 2).trans rfl; have hfz5_0 := blk_frozen BK144.out 0; have hfz5_1 := blk_frozen BK144.out 1; have hfz5_2 := blk_frozen BK144.out 2) | (go_at_call 44; (with_reducible refine (spec_Nat_String.calls k _ _ l0_1 t145 _ ?side1 ?side2 A2.out).mono ?_); (case side1 => repeat (first | exact (Kd.C_below HR0_1.out HB.out) | (with_reducible refine Kd.C_alloc ?_ _) | (with_reducible refine Kd.C_drewN ?_ _) | (with_reducible refine Kd.C_drew ?_))); (case side2 => exact HC0_1.out); rintro e w6 ⟨rfl, hb⟩; have n0_ := Aside0.mk (blk_below (g := gb144) (o := .cells #[.bool a0_0, .slice A0_1 l0_1.length c0_1, .int .i64 a0_2] 40 (0, 0)) (by (with_reducible repeat (first | refine blk_drewN ?_ _ | refine blk_drew ?_ | refine blk_alloc ?_ _)); exact BK144.out) hb); have n1_ := Aside0.mk (below_step (by repeat (first | (with_reducible first | exact HB.out | apply below_alloc | apply pw_below_drewN | apply below_drew1 | refine below_set ?_ GE144.out) | exact HB.out)) hb); clear BK144; clear HB; have BK144 := n0_; have HB := n1_; clear n0_ n1_; (try clear hb); (try clear hb2); (try clear hk); (try clear hi))))
  (try simp only [Act.put, List.setIfInBounds_toArray, List.set_cons_zero, List.set_cons_succ])
  go_cut [17] (fun v17 wc => ∃ (kq : Nat) (x17_2 : Bool), v17 = .bool x17_2 ∧ Aside0 (spec_Dec_Plain.j0 kq t145 x17_2 a0_0 l0_1 a0_2 = some r) ∧ Aside0 (kq ≤ k) ∧ Aside0 (wc.heap[gb144]? = some (.cells #[.bool a0_0, (.slice A0_1 l0_1.length c0_1), .int .i64 a0_2] 40 (0, 0))) ∧ Aside0 (Below w.heap.size w wc))
  case first =>
    have H := HC3.out
    clear HC3
    by_cases c7 : a0_2 > 0
    · rw [if_pos c7] at H
      have c7b0 : decide (0 < a0_2) = true := decide_eq_true c7
      clear c7
      (first | rw [c7b0] | (simp only [i64_w, i32_w]; rw [c7b0]) | skip)
      have H' := Aside0.mk H
      clear H
      have hcz8_0 : w6.cell? ⟨gb144, 0, none⟩ = some (.bool a0_0) := (blk_cell BK144.out 0).trans rfl
      have hcz8_1 : w6.cell? ⟨gb144, 1, none⟩ = some (.slice A0_1 l0_1.length c0_1) := (blk_cell BK144.out 1).trans rfl
      have hcz8_2 : w6.cell? ⟨gb144, 2, none⟩ = some (.int .i64 a0_2) := (blk_cell BK144.out 2).trans rfl
      have hfz8_0 := blk_frozen BK144.out 0
      have hfz8_1 := blk_frozen BK144.out 1
      have hfz8_2 := blk_frozen BK144.out 2
      go_wp2
      repeat (go_quiet (fail); try go_wp2)
      go_meet
      case rel => exact ⟨_, (decide (0 < l0_1.length)), (by first | rfl | (simp; done) | (simp [*]; done)), H', ⟨by first | omega | exact Nat.le_refl _⟩, ⟨by (with_reducible repeat (first | refine blk_drewN ?_ _ | refine blk_drew ?_ | refine blk_alloc ?_ _)); exact BK144.out⟩, ⟨by repeat (first | (with_reducible first | exact HB.out | apply below_alloc | apply pw_below_drewN | apply below_drew1 | refine below_set ?_ GE144.out) | exact HB.out)⟩⟩
    · rw [if_neg c7] at H
      have c7b0 : decide (0 < a0_2) = false := decide_eq_false c7
      clear c7
      (first | rw [c7b0] | (simp only [i64_w, i32_w]; rw [c7b0]) | skip)
      have H' := Aside0.mk H
      clear H
      have hcz9_0 : w6.cell? ⟨gb144, 0, none⟩ = some (.bool a0_0) := (blk_cell BK144.out 0).trans rfl
      have hcz9_1 : w6.cell? ⟨gb144, 1, none⟩ = some (.slice A0_1 l0_1.length c0_1) := (blk_cell BK144.out 1).trans rfl
      have hcz9_2 : w6.cell? ⟨gb144, 2, none⟩ = some (.int .i64 a0_2) := (blk_cell BK144.out 2).trans rfl
      have hfz9_0 := blk_frozen BK144.out 0
      have hfz9_1 := blk_frozen BK144.out 1
      have hfz9_2 := blk_frozen BK144.out 2
      go_wp2
      repeat (go_quiet (fail); try go_wp2)
      go_meet
      case rel => exact ⟨_, (false), (by first | rfl | (simp; done) | (simp [*]; done)), H', ⟨by first | omega | exact Nat.le_refl _⟩, ⟨by (with_reducible repeat (first | refine blk_drewN ?_ _ | refine blk_drew ?_ | refine blk_alloc ?_ _)); exact BK144.out⟩, ⟨by repeat (first | (with_reducible first | exact HB.out | apply below_alloc | apply pw_below_drewN | apply below_drew1 | refine below_set ?_ GE144.out) | exact HB.out)⟩⟩
  case rest =>
    clear HC3
    try clear c2
    try clear p2
    try clear c7
    try clear c7b0
    try clear hcz5_0
    try clear hcz5_1
    try clear hcz5_2
    try clear hcz8_0
    try clear hcz8_1
    try clear hcz8_2
    try clear hcz9_0
    try clear hcz9_1
    try clear hcz9_2
    try clear hfz5_0
    try clear hfz5_1
    try clear hfz5_2
    try clear hfz8_0
    try clear hfz8_1
    try clear hfz8_2
    try clear hfz9_0
    try clear hfz9_1
    try clear hfz9_2
    obtain ⟨kq, x17_2, rfl, HA, HJ2, BK144, HB⟩ := hcut
    cases kq with
    | zero => exact absurd HA.out (by simp [spec_Dec_Plain.j0])
    | succ kj2 =>
      have H := HA.out
      clear HA
      simp only [spec_Dec_Plain.j0] at H
      have HC10 := Aside0.mk H
      clear H
      go_upto_if 17 with (fail)
      repeat (go_quiet (fail); go_upto_if 17 with (fail))
      go_cut [3] (fun v3 wc => ∃ (kq : Nat) (x3_9 : ByteArray), v3 = .string x3_9 ∧ Aside0 (spec_Dec_Plain.j1 kq x3_9 a0_0 l0_1 a0_2 = some r) ∧ Aside0 (kq ≤ kj2) ∧ Aside0 (wc.heap[gb144]? = some (.cells #[.bool a0_0, (.slice A0_1 l0_1.length c0_1), .int .i64 a0_2] 40 (0, 0))) ∧ Aside0 (Below w.heap.size w wc))
      case first =>
        have H := HC10.out
        clear HC10
        by_cases c11 : x17_2 = true
        · subst c11
          have H1 : ((spec_zeros.f kj2 a0_2).bind fun t146 => (if t145.size + t146.size ≤ 9223372036854775807 then (spec_Dec_Plain.j1 kj2 (t145 ++ t146) a0_0 l0_1 a0_2) else (none))) = some r := by rw [if_pos rfl] at H; exact H
          clear H
          have H := H1
          clear H1
          replace H := Option.bind_eq_some_iff.mp H
          obtain ⟨t146, A120, H⟩ := H
          replace H : (if t145.size + t146.size ≤ 9223372036854775807 then (spec_Dec_Plain.j1 kj2 (t145 ++ t146) a0_0 l0_1 a0_2) else (none)) = some r := H
          have A12 := Aside0.mk A120
          clear A120
          by_cases c13 : t145.size + t146.size ≤ 9223372036854775807
          · rw [if_pos c13] at H
            have c13b0 := eq_true c13
            have c13b1 : decide (t145.size + t146.size ≤ 9223372036854775807) = true := decide_eq_true c13
            try have c13b2 : (9223372036854775807 < t145.size + t146.size) = False := eq_false (Nat.not_lt.2 c13)
            have H' := Aside0.mk H
            clear H
            have hcz14_0 : wc.cell? ⟨gb144, 0, none⟩ = some (.bool a0_0) := (blk_cell BK144.out 0).trans rfl
            have hcz14_1 : wc.cell? ⟨gb144, 1, none⟩ = some (.slice A0_1 l0_1.length c0_1) := (blk_cell BK144.out 1).trans rfl
            have hcz14_2 : wc.cell? ⟨gb144, 2, none⟩ = some (.int .i64 a0_2) := (blk_cell BK144.out 2).trans rfl
            have hfz14_0 := blk_frozen BK144.out 0
            have hfz14_1 := blk_frozen BK144.out 1
            have hfz14_2 := blk_frozen BK144.out 2
            go_wp2_with (first | (go_at_call 45; (with_reducible refine (spec_zeros.calls kj2 a0_2 t146 _ A12.out).mono ?_); rintro e w15 ⟨rfl, hb⟩; have n0_ := Aside0.mk (blk_below (g := gb144) (o := .cells #[.bool a0_0, .slice A0_1 l0_1.length c0_1, .int .i64 a0_2] 40 (0, 0)) (by (with_reducible repeat (first | refine blk_drewN ?_ _ | refine blk_drew ?_ | refine blk_alloc ?_ _)); exact BK144.out) hb); have n1_ := Aside0.mk (below_step (by repeat (first | (with_reducible first | exact HB.out | apply below_alloc | apply pw_below_drewN | apply below_drew1 | refine below_set ?_ GE144.out) | exact HB.out)) hb); clear BK144; clear HB; have BK144 := n0_; have HB := n1_; clear n0_ n1_; (try clear hb); (try clear hb2); (try clear hk); (try clear hi)))
            repeat (go_quiet (first | (go_at_call 45; (with_reducible refine (spec_zeros.calls kj2 a0_2 t146 _ A12.out).mono ?_); rintro e w15 ⟨rfl, hb⟩; have n0_ := Aside0.mk (blk_below (g := gb144) (o := .cells #[.bool a0_0, .slice A0_1 l0_1.length c0_1, .int .i64 a0_2] 40 (0, 0)) (by (with_reducible repeat (first | refine blk_drewN ?_ _ | refine blk_drew ?_ | refine blk_alloc ?_ _)); exact BK144.out) hb); have n1_ := Aside0.mk (below_step (by repeat (first | (with_reducible first | exact HB.out | apply below_alloc | apply pw_below_drewN | apply below_drew1 | refine below_set ?_ GE144.out) | exact HB.out)) hb); clear BK144; clear HB; have BK144 := n0_; have HB := n1_; clear n0_ n1_; (try clear hb); (try clear hb2); (try clear hk); (try clear hi))); try go_wp2_with (first | (go_at_call 45; (with_reducible refine (spec_zeros.calls kj2 a0_2 t146 _ A12.out).mono ?_); rintro e w15 ⟨rfl, hb⟩; have n0_ := Aside0.mk (blk_below (g := gb144) (o := .cells #[.bool a0_0, .slice A0_1 l0_1.length c0_1, .int .i64 a0_2] 40 (0, 0)) (by (with_reducible repeat (first | refine blk_drewN ?_ _ | refine blk_drew ?_ | refine blk_alloc ?_ _)); exact BK144.out) hb); have n1_ := Aside0.mk (below_step (by repeat (first | (with_reducible first | exact HB.out | apply below_alloc | apply pw_below_drewN | apply below_drew1 | refine below_set ?_ GE144.out) | exact HB.out)) hb); clear BK144; clear HB; have BK144 := n0_; have HB := n1_; clear n0_ n1_; (try clear hb); (try clear hb2); (try clear hk); (try clear hi))))
            go_meet
            case rel => exact ⟨_, (t145 ++ t146), (by first | rfl | (simp; done) | (simp [*]; done)), H', ⟨by have := HJ2.out; first | omega | exact Nat.le_refl _⟩, ⟨by (with_reducible repeat (first | refine blk_drewN ?_ _ | refine blk_drew ?_ | refine blk_alloc ?_ _)); exact BK144.out⟩, ⟨by repeat (first | (with_reducible first | exact HB.out | apply below_alloc | apply pw_below_drewN | apply below_drew1 | refine below_set ?_ GE144.out) | exact HB.out)⟩⟩
          · rw [if_neg c13] at H
            exact absurd H (by simp)
        · replace c11 := Bool.eq_false_iff.mpr c11
          subst c11
          have H1 : (spec_Dec_Plain.j1 kj2 t145 a0_0 l0_1 a0_2) = some r := by rw [if_neg (show ¬ (false = true) by decide)] at H; exact H
          clear H
          have H := H1
          clear H1
          have H' := Aside0.mk H
          clear H
          go_wp2
          repeat (go_quiet (fail); try go_wp2)
          go_meet
          case rel => exact ⟨_, (t145), (by first | rfl | (simp; done) | (simp [*]; done)), H', ⟨by have := HJ2.out; first | omega | exact Nat.le_refl _⟩, ⟨by (with_reducible repeat (first | refine blk_drewN ?_ _ | refine blk_drew ?_ | refine blk_alloc ?_ _)); exact BK144.out⟩, ⟨by repeat (first | (with_reducible first | exact HB.out | apply below_alloc | apply pw_below_drewN | apply below_drew1 | refine below_set ?_ GE144.out) | exact HB.out)⟩⟩
      case rest =>
        clear HC10
        try clear c1
        try clear c2
        try clear p2
        try clear c7
        try clear c7b0
        try clear c11
        try clear c13
        try clear c13b0
        try clear c13b1
        try clear c13b2
        try clear hcz14_0
        try clear hcz14_1
        try clear hcz14_2
        try clear hcz5_0
        try clear hcz5_1
        try clear hcz5_2
        try clear hcz8_0
        try clear hcz8_1
        try clear hcz8_2
        try clear hcz9_0
        try clear hcz9_1
        try clear hcz9_2
        try clear hfz14_0
        try clear hfz14_1
        try clear hfz14_2
        try clear hfz5_0
        try clear hfz5_1
        try clear hfz5_2
        try clear hfz8_0
        try clear hfz8_1
        try clear hfz8_2
        try clear hfz9_0
        try clear hfz9_1
        try clear hfz9_2
        try clear p2
        obtain ⟨kq, x3_9, rfl, HA, HJ9, BK144, HB⟩ := hcut
        cases kq with
        | zero => exact absurd HA.out (by simp [spec_Dec_Plain.j1])
        | succ kj9 =>
          have H := HA.out
          clear HA
          simp only [spec_Dec_Plain.j1] at H
          by_cases c16 : a0_2 < 0
          · rw [if_pos c16] at H
            have c16b0 : decide (a0_2 < 0) = true := decide_eq_true c16
            clear c16
            by_cases c17 : (x3_9.size : Int) ≤ (wrap64 (-a0_2))
            · rw [if_pos c17] at H
              have c17b0 : decide ((x3_9.size : Int) ≤ (wrap64 (-a0_2))) = true := decide_eq_true c17
              clear c17
              replace H := Option.bind_eq_some_iff.mp H
              obtain ⟨t147, A180, H⟩ := H
              replace H : (if t147.size + x3_9.size ≤ 9223372036854775807 then (if 0 ≤ (wrap64 (((t147 ++ x3_9).size : Int) + a0_2)) then (if (wrap64 (((t147 ++ x3_9).size : Int) + a0_2)) ≤ ((t147 ++ x3_9).size : Int) then (if ((t147 ++ x3_9).extract 0 ((wrap64 (((t147 ++ x3_9).size : Int) + a0_2)) : Int).toNat).size + 1 ≤ 9223372036854775807 then (if (((t147 ++ x3_9).extract 0 ((wrap64 (((t147 ++ x3_9).size : Int) + a0_2)) : Int).toNat) ++ (⟨#[46]⟩ : ByteArray)).size + ((t147 ++ x3_9).extract ((wrap64 (((t147 ++ x3_9).size : Int) + a0_2)) : Int).toNat (t147 ++ x3_9).size).size ≤ 9223372036854775807 then (if a0_0 = true then (if 1 + ((((t147 ++ x3_9).extract 0 ((wrap64 (((t147 ++ x3_9).size : Int) + a0_2)) : Int).toNat) ++ (⟨#[46]⟩ : ByteArray)) ++ ((t147 ++ x3_9).extract ((wrap64 (((t147 ++ x3_9).size : Int) + a0_2)) : Int).toNat (t147 ++ x3_9).size)).size ≤ 9223372036854775807 then (some ((⟨#[45]⟩ : ByteArray) ++ ((((t147 ++ x3_9).extract 0 ((wrap64 (((t147 ++ x3_9).size : Int) + a0_2)) : Int).toNat) ++ (⟨#[46]⟩ : ByteArray)) ++ ((t147 ++ x3_9).extract ((wrap64 (((t147 ++ x3_9).size : Int) + a0_2)) : Int).toNat (t147 ++ x3_9).size)))) else (none)) else (some ((((t147 ++ x3_9).extract 0 ((wrap64 (((t147 ++ x3_9).size : Int) + a0_2)) : Int).toNat) ++ (⟨#[46]⟩ : ByteArray)) ++ ((t147 ++ x3_9).extract ((wrap64 (((t147 ++ x3_9).size : Int) + a0_2)) : Int).toNat (t147 ++ x3_9).size)))) else (none)) else (none)) else (none)) else (none)) else (none)) = some r := H
              have A18 := Aside0.mk A180
              clear A180
              by_cases c19 : t147.size + x3_9.size ≤ 9223372036854775807
              · rw [if_pos c19] at H
                have c19b0 := eq_true c19
                have c19b1 : decide (t147.size + x3_9.size ≤ 9223372036854775807) = true := decide_eq_true c19
                try have c19b2 : (9223372036854775807 < t147.size + x3_9.size) = False := eq_false (Nat.not_lt.2 c19)
                obtain ⟨ji20, hji20⟩ : ∃ j_ : Int, (wrap64 (((t147 ++ x3_9).size : Int) + a0_2)) = j_ := ⟨_, rfl⟩
                replace H : (if 0 ≤ (ji20) then (if (ji20) ≤ ((t147 ++ x3_9).size : Int) then (if ((t147 ++ x3_9).extract 0 ((ji20) : Int).toNat).size + 1 ≤ 9223372036854775807 then (if (((t147 ++ x3_9).extract 0 ((ji20) : Int).toNat) ++ (⟨#[46]⟩ : ByteArray)).size + ((t147 ++ x3_9).extract ((ji20) : Int).toNat (t147 ++ x3_9).size).size ≤ 9223372036854775807 then (if a0_0 = true then (if 1 + ((((t147 ++ x3_9).extract 0 ((ji20) : Int).toNat) ++ (⟨#[46]⟩ : ByteArray)) ++ ((t147 ++ x3_9).extract ((ji20) : Int).toNat (t147 ++ x3_9).size)).size ≤ 9223372036854775807 then (some ((⟨#[45]⟩ : ByteArray) ++ ((((t147 ++ x3_9).extract 0 ((ji20) : Int).toNat) ++ (⟨#[46]⟩ : ByteArray)) ++ ((t147 ++ x3_9).extract ((ji20) : Int).toNat (t147 ++ x3_9).size)))) else (none)) else (some ((((t147 ++ x3_9).extract 0 ((ji20) : Int).toNat) ++ (⟨#[46]⟩ : ByteArray)) ++ ((t147 ++ x3_9).extract ((ji20) : Int).toNat (t147 ++ x3_9).size)))) else (none)) else (none)) else (none)) else (none)) = some r := by first | (rw [hji20] at H; exact H) | (simp only [hji20] at H ⊢; exact H)
                (try rw [hji20] at A18)
                have hji20w : (IntKind.i64.wrap (((t147 ++ x3_9).size : Int) + a0_2)) = ji20 := (i64_w _).trans hji20
                by_cases c21 : 0 ≤ (ji20)
                · rw [if_pos c21] at H
                  have c21b0 := eq_true c21
                  have c21b1 : decide (0 ≤ (ji20)) = true := decide_eq_true c21
                  clear c21
                  by_cases c22 : (ji20) ≤ ((t147 ++ x3_9).size : Int)
                  · rw [if_pos c22] at H
                    have c22b0 := eq_true c22
                    have c22b1 : decide ((ji20) ≤ ((t147 ++ x3_9).size : Int)) = true := decide_eq_true c22
                    by_cases c23 : ((t147 ++ x3_9).extract 0 ((ji20) : Int).toNat).size + 1 ≤ 9223372036854775807
                    · rw [if_pos c23] at H
                      have c23b0 := eq_true c23
                      have c23b1 : decide (((t147 ++ x3_9).extract 0 ((ji20) : Int).toNat).size + 1 ≤ 9223372036854775807) = true := decide_eq_true c23
                      try have c23b2 : (9223372036854775807 < ((t147 ++ x3_9).extract 0 ((ji20) : Int).toNat).size + 1) = False := eq_false (Nat.not_lt.2 c23)
                      have c24b0 := eq_true (of_decide_eq_true (by first | (with_reducible assumption) | assumption) : 0 ≤ (ji20))
                      have c25b0 := eq_true (of_decide_eq_true (by first | (with_reducible assumption) | assumption) : (ji20) ≤ ((t147 ++ x3_9).size : Int))
                      by_cases c26 : (((t147 ++ x3_9).extract 0 ((ji20) : Int).toNat) ++ (⟨#[46]⟩ : ByteArray)).size + ((t147 ++ x3_9).extract ((ji20) : Int).toNat (t147 ++ x3_9).size).size ≤ 9223372036854775807
                      · rw [if_pos c26] at H
                        have c26b0 := eq_true c26
                        have c26b1 : decide ((((t147 ++ x3_9).extract 0 ((ji20) : Int).toNat) ++ (⟨#[46]⟩ : ByteArray)).size + ((t147 ++ x3_9).extract ((ji20) : Int).toNat (t147 ++ x3_9).size).size ≤ 9223372036854775807) = true := decide_eq_true c26
                        try have c26b2 : (9223372036854775807 < (((t147 ++ x3_9).extract 0 ((ji20) : Int).toNat) ++ (⟨#[46]⟩ : ByteArray)).size + ((t147 ++ x3_9).extract ((ji20) : Int).toNat (t147 ++ x3_9).size).size) = False := eq_false (Nat.not_lt.2 c26)
                        by_cases c27 : a0_0 = true
                        · subst c27
                          have H1 : (if 1 + ((((t147 ++ x3_9).extract 0 ((ji20) : Int).toNat) ++ (⟨#[46]⟩ : ByteArray)) ++ ((t147 ++ x3_9).extract ((ji20) : Int).toNat (t147 ++ x3_9).size)).size ≤ 9223372036854775807 then (some ((⟨#[45]⟩ : ByteArray) ++ ((((t147 ++ x3_9).extract 0 ((ji20) : Int).toNat) ++ (⟨#[46]⟩ : ByteArray)) ++ ((t147 ++ x3_9).extract ((ji20) : Int).toNat (t147 ++ x3_9).size)))) else (none)) = some r := by rw [if_pos rfl] at H; exact H
                          clear H
                          have H := H1
                          clear H1
                          by_cases c28 : 1 + ((((t147 ++ x3_9).extract 0 ((ji20) : Int).toNat) ++ (⟨#[46]⟩ : ByteArray)) ++ ((t147 ++ x3_9).extract ((ji20) : Int).toNat (t147 ++ x3_9).size)).size ≤ 9223372036854775807
                          · rw [if_pos c28] at H
                            have c28b0 := eq_true c28
                            have c28b1 : decide (1 + ((((t147 ++ x3_9).extract 0 ((ji20) : Int).toNat) ++ (⟨#[46]⟩ : ByteArray)) ++ ((t147 ++ x3_9).extract ((ji20) : Int).toNat (t147 ++ x3_9).size)).size ≤ 9223372036854775807) = true := decide_eq_true c28
                            try have c28b2 : (9223372036854775807 < 1 + ((((t147 ++ x3_9).extract 0 ((ji20) : Int).toNat) ++ (⟨#[46]⟩ : ByteArray)) ++ ((t147 ++ x3_9).extract ((ji20) : Int).toNat (t147 ++ x3_9).size)).size) = False := eq_false (Nat.not_lt.2 c28)
                            obtain rfl := Option.some.inj H
                            have hcz29_0 : wc.cell? ⟨gb144, 0, none⟩ = some (.bool true) := (blk_cell BK144.out 0).trans rfl
                            have hcz29_1 : wc.cell? ⟨gb144, 1, none⟩ = some (.slice A0_1 l0_1.length c0_1) := (blk_cell BK144.out 1).trans rfl
                            have hcz29_2 : wc.cell? ⟨gb144, 2, none⟩ = some (.int .i64 a0_2) := (blk_cell BK144.out 2).trans rfl
                            have hfz29_0 := blk_frozen BK144.out 0
                            have hfz29_1 := blk_frozen BK144.out 1
                            have hfz29_2 := blk_frozen BK144.out 2
                            go_wp2_with (first | (go_at_call 45; (with_reducible refine (spec_zeros.calls kj9 (wrap64 ((wrap64 ((wrap64 (-a0_2)) - (x3_9.size : Int))) + 1)) t147 _ A18.out).mono ?_); rintro e w30 ⟨rfl, hb⟩; have n0_ := Aside0.mk (blk_below (g := gb144) (o := .cells #[.bool true, .slice A0_1 l0_1.length c0_1, .int .i64 a0_2] 40 (0, 0)) (by (with_reducible repeat (first | refine blk_drewN ?_ _ | refine blk_drew ?_ | refine blk_alloc ?_ _)); exact BK144.out) hb); have n1_ := Aside0.mk (below_step (by repeat (first | (with_reducible first | exact HB.out | apply below_alloc | apply pw_below_drewN | apply below_drew1 | refine below_set ?_ GE144.out) | exact HB.out)) hb); clear BK144; clear HB; have BK144 := n0_; have HB := n1_; clear n0_ n1_; (try clear hb); (try clear hb2); (try clear hk); (try clear hi); have hcz31_0 : w30.cell? ⟨gb144, 0, none⟩ = some (.bool true) := (blk_cell BK144.out 0).trans rfl; have hcz31_1 : w30.cell? ⟨gb144, 1, none⟩ = some (.slice A0_1 l0_1.length c0_1) := (blk_cell BK144.out 1).trans rfl; have hcz31_2 : w30.cell? ⟨gb144, 2, none⟩ = some (.int .i64 a0_2) := (blk_cell BK144.out 2).trans rfl; have hfz31_0 := blk_frozen BK144.out 0; have hfz31_1 := blk_frozen BK144.out 1; have hfz31_2 := blk_frozen BK144.out 2))
                            (try (generalize hy_ : t147 ++ x3_9 = y_ at *))
                            have hJ_ : ji20.toNat ≤ y_.size := by (have hc_ := of_decide_eq_true c22b1; omega)
                            have e46_ : (⟨#[46]⟩ : ByteArray).size = 1 := rfl
                            try (have pc23b2 := c23b2; simp only [ByteArray.size_extract, ByteArray.size_append, Nat.sub_zero, Nat.min_self, Nat.min_eq_left hJ_, e46_] at pc23b2)
                            try (have pc26b2 := c26b2; simp only [ByteArray.size_extract, ByteArray.size_append, Nat.sub_zero, Nat.min_self, Nat.min_eq_left hJ_, e46_] at pc26b2)
                            try (have pc28b2 := c28b2; simp only [ByteArray.size_extract, ByteArray.size_append, Nat.sub_zero, Nat.min_self, Nat.min_eq_left hJ_, e46_] at pc28b2)
                            repeat (go_quiet (first | (go_at_call 45; (with_reducible refine (spec_zeros.calls kj9 (wrap64 ((wrap64 ((wrap64 (-a0_2)) - (x3_9.size : Int))) + 1)) t147 _ A18.out).mono ?_); rintro e w30 ⟨rfl, hb⟩; have n0_ := Aside0.mk (blk_below (g := gb144) (o := .cells #[.bool true, .slice A0_1 l0_1.length c0_1, .int .i64 a0_2] 40 (0, 0)) (by (with_reducible repeat (first | refine blk_drewN ?_ _ | refine blk_drew ?_ | refine blk_alloc ?_ _)); exact BK144.out) hb); have n1_ := Aside0.mk (below_step (by repeat (first | (with_reducible first | exact HB.out | apply below_alloc | apply pw_below_drewN | apply below_drew1 | refine below_set ?_ GE144.out) | exact HB.out)) hb); clear BK144; clear HB; have BK144 := n0_; have HB := n1_; clear n0_ n1_; (try clear hb); (try clear hb2); (try clear hk); (try clear hi); have hcz31_0 : w30.cell? ⟨gb144, 0, none⟩ = some (.bool true) := (blk_cell BK144.out 0).trans rfl; have hcz31_1 : w30.cell? ⟨gb144, 1, none⟩ = some (.slice A0_1 l0_1.length c0_1) := (blk_cell BK144.out 1).trans rfl; have hcz31_2 : w30.cell? ⟨gb144, 2, none⟩ = some (.int .i64 a0_2) := (blk_cell BK144.out 2).trans rfl; have hfz31_0 := blk_frozen BK144.out 0; have hfz31_1 := blk_frozen BK144.out 1; have hfz31_2 := blk_frozen BK144.out 2)); try go_wp2_with (first | (go_at_call 45; (with_reducible refine (spec_zeros.calls kj9 (wrap64 ((wrap64 ((wrap64 (-a0_2)) - (x3_9.size : Int))) + 1)) t147 _ A18.out).mono ?_); rintro e w30 ⟨rfl, hb⟩; have n0_ := Aside0.mk (blk_below (g := gb144) (o := .cells #[.bool true, .slice A0_1 l0_1.length c0_1, .int .i64 a0_2] 40 (0, 0)) (by (with_reducible repeat (first | refine blk_drewN ?_ _ | refine blk_drew ?_ | refine blk_alloc ?_ _)); exact BK144.out) hb); have n1_ := Aside0.mk (below_step (by repeat (first | (with_reducible first | exact HB.out | apply below_alloc | apply pw_below_drewN | apply below_drew1 | refine below_set ?_ GE144.out) | exact HB.out)) hb); clear BK144; clear HB; have BK144 := n0_; have HB := n1_; clear n0_ n1_; (try clear hb); (try clear hb2); (try clear hk); (try clear hi); have hcz31_0 : w30.cell? ⟨gb144, 0, none⟩ = some (.bool true) := (blk_cell BK144.out 0).trans rfl; have hcz31_1 : w30.cell? ⟨gb144, 1, none⟩ = some (.slice A0_1 l0_1.length c0_1) := (blk_cell BK144.out 1).trans rfl; have hcz31_2 : w30.cell? ⟨gb144, 2, none⟩ = some (.int .i64 a0_2) := (blk_cell BK144.out 2).trans rfl; have hfz31_0 := blk_frozen BK144.out 0; have hfz31_1 := blk_frozen BK144.out 1; have hfz31_2 := blk_frozen BK144.out 2)))
                            try subst hy_
                            go_ret
                            exact ⟨by first | rfl | (simp [errW_none, errW_some] <;> rfl) | (simp only [← hji20]; first | rfl | (simp [errW_none, errW_some] <;> rfl)) | (simp [*, errW_none, errW_some] <;> rfl), by repeat (first | (with_reducible first | exact HB.out | apply below_alloc | apply pw_below_drewN | apply below_drew1 | refine below_set ?_ GE144.out) | exact HB.out)⟩
                          · rw [if_neg c28] at H
                            exact absurd H (by simp)
                        · replace c27 := Bool.eq_false_iff.mpr c27
                          subst c27
                          have H1 : (some ((((t147 ++ x3_9).extract 0 ((ji20) : Int).toNat) ++ (⟨#[46]⟩ : ByteArray)) ++ ((t147 ++ x3_9).extract ((ji20) : Int).toNat (t147 ++ x3_9).size))) = some r := by rw [if_neg (show ¬ (false = true) by decide)] at H; exact H
                          clear H
                          have H := H1
                          clear H1
                          obtain rfl := Option.some.inj H
                          have hcz32_0 : wc.cell? ⟨gb144, 0, none⟩ = some (.bool false) := (blk_cell BK144.out 0).trans rfl
                          have hcz32_1 : wc.cell? ⟨gb144, 1, none⟩ = some (.slice A0_1 l0_1.length c0_1) := (blk_cell BK144.out 1).trans rfl
                          have hcz32_2 : wc.cell? ⟨gb144, 2, none⟩ = some (.int .i64 a0_2) := (blk_cell BK144.out 2).trans rfl
                          have hfz32_0 := blk_frozen BK144.out 0
                          have hfz32_1 := blk_frozen BK144.out 1
                          have hfz32_2 := blk_frozen BK144.out 2
                          go_wp2_with (first | (go_at_call 45; (with_reducible refine (spec_zeros.calls kj9 (wrap64 ((wrap64 ((wrap64 (-a0_2)) - (x3_9.size : Int))) + 1)) t147 _ A18.out).mono ?_); rintro e w33 ⟨rfl, hb⟩; have n0_ := Aside0.mk (blk_below (g := gb144) (o := .cells #[.bool false, .slice A0_1 l0_1.length c0_1, .int .i64 a0_2] 40 (0, 0)) (by (with_reducible repeat (first | refine blk_drewN ?_ _ | refine blk_drew ?_ | refine blk_alloc ?_ _)); exact BK144.out) hb); have n1_ := Aside0.mk (below_step (by repeat (first | (with_reducible first | exact HB.out | apply below_alloc | apply pw_below_drewN | apply below_drew1 | refine below_set ?_ GE144.out) | exact HB.out)) hb); clear BK144; clear HB; have BK144 := n0_; have HB := n1_; clear n0_ n1_; (try clear hb); (try clear hb2); (try clear hk); (try clear hi); have hcz34_0 : w33.cell? ⟨gb144, 0, none⟩ = some (.bool false) := (blk_cell BK144.out 0).trans rfl; have hcz34_1 : w33.cell? ⟨gb144, 1, none⟩ = some (.slice A0_1 l0_1.length c0_1) := (blk_cell BK144.out 1).trans rfl; have hcz34_2 : w33.cell? ⟨gb144, 2, none⟩ = some (.int .i64 a0_2) := (blk_cell BK144.out 2).trans rfl; have hfz34_0 := blk_frozen BK144.out 0; have hfz34_1 := blk_frozen BK144.out 1; have hfz34_2 := blk_frozen BK144.out 2))
                          (try (generalize hy_ : t147 ++ x3_9 = y_ at *))
                          have hJ_ : ji20.toNat ≤ y_.size := by (have hc_ := of_decide_eq_true c22b1; omega)
                          have e46_ : (⟨#[46]⟩ : ByteArray).size = 1 := rfl
                          try (have pc23b2 := c23b2; simp only [ByteArray.size_extract, ByteArray.size_append, Nat.sub_zero, Nat.min_self, Nat.min_eq_left hJ_, e46_] at pc23b2)
                          try (have pc26b2 := c26b2; simp only [ByteArray.size_extract, ByteArray.size_append, Nat.sub_zero, Nat.min_self, Nat.min_eq_left hJ_, e46_] at pc26b2)
                          try (have pc28b2 := c28b2; simp only [ByteArray.size_extract, ByteArray.size_append, Nat.sub_zero, Nat.min_self, Nat.min_eq_left hJ_, e46_] at pc28b2)
                          repeat (go_quiet (first | (go_at_call 45; (with_reducible refine (spec_zeros.calls kj9 (wrap64 ((wrap64 ((wrap64 (-a0_2)) - (x3_9.size : Int))) + 1)) t147 _ A18.out).mono ?_); rintro e w33 ⟨rfl, hb⟩; have n0_ := Aside0.mk (blk_below (g := gb144) (o := .cells #[.bool false, .slice A0_1 l0_1.length c0_1, .int .i64 a0_2] 40 (0, 0)) (by (with_reducible repeat (first | refine blk_drewN ?_ _ | refine blk_drew ?_ | refine blk_alloc ?_ _)); exact BK144.out) hb); have n1_ := Aside0.mk (below_step (by repeat (first | (with_reducible first | exact HB.out | apply below_alloc | apply pw_below_drewN | apply below_drew1 | refine below_set ?_ GE144.out) | exact HB.out)) hb); clear BK144; clear HB; have BK144 := n0_; have HB := n1_; clear n0_ n1_; (try clear hb); (try clear hb2); (try clear hk); (try clear hi); have hcz34_0 : w33.cell? ⟨gb144, 0, none⟩ = some (.bool false) := (blk_cell BK144.out 0).trans rfl; have hcz34_1 : w33.cell? ⟨gb144, 1, none⟩ = some (.slice A0_1 l0_1.length c0_1) := (blk_cell BK144.out 1).trans rfl; have hcz34_2 : w33.cell? ⟨gb144, 2, none⟩ = some (.int .i64 a0_2) := (blk_cell BK144.out 2).trans rfl; have hfz34_0 := blk_frozen BK144.out 0; have hfz34_1 := blk_frozen BK144.out 1; have hfz34_2 := blk_frozen BK144.out 2)); try go_wp2_with (first | (go_at_call 45; (with_reducible refine (spec_zeros.calls kj9 (wrap64 ((wrap64 ((wrap64 (-a0_2)) - (x3_9.size : Int))) + 1)) t147 _ A18.out).mono ?_); rintro e w33 ⟨rfl, hb⟩; have n0_ := Aside0.mk (blk_below (g := gb144) (o := .cells #[.bool false, .slice A0_1 l0_1.length c0_1, .int .i64 a0_2] 40 (0, 0)) (by (with_reducible repeat (first | refine blk_drewN ?_ _ | refine blk_drew ?_ | refine blk_alloc ?_ _)); exact BK144.out) hb); have n1_ := Aside0.mk (below_step (by repeat (first | (with_reducible first | exact HB.out | apply below_alloc | apply pw_below_drewN | apply below_drew1 | refine below_set ?_ GE144.out) | exact HB.out)) hb); clear BK144; clear HB; have BK144 := n0_; have HB := n1_; clear n0_ n1_; (try clear hb); (try clear hb2); (try clear hk); (try clear hi); have hcz34_0 : w33.cell? ⟨gb144, 0, none⟩ = some (.bool false) := (blk_cell BK144.out 0).trans rfl; have hcz34_1 : w33.cell? ⟨gb144, 1, none⟩ = some (.slice A0_1 l0_1.length c0_1) := (blk_cell BK144.out 1).trans rfl; have hcz34_2 : w33.cell? ⟨gb144, 2, none⟩ = some (.int .i64 a0_2) := (blk_cell BK144.out 2).trans rfl; have hfz34_0 := blk_frozen BK144.out 0; have hfz34_1 := blk_frozen BK144.out 1; have hfz34_2 := blk_frozen BK144.out 2)))
                          try subst hy_
                          go_ret
                          exact ⟨by first | rfl | (simp [errW_none, errW_some] <;> rfl) | (simp only [← hji20]; first | rfl | (simp [errW_none, errW_some] <;> rfl)) | (simp [*, errW_none, errW_some] <;> rfl), by repeat (first | (with_reducible first | exact HB.out | apply below_alloc | apply pw_below_drewN | apply below_drew1 | refine below_set ?_ GE144.out) | exact HB.out)⟩
                      · rw [if_neg c26] at H
                        exact absurd H (by simp)
                    · rw [if_neg c23] at H
                      exact absurd H (by simp)
                  · rw [if_neg c22] at H
                    exact absurd H (by simp)
                · rw [if_neg c21] at H
                  exact absurd H (by simp)
              · rw [if_neg c19] at H
                exact absurd H (by simp)
            · rw [if_neg c17] at H
              have c17b0 : decide ((x3_9.size : Int) ≤ (wrap64 (-a0_2))) = false := decide_eq_false c17
              clear c17
              obtain ⟨ji35, hji35⟩ : ∃ j_ : Int, (wrap64 ((x3_9.size : Int) + a0_2)) = j_ := ⟨_, rfl⟩
              replace H : (if 0 ≤ (ji35) then (if (ji35) ≤ (x3_9.size : Int) then (if (x3_9.extract 0 ((ji35) : Int).toNat).size + 1 ≤ 9223372036854775807 then (if ((x3_9.extract 0 ((ji35) : Int).toNat) ++ (⟨#[46]⟩ : ByteArray)).size + (x3_9.extract ((ji35) : Int).toNat x3_9.size).size ≤ 9223372036854775807 then (if a0_0 = true then (if 1 + (((x3_9.extract 0 ((ji35) : Int).toNat) ++ (⟨#[46]⟩ : ByteArray)) ++ (x3_9.extract ((ji35) : Int).toNat x3_9.size)).size ≤ 9223372036854775807 then (some ((⟨#[45]⟩ : ByteArray) ++ (((x3_9.extract 0 ((ji35) : Int).toNat) ++ (⟨#[46]⟩ : ByteArray)) ++ (x3_9.extract ((ji35) : Int).toNat x3_9.size)))) else (none)) else (some (((x3_9.extract 0 ((ji35) : Int).toNat) ++ (⟨#[46]⟩ : ByteArray)) ++ (x3_9.extract ((ji35) : Int).toNat x3_9.size)))) else (none)) else (none)) else (none)) else (none)) = some r := by first | (rw [hji35] at H; exact H) | (simp only [hji35] at H ⊢; exact H)
              have hji35w : (IntKind.i64.wrap ((x3_9.size : Int) + a0_2)) = ji35 := (i64_w _).trans hji35
              by_cases c36 : 0 ≤ (ji35)
              · rw [if_pos c36] at H
                have c36b0 := eq_true c36
                have c36b1 : decide (0 ≤ (ji35)) = true := decide_eq_true c36
                clear c36
                by_cases c37 : (ji35) ≤ (x3_9.size : Int)
                · rw [if_pos c37] at H
                  have c37b0 := eq_true c37
                  have c37b1 : decide ((ji35) ≤ (x3_9.size : Int)) = true := decide_eq_true c37
                  clear c37
                  by_cases c38 : (x3_9.extract 0 ((ji35) : Int).toNat).size + 1 ≤ 9223372036854775807
                  · rw [if_pos c38] at H
                    have c38b0 := eq_true c38
                    have c38b1 : decide ((x3_9.extract 0 ((ji35) : Int).toNat).size + 1 ≤ 9223372036854775807) = true := decide_eq_true c38
                    try have c38b2 : (9223372036854775807 < (x3_9.extract 0 ((ji35) : Int).toNat).size + 1) = False := eq_false (Nat.not_lt.2 c38)
                    have c39b0 := eq_true (of_decide_eq_true (by first | (with_reducible assumption) | assumption) : 0 ≤ (ji35))
                    have c40b0 := eq_true (of_decide_eq_true (by first | (with_reducible assumption) | assumption) : (ji35) ≤ (x3_9.size : Int))
                    by_cases c41 : ((x3_9.extract 0 ((ji35) : Int).toNat) ++ (⟨#[46]⟩ : ByteArray)).size + (x3_9.extract ((ji35) : Int).toNat x3_9.size).size ≤ 9223372036854775807
                    · rw [if_pos c41] at H
                      have c41b0 := eq_true c41
                      have c41b1 : decide (((x3_9.extract 0 ((ji35) : Int).toNat) ++ (⟨#[46]⟩ : ByteArray)).size + (x3_9.extract ((ji35) : Int).toNat x3_9.size).size ≤ 9223372036854775807) = true := decide_eq_true c41
                      try have c41b2 : (9223372036854775807 < ((x3_9.extract 0 ((ji35) : Int).toNat) ++ (⟨#[46]⟩ : ByteArray)).size + (x3_9.extract ((ji35) : Int).toNat x3_9.size).size) = False := eq_false (Nat.not_lt.2 c41)
                      by_cases c42 : a0_0 = true
                      · subst c42
                        have H1 : (if 1 + (((x3_9.extract 0 ((ji35) : Int).toNat) ++ (⟨#[46]⟩ : ByteArray)) ++ (x3_9.extract ((ji35) : Int).toNat x3_9.size)).size ≤ 9223372036854775807 then (some ((⟨#[45]⟩ : ByteArray) ++ (((x3_9.extract 0 ((ji35) : Int).toNat) ++ (⟨#[46]⟩ : ByteArray)) ++ (x3_9.extract ((ji35) : Int).toNat x3_9.size)))) else (none)) = some r := by rw [if_pos rfl] at H; exact H
                        clear H
                        have H := H1
                        clear H1
                        by_cases c43 : 1 + (((x3_9.extract 0 ((ji35) : Int).toNat) ++ (⟨#[46]⟩ : ByteArray)) ++ (x3_9.extract ((ji35) : Int).toNat x3_9.size)).size ≤ 9223372036854775807
                        · rw [if_pos c43] at H
                          have c43b0 := eq_true c43
                          have c43b1 : decide (1 + (((x3_9.extract 0 ((ji35) : Int).toNat) ++ (⟨#[46]⟩ : ByteArray)) ++ (x3_9.extract ((ji35) : Int).toNat x3_9.size)).size ≤ 9223372036854775807) = true := decide_eq_true c43
                          try have c43b2 : (9223372036854775807 < 1 + (((x3_9.extract 0 ((ji35) : Int).toNat) ++ (⟨#[46]⟩ : ByteArray)) ++ (x3_9.extract ((ji35) : Int).toNat x3_9.size)).size) = False := eq_false (Nat.not_lt.2 c43)
                          obtain rfl := Option.some.inj H
                          have hcz44_0 : wc.cell? ⟨gb144, 0, none⟩ = some (.bool true) := (blk_cell BK144.out 0).trans rfl
                          have hcz44_1 : wc.cell? ⟨gb144, 1, none⟩ = some (.slice A0_1 l0_1.length c0_1) := (blk_cell BK144.out 1).trans rfl
                          have hcz44_2 : wc.cell? ⟨gb144, 2, none⟩ = some (.int .i64 a0_2) := (blk_cell BK144.out 2).trans rfl
                          have hfz44_0 := blk_frozen BK144.out 0
                          have hfz44_1 := blk_frozen BK144.out 1
                          have hfz44_2 := blk_frozen BK144.out 2
                          go_wp2
                          have hJ_ : ji35.toNat ≤ x3_9.size := by (have hc_ := of_decide_eq_true c37b1; omega)
                          have e46_ : (⟨#[46]⟩ : ByteArray).size = 1 := rfl
                          try (have pc38b2 := c38b2; simp only [ByteArray.size_extract, ByteArray.size_append, Nat.sub_zero, Nat.min_self, Nat.min_eq_left hJ_, e46_] at pc38b2)
                          try (have pc41b2 := c41b2; simp only [ByteArray.size_extract, ByteArray.size_append, Nat.sub_zero, Nat.min_self, Nat.min_eq_left hJ_, e46_] at pc41b2)
                          try (have pc43b2 := c43b2; simp only [ByteArray.size_extract, ByteArray.size_append, Nat.sub_zero, Nat.min_self, Nat.min_eq_left hJ_, e46_] at pc43b2)
                          repeat (go_quiet (fail); try go_wp2)
                          go_ret
                          exact ⟨by first | rfl | (simp [errW_none, errW_some] <;> rfl) | (simp only [← hji35]; first | rfl | (simp [errW_none, errW_some] <;> rfl)) | (simp [*, errW_none, errW_some] <;> rfl), by repeat (first | (with_reducible first | exact HB.out | apply below_alloc | apply pw_below_drewN | apply below_drew1 | refine below_set ?_ GE144.out) | exact HB.out)⟩
                        · rw [if_neg c43] at H
                          exact absurd H (by simp)
                      · replace c42 := Bool.eq_false_iff.mpr c42
                        subst c42
                        have H1 : (some (((x3_9.extract 0 ((ji35) : Int).toNat) ++ (⟨#[46]⟩ : ByteArray)) ++ (x3_9.extract ((ji35) : Int).toNat x3_9.size))) = some r := by rw [if_neg (show ¬ (false = true) by decide)] at H; exact H
                        clear H
                        have H := H1
                        clear H1
                        obtain rfl := Option.some.inj H
                        have hcz45_0 : wc.cell? ⟨gb144, 0, none⟩ = some (.bool false) := (blk_cell BK144.out 0).trans rfl
                        have hcz45_1 : wc.cell? ⟨gb144, 1, none⟩ = some (.slice A0_1 l0_1.length c0_1) := (blk_cell BK144.out 1).trans rfl
                        have hcz45_2 : wc.cell? ⟨gb144, 2, none⟩ = some (.int .i64 a0_2) := (blk_cell BK144.out 2).trans rfl
                        have hfz45_0 := blk_frozen BK144.out 0
                        have hfz45_1 := blk_frozen BK144.out 1
                        have hfz45_2 := blk_frozen BK144.out 2
                        go_wp2
                        have hJ_ : ji35.toNat ≤ x3_9.size := by (have hc_ := of_decide_eq_true c37b1; omega)
                        have e46_ : (⟨#[46]⟩ : ByteArray).size = 1 := rfl
                        try (have pc38b2 := c38b2; simp only [ByteArray.size_extract, ByteArray.size_append, Nat.sub_zero, Nat.min_self, Nat.min_eq_left hJ_, e46_] at pc38b2)
                        try (have pc41b2 := c41b2; simp only [ByteArray.size_extract, ByteArray.size_append, Nat.sub_zero, Nat.min_self, Nat.min_eq_left hJ_, e46_] at pc41b2)
                        try (have pc43b2 := c43b2; simp only [ByteArray.size_extract, ByteArray.size_append, Nat.sub_zero, Nat.min_self, Nat.min_eq_left hJ_, e46_] at pc43b2)
                        repeat (go_quiet (fail); try go_wp2)
                        go_ret
                        exact ⟨by first | rfl | (simp [errW_none, errW_some] <;> rfl) | (simp only [← hji35]; first | rfl | (simp [errW_none, errW_some] <;> rfl)) | (simp [*, errW_none, errW_some] <;> rfl), by repeat (first | (with_reducible first | exact HB.out | apply below_alloc | apply pw_below_drewN | apply below_drew1 | refine below_set ?_ GE144.out) | exact HB.out)⟩
                    · rw [if_neg c41] at H
                      exact absurd H (by simp)
                  · rw [if_neg c38] at H
                    exact absurd H (by simp)
                · rw [if_neg c37] at H
                  exact absurd H (by simp)
              · rw [if_neg c36] at H
                exact absurd H (by simp)
          · rw [if_neg c16] at H
            have c16b0 : decide (a0_2 < 0) = false := decide_eq_false c16
            clear c16
            by_cases c46 : a0_0 = true
            · subst c46
              have H1 : (if 1 + x3_9.size ≤ 9223372036854775807 then (some ((⟨#[45]⟩ : ByteArray) ++ x3_9)) else (none)) = some r := by rw [if_pos rfl] at H; exact H
              clear H
              have H := H1
              clear H1
              by_cases c47 : 1 + x3_9.size ≤ 9223372036854775807
              · rw [if_pos c47] at H
                have c47b0 := eq_true c47
                have c47b1 : decide (1 + x3_9.size ≤ 9223372036854775807) = true := decide_eq_true c47
                try have c47b2 : (9223372036854775807 < 1 + x3_9.size) = False := eq_false (Nat.not_lt.2 c47)
                obtain rfl := Option.some.inj H
                have hcz48_0 : wc.cell? ⟨gb144, 0, none⟩ = some (.bool true) := (blk_cell BK144.out 0).trans rfl
                have hcz48_1 : wc.cell? ⟨gb144, 1, none⟩ = some (.slice A0_1 l0_1.length c0_1) := (blk_cell BK144.out 1).trans rfl
                have hcz48_2 : wc.cell? ⟨gb144, 2, none⟩ = some (.int .i64 a0_2) := (blk_cell BK144.out 2).trans rfl
                have hfz48_0 := blk_frozen BK144.out 0
                have hfz48_1 := blk_frozen BK144.out 1
                have hfz48_2 := blk_frozen BK144.out 2
                go_wp2
                repeat (go_quiet (fail); try go_wp2)
                go_ret
                exact ⟨by first | rfl | (simp [errW_none, errW_some] <;> rfl) | (simp [*, errW_none, errW_some] <;> rfl), by repeat (first | (with_reducible first | exact HB.out | apply below_alloc | apply pw_below_drewN | apply below_drew1 | refine below_set ?_ GE144.out) | exact HB.out)⟩
              · rw [if_neg c47] at H
                exact absurd H (by simp)
            · replace c46 := Bool.eq_false_iff.mpr c46
              subst c46
              have H1 : (some x3_9) = some r := by rw [if_neg (show ¬ (false = true) by decide)] at H; exact H
              clear H
              have H := H1
              clear H1
              obtain rfl := Option.some.inj H
              have hcz49_0 : wc.cell? ⟨gb144, 0, none⟩ = some (.bool false) := (blk_cell BK144.out 0).trans rfl
              have hcz49_1 : wc.cell? ⟨gb144, 1, none⟩ = some (.slice A0_1 l0_1.length c0_1) := (blk_cell BK144.out 1).trans rfl
              have hcz49_2 : wc.cell? ⟨gb144, 2, none⟩ = some (.int .i64 a0_2) := (blk_cell BK144.out 2).trans rfl
              have hfz49_0 := blk_frozen BK144.out 0
              have hfz49_1 := blk_frozen BK144.out 1
              have hfz49_2 := blk_frozen BK144.out 2
              go_wp2
              repeat (go_quiet (fail); try go_wp2)
              go_ret
              exact ⟨by first | rfl | (simp [errW_none, errW_some] <;> rfl) | (simp [*, errW_none, errW_some] <;> rfl), by repeat (first | (with_reducible first | exact HB.out | apply below_alloc | apply pw_below_drewN | apply below_drew1 | refine below_set ?_ GE144.out) | exact HB.out)⟩

-- NOT PRINTED: function 6 (laws_FnFixText)


end Go.Proofs.YtcgdphciepdkiaaDoor.S
