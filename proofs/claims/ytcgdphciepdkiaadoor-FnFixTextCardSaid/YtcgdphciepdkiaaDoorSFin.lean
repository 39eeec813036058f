/- CONTRACTS of struct:34, govalues_Decimal_IsNeg, govalues_Decimal_Coef, govalues_Decimal_Scale, govalues_newUnsafe, govalues_fint_isOdd, govalues_fint_mul, spec_FixIs, laws_gvMost: each as the plain function beside it. (Began as print.sh's text for this seat; the turns are those of wip/tools/split.py.) -/
import Derived.Test.YtcgdphciepdkiaaDoorS0
namespace Go.Proofs.YtcgdphciepdkiaaDoor.S
open Go.RowKit Go.Proofs.YtcgdphciepdkiaaDoorW.PrintWords Go.Proofs.YtcgdphciepdkiaaDoorW.PrintLast Go.Proofs.YtcgdphciepdkiaaDoorW.PrintMore
attribute [local go_sem] max2_int min2_int max_two min_two max_three min_three max_four min_four   -- for this text's walks alone
set_option linter.unusedVariables false
set_option linter.unusedSimpArgs false

/-! #### struct type 34 -/
structure S34 where
  f0 : Bool
  f1 : Int
  f2 : Int
def z34 : S34 := ⟨false, (0 : Int), (0 : Int)⟩
def k34 : Kd S34 := Kd.iso (Kd.pair Kd.bool (Kd.pair (Kd.int .u64) (Kd.int .i64))) (fun x : S34 => (x.f0, x.f1, x.f2))
theorem k34_heap : Kd.Heap k34 := Kd.heap_iso _ (Kd.heap_pair Kd.heap_bool (Kd.heap_pair (Kd.heap_int .u64) (Kd.heap_int .i64)))
theorem k34_open {w : World} {x : S34} {cs : List Value} (h : k34.K w x cs) : cs = [.bool x.f0, .int .u64 x.f1, .int .i64 x.f2] := by
  obtain ⟨_, _, rfl, rfl, ⟨_, _, rfl, rfl, rfl⟩⟩ := h
  exact rfl
theorem k34_openM {w : World} {base : Nat} {ok : Nat → Prop} {x : S34} {cs : List Value} (h : k34.M w base ok x cs) : cs = [.bool x.f0, .int .u64 x.f1, .int .i64 x.f2] := by
  obtain ⟨_, _, rfl, rfl, ⟨_, _, rfl, rfl, rfl⟩⟩ := h
  exact rfl
theorem k34_mk (w : World) (x : S34)  : k34.K w x [.bool x.f0, .int .u64 x.f1, .int .i64 x.f2] := ⟨[.bool x.f0], [.int .u64 x.f1, .int .i64 x.f2], rfl, rfl, ⟨[.int .u64 x.f1], [.int .i64 x.f2], rfl, rfl, rfl⟩⟩
theorem k34_mkM (w : World) (base : Nat) (ok : Nat → Prop) (x : S34)  : k34.M w base ok x [.bool x.f0, .int .u64 x.f1, .int .i64 x.f2] := ⟨[.bool x.f0], [.int .u64 x.f1, .int .i64 x.f2], rfl, rfl, ⟨[.int .u64 x.f1], [.int .i64 x.f2], rfl, rfl, rfl⟩⟩
theorem k34_mkF (W : World) (ok : Nat → Prop) (x : S34) : Kd.FK k34 W ok x [.bool x.f0, .int .u64 x.f1, .int .i64 x.f2] := fun W2 _ => k34_mk W2 x
def rd_T34 (xs : List S34) (i : Int) : S34 := xs.getD i.toNat z34
theorem at_T34 {w : World} {A : Option Addr} {n : Nat} {xs : List S34} (h : Kd.C k34 w A n xs) (i : Int) (h0 : 0 ≤ i) (h1 : i < n) : ∃ ad , A = some ad ∧ w.cell? (ad.add (i.toNat * 3)) = some (.bool (rd_T34 xs i).f0) ∧ w.cell? ⟨(ad.add (i.toNat * 3)).block, (ad.add (i.toNat * 3)).off + 1, none⟩ = some (.int .u64 (rd_T34 xs i).f1) ∧ w.cell? ⟨(ad.add (i.toNat * 3)).block, (ad.add (i.toNat * 3)).off + 2, none⟩ = some (.int .i64 (rd_T34 xs i).f2) := by
  obtain ⟨ad, c, e, _, hK, hc0⟩ := Kd.C_get h z34 i h0 h1
  have hc : ∀ j u, c[j]? = some u → w.cell? (ad.add (i.toNat * 3 + j)) = some u := hc0
  obtain rfl := k34_open hK
  exact ⟨ad, e, hc 0 _ rfl, by rw [← add_field _ _ 1 (by omega)]; exact hc 1 _ rfl, by rw [← add_field _ _ 2 (by omega)]; exact hc 2 _ rfl⟩


/-! ### govalues_Decimal_IsNeg: function 55 -/
def govalues_Decimal_IsNeg.f (a0_0 : Bool) (a0_1 : Int) (a0_2 : Int) : Option (Bool) := some a0_0
set_option maxHeartbeats 8000000 in
set_option maxRecDepth 100000 in
theorem govalues_Decimal_IsNeg.calls (a0_0 : Bool) (a0_1 : Int) (a0_2 : Int) (r : Bool) (w : World) (h : govalues_Decimal_IsNeg.f a0_0 a0_1 a0_2 = some r) :
    Calls Tryd.prog 55 #[.agg #[.bool a0_0, .int .i8 a0_1, .int .u64 a0_2]] w fun e w' => e = .returned (.bool r) ∧ Below w.heap.size w w' := by
  have hu64 := Tryd.underlying64
  have HB := Aside0.mk (Below.refl w.heap.size w)
  have H : (some a0_0) = some r := h
  clear h
  obtain rfl := Option.some.inj H
  go_enter Tryd.func55, Tryd.ntmps55
  go_wp2_with (first | ((with_reducible refine gate_dst (N := 1) rfl ?_); refine box_event ?hg (N := 1) ?hd (cs := #[.bool a0_0, .int .i8 a0_1, .int .u64 a0_2]) (t := 64) ?hr ?_; (case hd => rfl); (case hg => rfl); (case hr => first | (go_simp; done) | (go_simp; rfl)); intro gb101 hg w2 hbox hb; have n0_ := Aside0.mk (below_step (by repeat (first | (with_reducible first | exact HB.out | apply below_alloc | apply pw_below_drewN | apply below_drew1) | exact HB.out)) hb); have n1_ := Aside0.mk (hbox); have n2_ := Aside0.mk ((by rw [hg]; exact (below_size (by repeat (first | (with_reducible first | exact HB.out | apply below_alloc | apply pw_below_drewN | apply below_drew1) | exact HB.out))) : w.heap.size ≤ gb101)); have n3_ := Aside0.mk ((by rw [hg]; exact (below_size (by repeat (first | (with_reducible first | exact HB.out | apply below_alloc | apply pw_below_drewN | apply below_drew1) | exact HB.out))) : w.heap.size ≤ gb101)); clear HB; have HB := n0_; have BK101 := n1_; have GW101 := n2_; have GE101 := n3_; clear n0_ n1_ n2_ n3_; clear hb hbox hg; have hcz3_0 : w2.cell? ⟨gb101, 0, none⟩ = some (.bool a0_0) := (blk_cell BK101.out 0).trans rfl; have hcz3_1 : w2.cell? ⟨gb101, 1, none⟩ = some (.int .i8 a0_1) := (blk_cell BK101.out 1).trans rfl; have hcz3_2 : w2.cell? ⟨gb101, 2, none⟩ = some (.int .u64 a0_2) := (blk_cell BK101.out 2).trans rfl; have hfz3_0 := blk_frozen BK101.out 0; have hfz3_1 := blk_frozen BK101.out 1; have hfz3_2 := blk_frozen BK101.out 2))
  go_ret
  exact ⟨by first | rfl | (simp [errW_none, errW_some] <;> rfl) | (simp [*, errW_none, errW_some] <;> rfl), by repeat (first | (with_reducible first | exact HB.out | apply below_alloc | apply pw_below_drewN | apply below_drew1 | refine below_set ?_ GE101.out) | exact HB.out)⟩


/-! ### govalues_Decimal_Coef: function 56 -/
def govalues_Decimal_Coef.f (a0_0 : Bool) (a0_1 : Int) (a0_2 : Int) : Option (Int) := some a0_2
set_option maxHeartbeats 8000000 in
set_option maxRecDepth 100000 in
theorem govalues_Decimal_Coef.calls (a0_0 : Bool) (a0_1 : Int) (a0_2 : Int) (r : Int) (w : World) (h : govalues_Decimal_Coef.f a0_0 a0_1 a0_2 = some r) :
    Calls Tryd.prog 56 #[.agg #[.bool a0_0, .int .i8 a0_1, .int .u64 a0_2]] w fun e w' => e = .returned (.int .u64 r) ∧ Below w.heap.size w w' := by
  have hu64 := Tryd.underlying64
  have HB := Aside0.mk (Below.refl w.heap.size w)
  have H : (some a0_2) = some r := h
  clear h
  obtain rfl := Option.some.inj H
  go_enter Tryd.func56, Tryd.ntmps56
  go_wp2_with (first | ((with_reducible refine gate_dst (N := 1) rfl ?_); refine box_event ?hg (N := 1) ?hd (cs := #[.bool a0_0, .int .i8 a0_1, .int .u64 a0_2]) (t := 64) ?hr ?_; (case hd => rfl); (case hg => rfl); (case hr => first | (go_simp; done) | (go_simp; rfl)); intro gb102 hg w2 hbox hb; have n0_ := Aside0.mk (below_step (by repeat (first | (with_reducible first | exact HB.out | apply below_alloc | apply pw_below_drewN | apply below_drew1) | exact HB.out)) hb); have n1_ := Aside0.mk (hbox); have n2_ := Aside0.mk ((by rw [hg]; exact (below_size (by repeat (first | (with_reducible first | exact HB.out | apply below_alloc | apply pw_below_drewN | apply below_drew1) | exact HB.out))) : w.heap.size ≤ gb102)); have n3_ := Aside0.mk ((by rw [hg]; exact (below_size (by repeat (first | (with_reducible first | exact HB.out | apply below_alloc | apply pw_below_drewN | apply below_drew1) | exact HB.out))) : w.heap.size ≤ gb102)); clear HB; have HB := n0_; have BK102 := n1_; have GW102 := n2_; have GE102 := n3_; clear n0_ n1_ n2_ n3_; clear hb hbox hg; have hcz3_0 : w2.cell? ⟨gb102, 0, none⟩ = some (.bool a0_0) := (blk_cell BK102.out 0).trans rfl; have hcz3_1 : w2.cell? ⟨gb102, 1, none⟩ = some (.int .i8 a0_1) := (blk_cell BK102.out 1).trans rfl; have hcz3_2 : w2.cell? ⟨gb102, 2, none⟩ = some (.int .u64 a0_2) := (blk_cell BK102.out 2).trans rfl; have hfz3_0 := blk_frozen BK102.out 0; have hfz3_1 := blk_frozen BK102.out 1; have hfz3_2 := blk_frozen BK102.out 2))
  go_ret
  exact ⟨by first | rfl | (simp [errW_none, errW_some] <;> rfl) | (simp [*, errW_none, errW_some] <;> rfl), by repeat (first | (with_reducible first | exact HB.out | apply below_alloc | apply pw_below_drewN | apply below_drew1 | refine below_set ?_ GE102.out) | exact HB.out)⟩


/-! ### govalues_Decimal_Scale: function 57 -/
def govalues_Decimal_Scale.f (a0_0 : Bool) (a0_1 : Int) (a0_2 : Int) : Option (Int) := some (wrap64 (a0_1))
set_option maxHeartbeats 8000000 in
set_option maxRecDepth 100000 in
theorem govalues_Decimal_Scale.calls (a0_0 : Bool) (a0_1 : Int) (a0_2 : Int) (r : Int) (w : World) (h : govalues_Decimal_Scale.f a0_0 a0_1 a0_2 = some r) :
    Calls Tryd.prog 57 #[.agg #[.bool a0_0, .int .i8 a0_1, .int .u64 a0_2]] w fun e w' => e = .returned (.int .i64 r) ∧ Below w.heap.size w w' := by
  have hu64 := Tryd.underlying64
  have HB := Aside0.mk (Below.refl w.heap.size w)
  have H : (some (wrap64 (a0_1))) = some r := h
  clear h
  obtain rfl := Option.some.inj H
  go_enter Tryd.func57, Tryd.ntmps57
  go_wp2_with (first | ((with_reducible refine gate_dst (N := 1) rfl ?_); refine box_event ?hg (N := 1) ?hd (cs := #[.bool a0_0, .int .i8 a0_1, .int .u64 a0_2]) (t := 64) ?hr ?_; (case hd => rfl); (case hg => rfl); (case hr => first | (go_simp; done) | (go_simp; rfl)); intro gb103 hg w2 hbox hb; have n0_ := Aside0.mk (below_step (by repeat (first | (with_reducible first | exact HB.out | apply below_alloc | apply pw_below_drewN | apply below_drew1) | exact HB.out)) hb); have n1_ := Aside0.mk (hbox); have n2_ := Aside0.mk ((by rw [hg]; exact (below_size (by repeat (first | (with_reducible first | exact HB.out | apply below_alloc | apply pw_below_drewN | apply below_drew1) | exact HB.out))) : w.heap.size ≤ gb103)); have n3_ := Aside0.mk ((by rw [hg]; exact (below_size (by repeat (first | (with_reducible first | exact HB.out | apply below_alloc | apply pw_below_drewN | apply below_drew1) | exact HB.out))) : w.heap.size ≤ gb103)); clear HB; have HB := n0_; have BK103 := n1_; have GW103 := n2_; have GE103 := n3_; clear n0_ n1_ n2_ n3_; clear hb hbox hg; have hcz3_0 : w2.cell? ⟨gb103, 0, none⟩ = some (.bool a0_0) := (blk_cell BK103.out 0).trans rfl; have hcz3_1 : w2.cell? ⟨gb103, 1, none⟩ = some (.int .i8 a0_1) := (blk_cell BK103.out 1).trans rfl; have hcz3_2 : w2.cell? ⟨gb103, 2, none⟩ = some (.int .u64 a0_2) := (blk_cell BK103.out 2).trans rfl; have hfz3_0 := blk_frozen BK103.out 0; have hfz3_1 := blk_frozen BK103.out 1; have hfz3_2 := blk_frozen BK103.out 2))
  go_ret
  exact ⟨by first | rfl | (simp [errW_none, errW_some] <;> rfl) | (simp [*, errW_none, errW_some] <;> rfl), by repeat (first | (with_reducible first | exact HB.out | apply below_alloc | apply pw_below_drewN | apply below_drew1 | refine below_set ?_ GE103.out) | exact HB.out)⟩


/-! ### govalues_newUnsafe: function 59 -/
def govalues_newUnsafe.f (a0 : Bool) (a1 : Int) (a2 : Int) : Option (Bool × Int × Int) := if a1 = 0 then (some (false, IntKind.i8.wrap (a2), a1)) else (some (a0, IntKind.i8.wrap (a2), a1))
set_option maxHeartbeats 8000000 in
set_option maxRecDepth 100000 in
theorem govalues_newUnsafe.calls (a0 : Bool) (a1 : Int) (a2 : Int) (r1 : Bool) (r2 : Int) (r3 : Int) (w : World) (h : govalues_newUnsafe.f a0 a1 a2 = some (r1, r2, r3)) :
    Calls Tryd.prog 59 #[.bool a0, .int .u64 a1, .int .i64 a2] w fun e w' => e = .returned (.agg #[.bool r1, .int .i8 r2, .int .u64 r3]) ∧ Below w.heap.size w w' := by
  have hu64 := Tryd.underlying64
  have HB := Aside0.mk (Below.refl w.heap.size w)
  have H : (if a1 = 0 then (some (false, IntKind.i8.wrap (a2), a1)) else (some (a0, IntKind.i8.wrap (a2), a1))) = some (r1, r2, r3) := h
  clear h
  by_cases c4 : a1 = 0
  · rw [if_pos c4] at H
    have c4b0 : (a1 == 0) = true := beq_iff_eq.mpr c4
    have c4b1 : (a1 != 0) = false := bne_eq_false_iff_eq.mpr c4
    clear c4
    simp only [Option.some.injEq, Prod.mk.injEq] at H
    obtain ⟨rfl, rfl, rfl⟩ := H
    go_enter Tryd.func59, Tryd.ntmps59
    go_wp2_with (first | ((with_reducible refine gate_dst (N := 6) rfl ?_); refine box_event ?hg (N := 6) ?hd (cs := #[.bool false, .int .i8 0, .int .u64 0]) (t := 64) ?hr ?_; (case hd => rfl); (case hg => rfl); (case hr => first | (go_simp; done) | (go_simp; rfl)); intro gb109 hg w5 hbox hb; have n0_ := Aside0.mk (below_step (by repeat (first | (with_reducible first | exact HB.out | apply below_alloc | apply pw_below_drewN | apply below_drew1) | exact HB.out)) hb); have n1_ := Aside0.mk (hbox); have n2_ := Aside0.mk ((by rw [hg]; exact (below_size (by repeat (first | (with_reducible first | exact HB.out | apply below_alloc | apply pw_below_drewN | apply below_drew1) | exact HB.out))) : w.heap.size ≤ gb109)); have n3_ := Aside0.mk ((by rw [hg]; exact (below_size (by repeat (first | (with_reducible first | exact HB.out | apply below_alloc | apply pw_below_drewN | apply below_drew1) | exact HB.out))) : w.heap.size ≤ gb109)); clear HB; have HB := n0_; have BK109 := n1_; have GW109 := n2_; have GE109 := n3_; clear n0_ n1_ n2_ n3_; clear hb hbox hg; have hcz6_0 : w5.cell? ⟨gb109, 0, none⟩ = some (.bool false) := (blk_cell BK109.out 0).trans rfl; have hcz6_1 : w5.cell? ⟨gb109, 1, none⟩ = some (.int .i8 0) := (blk_cell BK109.out 1).trans rfl; have hcz6_2 : w5.cell? ⟨gb109, 2, none⟩ = some (.int .u64 0) := (blk_cell BK109.out 2).trans rfl; have hfz6_0 := blk_frozen BK109.out 0; have hfz6_1 := blk_frozen BK109.out 1; have hfz6_2 := blk_frozen BK109.out 2))
    refine bodyPost_ret (results_cell_row rfl _ _ gb109 64 #[.bool false, .int .i8 (IntKind.i8.wrap (a2)), .int .u64 a1] (0, 0) _ rfl (by (with_reducible repeat (first | refine blk_drewN ?_ _ | refine blk_drew ?_ | refine blk_alloc ?_ _)); refine blk_put (cs := #[.bool false, .int .i8 (IntKind.i8.wrap (a2)), .int .u64 0]) ?_ 2 _ rfl; (with_reducible repeat (first | refine blk_drewN ?_ _ | refine blk_drew ?_ | refine blk_alloc ?_ _)); refine blk_put (cs := #[.bool false, .int .i8 0, .int .u64 0]) ?_ 1 _ rfl; (with_reducible repeat (first | refine blk_drewN ?_ _ | refine blk_drew ?_ | refine blk_alloc ?_ _)); refine blk_put (cs := #[.bool false, .int .i8 0, .int .u64 0]) ?_ 0 _ rfl; (with_reducible repeat (first | refine blk_drewN ?_ _ | refine blk_drew ?_ | refine blk_alloc ?_ _)); exact BK109.out) Tryd.underlying64 rfl (by kernel_rfl)) rfl ?_
    exact ⟨by first | rfl | (simp [errW_none, errW_some] <;> rfl) | (simp [*, errW_none, errW_some] <;> rfl), by repeat (first | (with_reducible first | exact HB.out | apply below_alloc | apply pw_below_drewN | apply below_drew1 | refine below_set ?_ GE109.out) | exact HB.out)⟩
  · rw [if_neg c4] at H
    have c4b0 : (a1 == 0) = false := beq_eq_false_iff_ne.mpr c4
    have c4b1 : (a1 != 0) = true := bne_iff_ne.mpr c4
    simp only [Option.some.injEq, Prod.mk.injEq] at H
    obtain ⟨rfl, rfl, rfl⟩ := H
    go_enter Tryd.func59, Tryd.ntmps59
    go_wp2_with (first | ((with_reducible refine gate_dst (N := 6) rfl ?_); refine box_event ?hg (N := 6) ?hd (cs := #[.bool false, .int .i8 0, .int .u64 0]) (t := 64) ?hr ?_; (case hd => rfl); (case hg => rfl); (case hr => first | (go_simp; done) | (go_simp; rfl)); intro gb109 hg w7 hbox hb; have n0_ := Aside0.mk (below_step (by repeat (first | (with_reducible first | exact HB.out | apply below_alloc | apply pw_below_drewN | apply below_drew1) | exact HB.out)) hb); have n1_ := Aside0.mk (hbox); have n2_ := Aside0.mk ((by rw [hg]; exact (below_size (by repeat (first | (with_reducible first | exact HB.out | apply below_alloc | apply pw_below_drewN | apply below_drew1) | exact HB.out))) : w.heap.size ≤ gb109)); have n3_ := Aside0.mk ((by rw [hg]; exact (below_size (by repeat (first | (with_reducible first | exact HB.out | apply below_alloc | apply pw_below_drewN | apply below_drew1) | exact HB.out))) : w.heap.size ≤ gb109)); clear HB; have HB := n0_; have BK109 := n1_; have GW109 := n2_; have GE109 := n3_; clear n0_ n1_ n2_ n3_; clear hb hbox hg; have hcz8_0 : w7.cell? ⟨gb109, 0, none⟩ = some (.bool false) := (blk_cell BK109.out 0).trans rfl; have hcz8_1 : w7.cell? ⟨gb109, 1, none⟩ = some (.int .i8 0) := (blk_cell BK109.out 1).trans rfl; have hcz8_2 : w7.cell? ⟨gb109, 2, none⟩ = some (.int .u64 0) := (blk_cell BK109.out 2).trans rfl; have hfz8_0 := blk_frozen BK109.out 0; have hfz8_1 := blk_frozen BK109.out 1; have hfz8_2 := blk_frozen BK109.out 2))
    refine bodyPost_ret (results_cell_row rfl _ _ gb109 64 #[.bool a0, .int .i8 (IntKind.i8.wrap (a2)), .int .u64 a1] (0, 0) _ rfl (by (with_reducible repeat (first | refine blk_drewN ?_ _ | refine blk_drew ?_ | refine blk_alloc ?_ _)); refine blk_put (cs := #[.bool a0, .int .i8 (IntKind.i8.wrap (a2)), .int .u64 0]) ?_ 2 _ rfl; (with_reducible repeat (first | refine blk_drewN ?_ _ | refine blk_drew ?_ | refine blk_alloc ?_ _)); refine blk_put (cs := #[.bool a0, .int .i8 0, .int .u64 0]) ?_ 1 _ rfl; (with_reducible repeat (first | refine blk_drewN ?_ _ | refine blk_drew ?_ | refine blk_alloc ?_ _)); refine blk_put (cs := #[.bool false, .int .i8 0, .int .u64 0]) ?_ 0 _ rfl; (with_reducible repeat (first | refine blk_drewN ?_ _ | refine blk_drew ?_ | refine blk_alloc ?_ _)); exact BK109.out) Tryd.underlying64 rfl (by kernel_rfl)) rfl ?_
    exact ⟨by first | rfl | (simp [errW_none, errW_some] <;> rfl) | (simp [*, errW_none, errW_some] <;> rfl), by repeat (first | (with_reducible first | exact HB.out | apply below_alloc | apply pw_below_drewN | apply below_drew1 | refine below_set ?_ GE109.out) | exact HB.out)⟩

-- NOT PRINTED: function 54 (govalues_newSafe)

-- NOT PRINTED: function 32 (govalues_ZzMake)

-- NOT PRINTED: function 37 (impl_fixed)


/-! ### govalues_fint_isOdd: function 70 -/
def govalues_fint_isOdd.f (a0 : Int) : Option (Bool) := some ((Go.bits .and .u64 a0 1) != 0)
set_option maxHeartbeats 8000000 in
set_option maxRecDepth 100000 in
theorem govalues_fint_isOdd.calls (a0 : Int) (r : Bool) (w : World) (h : govalues_fint_isOdd.f a0 = some r) :
    Calls Tryd.prog 70 #[.int .u64 a0] w fun e w' => e = .returned (.bool r) ∧ Drawn0 w w' := by
  have H : (some ((Go.bits .and .u64 a0 1) != 0)) = some r := h
  clear h
  obtain rfl := Option.some.inj H
  go_enter Tryd.func70, Tryd.ntmps70
  go_wp2
  go_ret
  exact ⟨by first | rfl | (simp; done) | (simp [*]; done), by repeat (first | exact Drawn0.refl _ | apply Drawn0.step)⟩

-- NOT PRINTED: function 58 (govalues_fint_rshHalfEven)

-- NOT PRINTED: function 38 (govalues_Decimal_Round)


/-! ### govalues_fint_mul: function 69 -/
def govalues_fint_mul.f (a0 : Int) (a1 : Int) : Option (Int × Bool) := if a1 = 0 then (some (0, true)) else (if (IntKind.u64.wrap (Int.tdiv (IntKind.u64.wrap (a0 * a1)) a1)) = a0 then (if (IntKind.u64.wrap (a0 * a1)) > 9999999999999999999 then (some (0, false)) else (some (IntKind.u64.wrap (a0 * a1), true))) else (some (0, false)))
set_option maxHeartbeats 8000000 in
set_option maxRecDepth 100000 in
theorem govalues_fint_mul.calls (a0 : Int) (a1 : Int) (r1 : Int) (r2 : Bool) (w : World) (h : govalues_fint_mul.f a0 a1 = some (r1, r2)) :
    Calls Tryd.prog 69 #[.int .u64 a0, .int .u64 a1] w fun e w' => e = .returned (.tuple #[.int .u64 r1, .bool r2]) ∧ Drawn0 w w' := by
  have H : (if a1 = 0 then (some (0, true)) else (if (IntKind.u64.wrap (Int.tdiv (IntKind.u64.wrap (a0 * a1)) a1)) = a0 then (if (IntKind.u64.wrap (a0 * a1)) > 9999999999999999999 then (some (0, false)) else (some (IntKind.u64.wrap (a0 * a1), true))) else (some (0, false)))) = some (r1, r2) := h
  clear h
  by_cases c3 : a1 = 0
  · rw [if_pos c3] at H
    have c3b0 : (a1 == 0) = true := beq_iff_eq.mpr c3
    have c3b1 : (a1 != 0) = false := bne_eq_false_iff_eq.mpr c3
    clear c3
    simp only [Option.some.injEq, Prod.mk.injEq] at H
    obtain ⟨rfl, rfl⟩ := H
    go_enter Tryd.func69, Tryd.ntmps69
    go_wp2
    go_ret2
    exact ⟨by first | rfl | (simp; done) | (simp [*]; done), by repeat (first | exact Drawn0.refl _ | apply Drawn0.step)⟩
  · rw [if_neg c3] at H
    have c3b0 : (a1 == 0) = false := beq_eq_false_iff_ne.mpr c3
    have c3b1 : (a1 != 0) = true := bne_iff_ne.mpr c3
    by_cases c4 : (IntKind.u64.wrap (Int.tdiv (IntKind.u64.wrap (a0 * a1)) a1)) = a0
    · rw [if_pos c4] at H
      have c4b0 : ((IntKind.u64.wrap (Int.tdiv (IntKind.u64.wrap (a0 * a1)) a1)) == a0) = true := beq_iff_eq.mpr c4
      have c4b1 : ((IntKind.u64.wrap (Int.tdiv (IntKind.u64.wrap (a0 * a1)) a1)) != a0) = false := bne_eq_false_iff_eq.mpr c4
      clear c4
      by_cases c5 : (IntKind.u64.wrap (a0 * a1)) > 9999999999999999999
      · rw [if_pos c5] at H
        have c5b0 : decide (9999999999999999999 < (IntKind.u64.wrap (a0 * a1))) = true := decide_eq_true c5
        clear c5
        simp only [Option.some.injEq, Prod.mk.injEq] at H
        obtain ⟨rfl, rfl⟩ := H
        go_enter Tryd.func69, Tryd.ntmps69
        go_wp2
        go_ret2
        exact ⟨by first | rfl | (simp; done) | (simp [*]; done), by repeat (first | exact Drawn0.refl _ | apply Drawn0.step)⟩
      · rw [if_neg c5] at H
        have c5b0 : decide (9999999999999999999 < (IntKind.u64.wrap (a0 * a1))) = false := decide_eq_false c5
        clear c5
        simp only [Option.some.injEq, Prod.mk.injEq] at H
        obtain ⟨rfl, rfl⟩ := H
        go_enter Tryd.func69, Tryd.ntmps69
        go_wp2
        go_ret2
        exact ⟨by first | rfl | (simp; done) | (simp [*]; done), by repeat (first | exact Drawn0.refl _ | apply Drawn0.step)⟩
    · rw [if_neg c4] at H
      have c4b0 : ((IntKind.u64.wrap (Int.tdiv (IntKind.u64.wrap (a0 * a1)) a1)) == a0) = false := beq_eq_false_iff_ne.mpr c4
      have c4b1 : ((IntKind.u64.wrap (Int.tdiv (IntKind.u64.wrap (a0 * a1)) a1)) != a0) = true := bne_iff_ne.mpr c4
      simp only [Option.some.injEq, Prod.mk.injEq] at H
      obtain ⟨rfl, rfl⟩ := H
      go_enter Tryd.func69, Tryd.ntmps69
      go_wp2
      go_ret2
      exact ⟨by first | rfl | (simp; done) | (simp [*]; done), by repeat (first | exact Drawn0.refl _ | apply Drawn0.step)⟩

-- NOT PRINTED: function 53 (govalues_fint_lsh)

-- NOT PRINTED: function 79 (govalues_fint_prec)

-- NOT PRINTED: function 78 (govalues_Decimal_Prec)

-- NOT PRINTED: function 75 (govalues_Decimal_Pad)

-- NOT PRINTED: function 67 (govalues_Decimal_Rescale)

-- NOT PRINTED: function 49 (govalues_Decimal_Quantize)

-- NOT PRINTED: function 24 (impl_FixQuantize)


/-! ### spec_FixIs: function 19 -/
def spec_FixIs.f (a0_0 : Bool) (a0_1 : Int) (a0_2 : Int) : Option (Bool) := if a0_1 ≤ 9999999999999999999 then (if a0_2 ≥ 0 then (some (decide (a0_2 ≤ 19))) else (some false)) else (some false)
set_option maxHeartbeats 8000000 in
set_option maxRecDepth 100000 in
theorem spec_FixIs.calls (a0_0 : Bool) (a0_1 : Int) (a0_2 : Int) (r : Bool) (w : World) (h : spec_FixIs.f a0_0 a0_1 a0_2 = some r) :
    Calls Tryd.prog 19 #[.agg #[.bool a0_0, .int .u64 a0_1, .int .i64 a0_2]] w fun e w' => e = .returned (.bool r) ∧ Below w.heap.size w w' := by
  have hu34 := Tryd.underlying34
  have HB := Aside0.mk (Below.refl w.heap.size w)
  have H : (if a0_1 ≤ 9999999999999999999 then (if a0_2 ≥ 0 then (some (decide (a0_2 ≤ 19))) else (some false)) else (some false)) = some r := h
  clear h
  by_cases c2 : a0_1 ≤ 9999999999999999999
  · rw [if_pos c2] at H
    have c2b0 : decide (a0_1 ≤ 9999999999999999999) = true := decide_eq_true c2
    clear c2
    by_cases c3 : a0_2 ≥ 0
    · rw [if_pos c3] at H
      have c3b0 : decide (0 ≤ a0_2) = true := decide_eq_true c3
      clear c3
      obtain rfl := Option.some.inj H
      go_enter Tryd.func19, Tryd.ntmps19
      go_wp2_with (first | ((with_reducible refine gate_dst (N := 1) rfl ?_); refine box_event ?hg (N := 1) ?hd (cs := #[.bool a0_0, .int .u64 a0_1, .int .i64 a0_2]) (t := 34) ?hr ?_; (case hd => rfl); (case hg => rfl); (case hr => first | (go_simp; done) | (go_simp; rfl)); intro gb131 hg w4 hbox hb; have n0_ := Aside0.mk (below_step (by repeat (first | (with_reducible first | exact HB.out | apply below_alloc | apply pw_below_drewN | apply below_drew1) | exact HB.out)) hb); have n1_ := Aside0.mk (hbox); have n2_ := Aside0.mk ((by rw [hg]; exact (below_size (by repeat (first | (with_reducible first | exact HB.out | apply below_alloc | apply pw_below_drewN | apply below_drew1) | exact HB.out))) : w.heap.size ≤ gb131)); have n3_ := Aside0.mk ((by rw [hg]; exact (below_size (by repeat (first | (with_reducible first | exact HB.out | apply below_alloc | apply pw_below_drewN | apply below_drew1) | exact HB.out))) : w.heap.size ≤ gb131)); clear HB; have HB := n0_; have BK131 := n1_; have GW131 := n2_; have GE131 := n3_; clear n0_ n1_ n2_ n3_; clear hb hbox hg; have hcz5_0 : w4.cell? ⟨gb131, 0, none⟩ = some (.bool a0_0) := (blk_cell BK131.out 0).trans rfl; have hcz5_1 : w4.cell? ⟨gb131, 1, none⟩ = some (.int .u64 a0_1) := (blk_cell BK131.out 1).trans rfl; have hcz5_2 : w4.cell? ⟨gb131, 2, none⟩ = some (.int .i64 a0_2) := (blk_cell BK131.out 2).trans rfl; have hfz5_0 := blk_frozen BK131.out 0; have hfz5_1 := blk_frozen BK131.out 1; have hfz5_2 := blk_frozen BK131.out 2))
      go_ret
      exact ⟨by first | rfl | (simp [errW_none, errW_some] <;> rfl) | (simp [*, errW_none, errW_some] <;> rfl), by repeat (first | (with_reducible first | exact HB.out | apply below_alloc | apply pw_below_drewN | apply below_drew1 | refine below_set ?_ GE131.out) | exact HB.out)⟩
    · rw [if_neg c3] at H
      have c3b0 : decide (0 ≤ a0_2) = false := decide_eq_false c3
      clear c3
      obtain rfl := Option.some.inj H
      go_enter Tryd.func19, Tryd.ntmps19
      go_wp2_with (first | ((with_reducible refine gate_dst (N := 1) rfl ?_); refine box_event ?hg (N := 1) ?hd (cs := #[.bool a0_0, .int .u64 a0_1, .int .i64 a0_2]) (t := 34) ?hr ?_; (case hd => rfl); (case hg => rfl); (case hr => first | (go_simp; done) | (go_simp; rfl)); intro gb131 hg w6 hbox hb; have n0_ := Aside0.mk (below_step (by repeat (first | (with_reducible first | exact HB.out | apply below_alloc | apply pw_below_drewN | apply below_drew1) | exact HB.out)) hb); have n1_ := Aside0.mk (hbox); have n2_ := Aside0.mk ((by rw [hg]; exact (below_size (by repeat (first | (with_reducible first | exact HB.out | apply below_alloc | apply pw_below_drewN | apply below_drew1) | exact HB.out))) : w.heap.size ≤ gb131)); have n3_ := Aside0.mk ((by rw [hg]; exact (below_size (by repeat (first | (with_reducible first | exact HB.out | apply below_alloc | apply pw_below_drewN | apply below_drew1) | exact HB.out))) : w.heap.size ≤ gb131)); clear HB; have HB := n0_; have BK131 := n1_; have GW131 := n2_; have GE131 := n3_; clear n0_ n1_ n2_ n3_; clear hb hbox hg; have hcz7_0 : w6.cell? ⟨gb131, 0, none⟩ = some (.bool a0_0) := (blk_cell BK131.out 0).trans rfl; have hcz7_1 : w6.cell? ⟨gb131, 1, none⟩ = some (.int .u64 a0_1) := (blk_cell BK131.out 1).trans rfl; have hcz7_2 : w6.cell? ⟨gb131, 2, none⟩ = some (.int .i64 a0_2) := (blk_cell BK131.out 2).trans rfl; have hfz7_0 := blk_frozen BK131.out 0; have hfz7_1 := blk_frozen BK131.out 1; have hfz7_2 := blk_frozen BK131.out 2))
      go_ret
      exact ⟨by first | rfl | (simp [errW_none, errW_some] <;> rfl) | (simp [*, errW_none, errW_some] <;> rfl), by repeat (first | (with_reducible first | exact HB.out | apply below_alloc | apply pw_below_drewN | apply below_drew1 | refine below_set ?_ GE131.out) | exact HB.out)⟩
  · rw [if_neg c2] at H
    have c2b0 : decide (a0_1 ≤ 9999999999999999999) = false := decide_eq_false c2
    clear c2
    obtain rfl := Option.some.inj H
    go_enter Tryd.func19, Tryd.ntmps19
    go_wp2_with (first | ((with_reducible refine gate_dst (N := 1) rfl ?_); refine box_event ?hg (N := 1) ?hd (cs := #[.bool a0_0, .int .u64 a0_1, .int .i64 a0_2]) (t := 34) ?hr ?_; (case hd => rfl); (case hg => rfl); (case hr => first | (go_simp; done) | (go_simp; rfl)); intro gb131 hg w8 hbox hb; have n0_ := Aside0.mk (below_step (by repeat (first | (with_reducible first | exact HB.out | apply below_alloc | apply pw_below_drewN | apply below_drew1) | exact HB.out)) hb); have n1_ := Aside0.mk (hbox); have n2_ := Aside0.mk ((by rw [hg]; exact (below_size (by repeat (first | (with_reducible first | exact HB.out | apply below_alloc | apply pw_below_drewN | apply below_drew1) | exact HB.out))) : w.heap.size ≤ gb131)); have n3_ := Aside0.mk ((by rw [hg]; exact (below_size (by repeat (first | (with_reducible first | exact HB.out | apply below_alloc | apply pw_below_drewN | apply below_drew1) | exact HB.out))) : w.heap.size ≤ gb131)); clear HB; have HB := n0_; have BK131 := n1_; have GW131 := n2_; have GE131 := n3_; clear n0_ n1_ n2_ n3_; clear hb hbox hg; have hcz9_0 : w8.cell? ⟨gb131, 0, none⟩ = some (.bool a0_0) := (blk_cell BK131.out 0).trans rfl; have hcz9_1 : w8.cell? ⟨gb131, 1, none⟩ = some (.int .u64 a0_1) := (blk_cell BK131.out 1).trans rfl; have hcz9_2 : w8.cell? ⟨gb131, 2, none⟩ = some (.int .i64 a0_2) := (blk_cell BK131.out 2).trans rfl; have hfz9_0 := blk_frozen BK131.out 0; have hfz9_1 := blk_frozen BK131.out 1; have hfz9_2 := blk_frozen BK131.out 2))
    go_ret
    exact ⟨by first | rfl | (simp [errW_none, errW_some] <;> rfl) | (simp [*, errW_none, errW_some] <;> rfl), by repeat (first | (with_reducible first | exact HB.out | apply below_alloc | apply pw_below_drewN | apply below_drew1 | refine below_set ?_ GE131.out) | exact HB.out)⟩


/-! ### laws_gvMost: function 9 -/
def laws_gvMost.l0 : Nat → List Int → Int → Int → Option (Bool)
  | 0, _, _, _ => none
  | k + 1, x5, x6, x7 => if x7 < x6 then (if 0 ≤ x7 then (if x7 < (x5.length : Int) then (if (rd x5 x7) > 9999999999999999999 then (some false) else (laws_gvMost.l0 k x5 x6 (wrap64 (x7 + 1)))) else (none)) else (none)) else (some true)
def laws_gvMost.f (k : Nat) (l0 : List Int) : Option (Bool) := laws_gvMost.l0 k l0 (l0.length : Int) 0
theorem laws_gvMost.mono_l : ∀ k, (∀ y0 y1 y2, LeO (laws_gvMost.l0 k y0 y1 y2) (laws_gvMost.l0 (k + 1) y0 y1 y2))
  | 0 => fun _ _ _ r h => by simp [laws_gvMost.l0] at h
  | k + 1 => by
    have ih0 := laws_gvMost.mono_l k
    · intro y0 y1 y2
      unfold laws_gvMost.l0
      repeat' first
      | (with_reducible exact ih0 _ _ _)
      | (with_reducible exact LeO.refl _)
      | (with_reducible exact LeO.none _)
      | (with_reducible refine LeO.ite ?_ ?_)
      | (with_reducible refine LeO.bind ?_ (fun _ => ?_))
      | exact ih0 _ _ _
      | exact LeO.none _
      | refine LeO.ite ?_ ?_
      | refine LeO.bind ?_ (fun _ => ?_)
theorem laws_gvMost.mono : ∀ a0 k, LeO (laws_gvMost.f k a0) (laws_gvMost.f (k + 1) a0) := by
  intro a0 k
  have ih0 := laws_gvMost.mono_l k
  unfold laws_gvMost.f
  repeat' first
      | (with_reducible exact ih0 _ _ _)
      | (with_reducible exact LeO.refl _)
      | (with_reducible exact LeO.none _)
      | (with_reducible refine LeO.ite ?_ ?_)
      | (with_reducible refine LeO.bind ?_ (fun _ => ?_))
      | exact ih0 _ _ _
      | exact LeO.none _
      | refine LeO.ite ?_ ?_
      | refine LeO.bind ?_ (fun _ => ?_)
set_option maxHeartbeats 8000000 in
set_option maxRecDepth 100000 in
theorem laws_gvMost.calls (k : Nat) (A0 : Option Addr) (c0 : Nat) (l0 : List Int) (r : Bool) (w : World) (hr0 : Kd.C (Kd.int .u64) w A0 l0.length l0) (hc0 : l0.length ≤ c0) (h : laws_gvMost.f k l0 = some r) :
    Calls Tryd.prog 9 #[.slice A0 l0.length c0] w fun e w' => e = .returned (.bool r) ∧ Drawn0 w w' := by
  have HR0 := Aside0.mk hr0
  have HC0 := Aside0.mk hc0
  clear hr0 hc0
  have H : (laws_gvMost.l0 k l0 (l0.length : Int) 0) = some r := h
  clear h
  have H' := Aside0.mk H
  clear H
  go_enter Tryd.func9, Tryd.ntmps9
  go_wp2
  go_loopg [7] k (fun kq v7 w' => ∃ (x7_1 : Int), v7 = .int .i64 x7_1 ∧ Aside0 (laws_gvMost.l0 kq l0 (l0.length : Int) x7_1 = some r) ∧ Aside0 (kq ≤ k) ∧ Drawn0 w w')
  case atStart => exact ⟨(0), (by first | rfl | (simp; done) | (simp [*]; done)), H', ⟨Nat.le_refl _⟩, by repeat (first | exact Drawn0.refl _ | apply Drawn0.step)⟩
  case round =>
    clear H'
    obtain ⟨x7_1, rfl, HA, HK1, ⟨m1, rfl⟩⟩ := hrel
    cases gk with
    | zero => exact absurd HA.out (by simp [laws_gvMost.l0])
    | succ k1 =>
      have H := HA.out
      clear HA
      simp only [laws_gvMost.l0] at H
      by_cases c2 : x7_1 < (l0.length : Int)
      · rw [if_pos c2] at H
        have c2b0 : decide (x7_1 < (l0.length : Int)) = true := decide_eq_true c2
        clear c2
        by_cases c3 : 0 ≤ x7_1
        · rw [if_pos c3] at H
          have c3b0 : decide (0 ≤ x7_1) = true := decide_eq_true c3
          clear c3
          by_cases c4 : x7_1 < (l0.length : Int)
          · rw [if_pos c4] at H
            have c4b0 : decide (x7_1 < (l0.length : Int)) = true := decide_eq_true c4
            clear c4
            by_cases c5 : (rd l0 x7_1) > 9999999999999999999
            · rw [if_pos c5] at H
              have c5b0 : decide (9999999999999999999 < (rd l0 x7_1)) = true := decide_eq_true c5
              clear c5
              obtain rfl := Option.some.inj H
              have p101 : 0 ≤ (x7_1 : Int) := of_decide_eq_true (by first | (with_reducible assumption) | assumption)
              have q101 : x7_1 < (l0.length : Int) := of_decide_eq_true (by first | (with_reducible assumption) | assumption)
              obtain ⟨ad101, e101, hx101_0⟩ := Kd.at_int HR0.out x7_1 p101 q101
              cases e101
              replace p101 := eq_true p101
              replace q101 := eq_true q101
              go_wp2
              go_ret
              exact ⟨by first | rfl | (simp; done) | (simp [*]; done), by repeat (first | exact Drawn0.refl _ | apply Drawn0.step)⟩
            · rw [if_neg c5] at H
              have c5b0 : decide (9999999999999999999 < (rd l0 x7_1)) = false := decide_eq_false c5
              clear c5
              have H' := Aside0.mk H
              clear H
              have p101 : 0 ≤ (x7_1 : Int) := of_decide_eq_true (by first | (with_reducible assumption) | assumption)
              have q101 : x7_1 < (l0.length : Int) := of_decide_eq_true (by first | (with_reducible assumption) | assumption)
              obtain ⟨ad101, e101, hx101_0⟩ := Kd.at_int HR0.out x7_1 p101 q101
              cases e101
              replace p101 := eq_true p101
              replace q101 := eq_true q101
              go_wp2
              go_roundg k1
              case measure => have := HK1.out; omega
              case rel => exact ⟨(wrap64 (x7_1 + 1)), (by first | rfl | (simp; done) | (simp [*]; done)), H', ⟨by have := HK1.out; omega⟩, by repeat (first | exact Drawn0.refl _ | apply Drawn0.step)⟩
          · rw [if_neg c4] at H
            exact absurd H (by simp)
        · rw [if_neg c3] at H
          exact absurd H (by simp)
      · rw [if_neg c2] at H
        have c2b0 : decide (x7_1 < (l0.length : Int)) = false := decide_eq_false c2
        clear c2
        obtain rfl := Option.some.inj H
        go_wp2
        go_ret
        exact ⟨by first | rfl | (simp; done) | (simp [*]; done), by repeat (first | exact Drawn0.refl _ | apply Drawn0.step)⟩


end Go.Proofs.YtcgdphciepdkiaaDoor.S
