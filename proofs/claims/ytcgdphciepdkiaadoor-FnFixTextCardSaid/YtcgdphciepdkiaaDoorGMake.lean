/-
  CONTRACTS of the thin package's FixMake and fixed.
-/
import Derived.Test.YtcgdphciepdkiaaDoorGNew
import Derived.Test.YtcgdphciepdkiaaDoorLm
import Derived.Outline
namespace Go.Proofs.YtcgdphciepdkiaaDoor.G
open Go.RowKit Go.Proofs.YtcgdphciepdkiaaDoorW.PrintWords Go.Proofs.YtcgdphciepdkiaaDoorW.PrintLast Go.Proofs.YtcgdphciepdkiaaDoorW.PrintMore Go.Proofs.YtcgdphciepdkiaaDoor.S
set_option linter.unusedVariables false
set_option linter.unusedSimpArgs false

abbrev fixI (neg : Bool) (n s : Int) : Value := .agg #[.bool neg, .int .u64 n, .int .i64 s]
theorem fix_is (neg : Bool) (s c : Int) (w : World) (h0 : 0 ≤ s) (h9 : s ≤ 127) : Calls Tryd.prog 33 #[decG neg s c] w fun e w' => e = .returned (fixI neg c s) ∧ Below w.heap.size w w' :=
  impl_fix.calls neg s c _ _ _ w (by unfold impl_fix.f govalues_Decimal_IsNeg.f govalues_Decimal_Coef.f govalues_Decimal_Scale.f; simp only [Option.bind_some]; rw [Lm.w64 (by omega) (by omega)])
theorem makes_scale (neg : Bool) (c s : Int) (T : TypeId) (a b : Addr) (w : World) (hS : Sens w T a b) (h : s < 0 ∨ 19 < s) : Makes neg c s false 0 0 (.iface T (.pointer (some a))) w :=
  fun w0 hb => newSafe_scale neg c s T a b w0 (hS.below hb) h
theorem makes_over (neg : Bool) (c s : Int) (T : TypeId) (a b : Addr) (w : World) (hS : Sens w T a b) (h0 : 0 ≤ s) (h9 : s ≤ 19) (hc : 9999999999999999999 < c) : Makes neg c s false 0 0 (.iface T (.pointer (some b))) w :=
  fun w0 hb => newSafe_over neg c s T a b w0 (hS.below hb) h0 h9 hc
theorem makes_ok (neg : Bool) (c s : Int) (w : World) (h0 : 0 ≤ s) (h9 : s ≤ 19) (hc : c ≤ 9999999999999999999) : Makes neg c s (neg && !decide (c = 0)) s c .nilIface w :=
  fun w0 _ => newSafe_ok neg c s w0 h0 h9 hc

theorem fixMake_err (neg : Bool) (c s : Int) (T : TypeId) (a : Addr) (w : World) (hm : Makes neg c s false 0 0 (.iface T (.pointer (some a))) w) :
    Calls Tryd.prog 15 #[.bool neg, .int .u64 c, .int .i64 s] w fun e w' => e = .returned (.tuple #[fixI false 0 0, .int .i64 1]) ∧ Below w.heap.size w w' := by
  have H1 := Aside0.mk (blk_new w (.cells #[.bool false, .int .u64 0, .int .i64 0] 34))
  have HM := Aside0.mk hm
  clear hm
  go_enter Tryd.func15, Tryd.ntmps15
  go_wp2_with fail
  refine (zzMake_of neg c s _ _ _ _ _ (fun w0 hb0 => HM.out w0 (below_step (below_alloc (Below.refl _ w) _) hb0))).mono ?_
  rintro e w1 ⟨rfl, hb⟩
  have B1 := Aside0.mk (blk_below H1.out hb)
  have HB := Aside0.mk (below_step (below_alloc (Below.refl _ w) _) hb)
  clear hb H1 HM
  go_wp2_with (((with_reducible refine gate_dst (N := 8) rfl ?_); refine box_event ?hg (N := 8) ?hd (cs := #[.bool false, .int .i8 0, .int .u64 0]) (t := 64) ?hr ?_; (case hd => rfl); (case hg => rfl); (case hr => first | (go_simp; done) | (go_simp; rfl)); intro g2 hgq w2 hbx hb2; have B2 := Aside0.mk hbx; have gq_g2 := Aside0.mk hgq; clear hbx hgq); have q0 := (blk_cell B2.out 0).trans rfl; have zq0 := blk_frozen B2.out 0; have q1 := (blk_cell B2.out 1).trans rfl; have zq1 := blk_frozen B2.out 1; have q2 := (blk_cell B2.out 2).trans rfl; have zq2 := blk_frozen B2.out 2; have B3 := Aside0.mk (blk_below B1.out hb2); have k0 := (blk_cell B3.out 0).trans rfl; have zk0 := blk_frozen B3.out 0; have k1 := (blk_cell B3.out 1).trans rfl; have zk1 := blk_frozen B3.out 1; have k2 := (blk_cell B3.out 2).trans rfl; have zk2 := blk_frozen B3.out 2; have HB2 := Aside0.mk (below_step HB.out hb2); have n1 : g2 ≠ w.heap.size := (by have e1 := blk_lt B1.out; have e2 := gq_g2.out; omega); have n2 := n1.symm; have G2 := Aside0.mk (show w.heap.size ≤ g2 by have e1 := blk_lt B1.out; have e2 := gq_g2.out; omega); clear hb2 B1 HB)
  exact bodyPost_ret (v := .tuple #[fixI false 0 0, .int .i64 1]) (by simp [results, Tryd.results15, go_sem, k0, k1, k2, n1, n2]) rfl ⟨rfl, by repeat (first | (with_reducible first | exact HB2.out | apply below_alloc | apply pw_below_drewN | apply below_drew1 | refine below_set ?_ G2.out | refine below_set ?_ (Nat.le_refl _)) | exact HB2.out)⟩
theorem fixMake_ok (neg : Bool) (c s : Int) (d1 : Bool) (w : World) (h0 : 0 ≤ s) (h9 : s ≤ 19) (hm : Makes neg c s d1 s c .nilIface w) :
    Calls Tryd.prog 15 #[.bool neg, .int .u64 c, .int .i64 s] w fun e w' => e = .returned (.tuple #[fixI d1 c s, .int .i64 0]) ∧ Below w.heap.size w w' := by
  have H1 := Aside0.mk (blk_new w (.cells #[.bool false, .int .u64 0, .int .i64 0] 34))
  have HM := Aside0.mk hm
  clear hm
  go_enter Tryd.func15, Tryd.ntmps15
  go_wp2_with fail
  refine (zzMake_of neg c s _ _ _ _ _ (fun w0 hb0 => HM.out w0 (below_step (below_alloc (Below.refl _ w) _) hb0))).mono ?_
  rintro e w1 ⟨rfl, hb⟩
  have B1 := Aside0.mk (blk_below H1.out hb)
  have HB := Aside0.mk (below_step (below_alloc (Below.refl _ w) _) hb)
  clear hb H1 HM
  go_wp2_with (((with_reducible refine gate_dst (N := 8) rfl ?_); refine box_event ?hg (N := 8) ?hd (cs := #[.bool false, .int .i8 0, .int .u64 0]) (t := 64) ?hr ?_; (case hd => rfl); (case hg => rfl); (case hr => first | (go_simp; done) | (go_simp; rfl)); intro g2 hgq w2 hbx hb2; have B2 := Aside0.mk hbx; have gq_g2 := Aside0.mk hgq; clear hbx hgq); have q0 := (blk_cell B2.out 0).trans rfl; have zq0 := blk_frozen B2.out 0; have q1 := (blk_cell B2.out 1).trans rfl; have zq1 := blk_frozen B2.out 1; have q2 := (blk_cell B2.out 2).trans rfl; have zq2 := blk_frozen B2.out 2; have B3 := Aside0.mk (blk_below B1.out hb2); have HB2 := Aside0.mk (below_step HB.out hb2); have G2 := Aside0.mk (show w.heap.size < g2 by have e1 := blk_lt B1.out; have e2 := gq_g2.out; omega); clear hb2 B1 HB)
  refine (fix_is d1 s c _ h0 (by omega)).mono ?_
  rintro e w3 ⟨rfl, hb⟩
  have n0 : w.heap.size ≠ g2 := Nat.ne_of_lt G2.out
  have B4 := Aside0.mk (blk_below (blk_far (blk_far (blk_far B3.out n0 (.bool d1)) n0 (.int .i8 s)) n0 (.int .u64 c)) hb)
  have HB4 := Aside0.mk (below_step (below_set (j := 2) (v := .int .u64 c) (below_set (j := 1) (v := .int .i8 s) (below_set (j := 0) (v := .bool d1) HB2.out (Nat.le_of_lt G2.out)) (Nat.le_of_lt G2.out)) (Nat.le_of_lt G2.out)) hb)
  clear hb B3 HB2 B2 q0 q1 q2 zq0 zq1 zq2
  have k0 := (blk_cell B4.out 0).trans rfl; have zk0 := blk_frozen B4.out 0; have k1 := (blk_cell B4.out 1).trans rfl; have zk1 := blk_frozen B4.out 1; have k2 := (blk_cell B4.out 2).trans rfl; have zk2 := blk_frozen B4.out 2
  go_wp2
  exact bodyPost_ret (v := .tuple #[fixI d1 c s, .int .i64 0]) (by simp [results, Tryd.results15, go_sem, k0, k1, k2]) rfl ⟨rfl, by repeat (first | (with_reducible first | exact HB4.out | apply below_alloc | apply pw_below_drewN | apply below_drew1 | refine below_set ?_ (Nat.le_refl _)) | exact HB4.out)⟩
end Go.Proofs.YtcgdphciepdkiaaDoor.G
