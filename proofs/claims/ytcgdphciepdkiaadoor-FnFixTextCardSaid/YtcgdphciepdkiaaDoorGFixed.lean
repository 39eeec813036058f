/-
  CONTRACTS of the thin package's fixed, and of the package's roundings of decimals.
-/
import Derived.Test.YtcgdphciepdkiaaDoorGRsh
import Derived.Outline
namespace Go.Proofs.YtcgdphciepdkiaaDoor.G
open Go.RowKit Go.Proofs.YtcgdphciepdkiaaDoorW.PrintWords Go.Proofs.YtcgdphciepdkiaaDoorW.PrintLast Go.Proofs.YtcgdphciepdkiaaDoorW.PrintMore Go.Proofs.YtcgdphciepdkiaaDoor.S Go.Proofs.YtcgdphciepdkiaaDoor.Lm
attribute [local go_sem] max2_int min2_int max_two min_two max_three min_three max_four min_four
set_option linter.unusedVariables false
set_option linter.unusedSimpArgs false

theorem fixed_of (neg : Bool) (c s : Int) (d1 : Bool) (d2 d3 : Int) (w : World) (hm : Makes neg c s d1 d2 d3 .nilIface w) :
    Calls Tryd.prog 37 #[fixI neg c s] w fun e w' => e = .returned (.tuple #[decG d1 d2 d3, .bool true]) ∧ Below w.heap.size w w' := by
  have HM := Aside0.mk hm
  have HB := Aside0.mk (Below.refl w.heap.size w)
  clear hm
  go_enter Tryd.func37, Tryd.ntmps37
  go_wp2_with (first | (((with_reducible refine gate_dst (N := 1) rfl ?_); refine box_event ?hg (N := 1) ?hd (cs := #[.bool neg, .int .u64 c, .int .i64 s]) (t := 34) ?hr ?_; (case hd => rfl); (case hg => rfl); (case hr => first | (go_simp; done) | (go_simp; rfl)); intro g1 hgq w1 hbx hb; have B1 := Aside0.mk hbx; have gq_g1 := Aside0.mk hgq; clear hbx hgq); have HB1 := Aside0.mk (below_step HB.out hb); have c0 := (blk_cell B1.out 0).trans rfl; have zc0 := blk_frozen B1.out 0; have c1 := (blk_cell B1.out 1).trans rfl; have zc1 := blk_frozen B1.out 1; have c2 := (blk_cell B1.out 2).trans rfl; have zc2 := blk_frozen B1.out 2; clear hb HB) | (((with_reducible refine gate_dst (N := 2) rfl ?_); refine box_event ?hg (N := 2) ?hd (cs := #[.bool false, .int .i8 0, .int .u64 0]) (t := 64) ?hr ?_; (case hd => rfl); (case hg => rfl); (case hr => first | (go_simp; done) | (go_simp; rfl)); intro g2 hgq w2 hbx hb; have B2 := Aside0.mk hbx; have gq_g2 := Aside0.mk hgq; clear hbx hgq); have HB2 := Aside0.mk (below_step HB1.out hb); have B3 := Aside0.mk (blk_below B1.out hb); clear c0 c1 c2 zc0 zc1 zc2; have c0 := (blk_cell B3.out 0).trans rfl; have zc0 := blk_frozen B3.out 0; have c1 := (blk_cell B3.out 1).trans rfl; have zc1 := blk_frozen B3.out 1; have c2 := (blk_cell B3.out 2).trans rfl; have zc2 := blk_frozen B3.out 2; have G2 := Aside0.mk (show w.heap.size ≤ g2 by rw [gq_g2.out]; exact HB1.out.size); clear hb HB1))
  refine (zzMake_of neg c s _ _ _ _ _ (fun w0 hb0 => HM.out w0 (below_step HB2.out hb0))).mono ?_
  rintro e w3 ⟨rfl, hb⟩
  have B4 := Aside0.mk (blk_below B2.out hb)
  have HB3 := Aside0.mk (below_step HB2.out hb)
  clear hb HM HB2 B2 B3 B1 c0 c1 c2 zc0 zc1 zc2 gq_g1 gq_g2
  go_wp2_with (((with_reducible refine gate_dst (N := 4) rfl ?_); refine box_event ?hg (N := 4) ?hd (cs := #[.bool false, .int .i8 0, .int .u64 0]) (t := 64) ?hr ?_; (case hd => rfl); (case hg => rfl); (case hr => first | (go_simp; done) | (go_simp; rfl)); intro g3 hgq w4 hbx hb; have B5 := Aside0.mk hbx; have gq_g3 := Aside0.mk hgq; clear hbx hgq); have q0 := (blk_cell B5.out 0).trans rfl; have zq0 := blk_frozen B5.out 0; have q1 := (blk_cell B5.out 1).trans rfl; have zq1 := blk_frozen B5.out 1; have q2 := (blk_cell B5.out 2).trans rfl; have zq2 := blk_frozen B5.out 2; have B6 := Aside0.mk (blk_below B4.out hb); have k0 := (blk_cell B6.out 0).trans rfl; have zk0 := blk_frozen B6.out 0; have k1 := (blk_cell B6.out 1).trans rfl; have zk1 := blk_frozen B6.out 1; have k2 := (blk_cell B6.out 2).trans rfl; have zk2 := blk_frozen B6.out 2; have HB4 := Aside0.mk (below_step HB3.out hb); have n1 : g3 ≠ g2 := (by have e1 := blk_lt B4.out; have e2 := gq_g3.out; omega); have n2 := n1.symm; have G3 := Aside0.mk (show w.heap.size ≤ g3 by rw [gq_g3.out]; exact HB3.out.size); clear hb HB3 B4)
  have B7 := Aside0.mk (blk_put (cs' := #[.bool d1, .int .i8 d2, .int .u64 d3]) (blk_put (cs' := #[.bool d1, .int .i8 d2, .int .u64 0]) (blk_put (cs' := #[.bool d1, .int .i8 0, .int .u64 0]) B5.out 0 (.bool d1) rfl) 1 (.int .i8 d2) rfl) 2 (.int .u64 d3) rfl)
  have B8 := Aside0.mk (blk_far (p := ⟨g3, 2, none⟩) (blk_far (p := ⟨g3, 1, none⟩) (blk_far (p := ⟨g3, 0, none⟩) B6.out n2 (.bool d1)) n2 (.int .i8 d2)) n2 (.int .u64 d3))
  have HB5 := Aside0.mk (below_set (j := 2) (v := .int .u64 d3) (below_set (j := 1) (v := .int .i8 d2) (below_set (j := 0) (v := .bool d1) HB4.out G3.out) G3.out) G3.out)
  clear B5 B6 HB4 q0 q1 q2 zq0 zq1 zq2 k0 k1 k2 zk0 zk1 zk2
  generalize ((w4.setCell ⟨g3, 0, none⟩ (.bool d1)).setCell ⟨g3, 1, none⟩ (.int .i8 d2)).setCell ⟨g3, 2, none⟩ (.int .u64 d3) = w5 at B7 B8 HB5 ⊢
  have q0 := (blk_cell B7.out 0).trans rfl; have zq0 := blk_frozen B7.out 0; have q1 := (blk_cell B7.out 1).trans rfl; have zq1 := blk_frozen B7.out 1; have q2 := (blk_cell B7.out 2).trans rfl; have zq2 := blk_frozen B7.out 2
  have k0 := (blk_cell B8.out 0).trans rfl; have zk0 := blk_frozen B8.out 0; have k1 := (blk_cell B8.out 1).trans rfl; have zk1 := blk_frozen B8.out 1; have k2 := (blk_cell B8.out 2).trans rfl; have zk2 := blk_frozen B8.out 2
  go_region
  all_goals go_wp2
  all_goals exact bodyPost_ret (v := .tuple #[decG d1 d2 d3, .bool true]) (by simp [results, Tryd.results37, go_sem, q0, q1, q2, k0, k1, k2, n1, n2]) rfl ⟨rfl, by repeat (first | (with_reducible first | exact HB5.out | apply below_alloc | apply pw_below_drewN | apply below_drew1 | refine below_set ?_ G2.out | refine below_set ?_ G3.out | refine below_set ?_ (Nat.le_refl _)) | exact HB5.out)⟩
theorem fixed_err (neg : Bool) (c s : Int) (d1 : Bool) (d2 d3 : Int) (T : TypeId) (a : Addr) (w : World) (hm : Makes neg c s d1 d2 d3 (.iface T (.pointer (some a))) w) :
    Calls Tryd.prog 37 #[fixI neg c s] w fun e w' => e = .returned (.tuple #[decG d1 d2 d3, .bool false]) ∧ Below w.heap.size w w' := by
  have HM := Aside0.mk hm
  have HB := Aside0.mk (Below.refl w.heap.size w)
  clear hm
  go_enter Tryd.func37, Tryd.ntmps37
  go_wp2_with (first | (((with_reducible refine gate_dst (N := 1) rfl ?_); refine box_event ?hg (N := 1) ?hd (cs := #[.bool neg, .int .u64 c, .int .i64 s]) (t := 34) ?hr ?_; (case hd => rfl); (case hg => rfl); (case hr => first | (go_simp; done) | (go_simp; rfl)); intro g1 hgq w1 hbx hb; have B1 := Aside0.mk hbx; have gq_g1 := Aside0.mk hgq; clear hbx hgq); have HB1 := Aside0.mk (below_step HB.out hb); have c0 := (blk_cell B1.out 0).trans rfl; have zc0 := blk_frozen B1.out 0; have c1 := (blk_cell B1.out 1).trans rfl; have zc1 := blk_frozen B1.out 1; have c2 := (blk_cell B1.out 2).trans rfl; have zc2 := blk_frozen B1.out 2; clear hb HB) | (((with_reducible refine gate_dst (N := 2) rfl ?_); refine box_event ?hg (N := 2) ?hd (cs := #[.bool false, .int .i8 0, .int .u64 0]) (t := 64) ?hr ?_; (case hd => rfl); (case hg => rfl); (case hr => first | (go_simp; done) | (go_simp; rfl)); intro g2 hgq w2 hbx hb; have B2 := Aside0.mk hbx; have gq_g2 := Aside0.mk hgq; clear hbx hgq); have HB2 := Aside0.mk (below_step HB1.out hb); have B3 := Aside0.mk (blk_below B1.out hb); clear c0 c1 c2 zc0 zc1 zc2; have c0 := (blk_cell B3.out 0).trans rfl; have zc0 := blk_frozen B3.out 0; have c1 := (blk_cell B3.out 1).trans rfl; have zc1 := blk_frozen B3.out 1; have c2 := (blk_cell B3.out 2).trans rfl; have zc2 := blk_frozen B3.out 2; have G2 := Aside0.mk (show w.heap.size ≤ g2 by rw [gq_g2.out]; exact HB1.out.size); clear hb HB1))
  refine (zzMake_of neg c s _ _ _ _ _ (fun w0 hb0 => HM.out w0 (below_step HB2.out hb0))).mono ?_
  rintro e w3 ⟨rfl, hb⟩
  have B4 := Aside0.mk (blk_below B2.out hb)
  have HB3 := Aside0.mk (below_step HB2.out hb)
  clear hb HM HB2 B2 B3 B1 c0 c1 c2 zc0 zc1 zc2 gq_g1 gq_g2
  go_wp2_with (((with_reducible refine gate_dst (N := 4) rfl ?_); refine box_event ?hg (N := 4) ?hd (cs := #[.bool false, .int .i8 0, .int .u64 0]) (t := 64) ?hr ?_; (case hd => rfl); (case hg => rfl); (case hr => first | (go_simp; done) | (go_simp; rfl)); intro g3 hgq w4 hbx hb; have B5 := Aside0.mk hbx; have gq_g3 := Aside0.mk hgq; clear hbx hgq); have q0 := (blk_cell B5.out 0).trans rfl; have zq0 := blk_frozen B5.out 0; have q1 := (blk_cell B5.out 1).trans rfl; have zq1 := blk_frozen B5.out 1; have q2 := (blk_cell B5.out 2).trans rfl; have zq2 := blk_frozen B5.out 2; have B6 := Aside0.mk (blk_below B4.out hb); have k0 := (blk_cell B6.out 0).trans rfl; have zk0 := blk_frozen B6.out 0; have k1 := (blk_cell B6.out 1).trans rfl; have zk1 := blk_frozen B6.out 1; have k2 := (blk_cell B6.out 2).trans rfl; have zk2 := blk_frozen B6.out 2; have HB4 := Aside0.mk (below_step HB3.out hb); have n1 : g3 ≠ g2 := (by have e1 := blk_lt B4.out; have e2 := gq_g3.out; omega); have n2 := n1.symm; have G3 := Aside0.mk (show w.heap.size ≤ g3 by rw [gq_g3.out]; exact HB3.out.size); clear hb HB3 B4)
  have B7 := Aside0.mk (blk_put (cs' := #[.bool d1, .int .i8 d2, .int .u64 d3]) (blk_put (cs' := #[.bool d1, .int .i8 d2, .int .u64 0]) (blk_put (cs' := #[.bool d1, .int .i8 0, .int .u64 0]) B5.out 0 (.bool d1) rfl) 1 (.int .i8 d2) rfl) 2 (.int .u64 d3) rfl)
  have B8 := Aside0.mk (blk_far (p := ⟨g3, 2, none⟩) (blk_far (p := ⟨g3, 1, none⟩) (blk_far (p := ⟨g3, 0, none⟩) B6.out n2 (.bool d1)) n2 (.int .i8 d2)) n2 (.int .u64 d3))
  have HB5 := Aside0.mk (below_set (j := 2) (v := .int .u64 d3) (below_set (j := 1) (v := .int .i8 d2) (below_set (j := 0) (v := .bool d1) HB4.out G3.out) G3.out) G3.out)
  clear B5 B6 HB4 q0 q1 q2 zq0 zq1 zq2 k0 k1 k2 zk0 zk1 zk2
  generalize ((w4.setCell ⟨g3, 0, none⟩ (.bool d1)).setCell ⟨g3, 1, none⟩ (.int .i8 d2)).setCell ⟨g3, 2, none⟩ (.int .u64 d3) = w5 at B7 B8 HB5 ⊢
  have q0 := (blk_cell B7.out 0).trans rfl; have zq0 := blk_frozen B7.out 0; have q1 := (blk_cell B7.out 1).trans rfl; have zq1 := blk_frozen B7.out 1; have q2 := (blk_cell B7.out 2).trans rfl; have zq2 := blk_frozen B7.out 2
  have k0 := (blk_cell B8.out 0).trans rfl; have zk0 := blk_frozen B8.out 0; have k1 := (blk_cell B8.out 1).trans rfl; have zk1 := blk_frozen B8.out 1; have k2 := (blk_cell B8.out 2).trans rfl; have zk2 := blk_frozen B8.out 2
  go_region
  all_goals go_wp2
  all_goals exact bodyPost_ret (v := .tuple #[decG d1 d2 d3, .bool false]) (by simp [results, Tryd.results37, go_sem, q0, q1, q2, k0, k1, k2, n1, n2]) rfl ⟨rfl, by repeat (first | (with_reducible first | exact HB5.out | apply below_alloc | apply pw_below_drewN | apply below_drew1 | refine below_set ?_ G2.out | refine below_set ?_ G3.out | refine below_set ?_ (Nat.le_refl _)) | exact HB5.out)⟩
end Go.Proofs.YtcgdphciepdkiaaDoor.G
