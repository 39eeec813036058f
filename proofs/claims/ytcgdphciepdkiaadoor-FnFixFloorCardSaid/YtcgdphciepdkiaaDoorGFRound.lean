/-
  CONTRACTS of the thin package's FixRound.
-/
import Derived.Test.YtcgdphciepdkiaaDoorGRounb
import Derived.Defers
import Derived.Recover
namespace Go.Proofs.YtcgdphciepdkiaaDoor.G
open Go.RowKit Go.Proofs.YtcgdphciepdkiaaDoorW.PrintWords Go.Proofs.YtcgdphciepdkiaaDoorW.PrintLast Go.Proofs.YtcgdphciepdkiaaDoorW.PrintMore Go.Proofs.YtcgdphciepdkiaaDoor.S Go.Proofs.YtcgdphciepdkiaaDoor.Lm
set_option linter.unusedVariables false
set_option linter.unusedSimpArgs false

theorem idle_round (p q : Addr) (w : World) :
    CallsD Tryd.prog 36 #[.pointer (some p), .pointer (some q)] .returning w fun e u' w' => e = .returned (.tuple #[]) ∧ u' = .returning ∧ w' = w := by
  refine callsD_of_wpS Tryd.func36 rfl fun c₀ cs hu => ?_
  apply wpS_seq
  apply wpS_region
  simp [wpOpsS, go_sem, recoverD, hu, Tryd.ntmps36, Exit.thenS]
  refine wpS_cond (t := false) (by simp [Act.eval, Array.replicate]) ?_
  simp only [Bool.false_eq_true, if_false]
  refine wpS_of_wp (wp_skip ?_)
  cases c₀
  simp_all [bodyPostS, results, Tryd.results36]
theorem fixRound_err (neg : Bool) (c s k : Int) (w : World) (d1 : Bool) (d2 d3 : Int) (T : TypeId) (a : Addr) (hm : Makes neg c s d1 d2 d3 (.iface T (.pointer (some a))) w) :
    Calls Tryd.prog 18 #[fixI neg c s, .int .i64 k] w fun e w' => e = .returned (.tuple #[fixI false 0 0, .int .i64 3]) ∧ Below w.heap.size w w' := by
  have hmf : ∀ (fn : Fn) (first cap : Array Value) (w : World), (Instr.makeFunc fn first cap).run Tryd.prog w = .ok (.func fn first cap) w := fun _ _ _ _ => rfl
  have HM := Aside0.mk hm
  have HB := Aside0.mk (Below.refl w.heap.size w)
  clear hm
  go_enter_defers Tryd.func18, Tryd.ntmps18
  go_wp2_with (first | (((with_reducible refine gate_dst (N := 2) rfl ?_); refine box_event ?hg (N := 2) ?hd (cs := #[.bool neg, .int .u64 c, .int .i64 s]) (t := 34) ?hr ?_; (case hd => rfl); (case hg => rfl); (case hr => first | (go_simp; done) | (go_simp; rfl)); intro g1 hgq w1 hbx hb; have B1 := Aside0.mk hbx; have gq_g1 := Aside0.mk hgq; clear hbx hgq); have HB1 := Aside0.mk (below_step HB.out hb); have c0 := (blk_cell B1.out 0).trans rfl; have zc0 := blk_frozen B1.out 0; have c1 := (blk_cell B1.out 1).trans rfl; have zc1 := blk_frozen B1.out 1; have c2 := (blk_cell B1.out 2).trans rfl; have zc2 := blk_frozen B1.out 2; clear hb HB) | (((with_reducible refine gate_dst (N := 4) rfl ?_); refine box_event ?hg (N := 4) ?hd (cs := #[.bool false, .int .u64 0, .int .i64 0]) (t := 34) ?hr ?_; (case hd => rfl); (case hg => rfl); (case hr => first | (go_simp; done) | (go_simp; rfl)); intro g2 hgq w2 hbx hb; have B2 := Aside0.mk hbx; have gq_g2 := Aside0.mk hgq; clear hbx hgq); have HB2 := Aside0.mk (below_step HB1.out hb); have P2 := Aside0.mk (blk_below B1.out hb); clear c0 c1 c2 zc0 zc1 zc2; have c0 := (blk_cell P2.out 0).trans rfl; have zc0 := blk_frozen P2.out 0; have c1 := (blk_cell P2.out 1).trans rfl; have zc1 := blk_frozen P2.out 1; have c2 := (blk_cell P2.out 2).trans rfl; have zc2 := blk_frozen P2.out 2; have G2 := Aside0.mk (show w.heap.size ≤ g2 by rw [gq_g2.out]; exact HB1.out.size); clear hb HB1 B1) | (((with_reducible refine gate_dst (N := 5) rfl ?_); refine box_event ?hg (N := 5) ?hd (cs := #[.int .i64 0]) (t := 3) ?hr ?_; (case hd => rfl); (case hg => rfl); (case hr => first | (go_simp; done) | (go_simp; rfl)); intro g3 hgq w3 hbx hb; have B3 := Aside0.mk hbx; have gq_g3 := Aside0.mk hgq; clear hbx hgq); have HB3 := Aside0.mk (below_step HB2.out hb); have P3 := Aside0.mk (blk_below P2.out hb); have Q3 := Aside0.mk (blk_below B2.out hb); clear c0 c1 c2 zc0 zc1 zc2; have c0 := (blk_cell P3.out 0).trans rfl; have zc0 := blk_frozen P3.out 0; have c1 := (blk_cell P3.out 1).trans rfl; have zc1 := blk_frozen P3.out 1; have c2 := (blk_cell P3.out 2).trans rfl; have zc2 := blk_frozen P3.out 2; have n1 : g3 ≠ g2 := (by have e1 := blk_lt B2.out; have e2 := gq_g3.out; omega); have n2 := n1.symm; have G3 := Aside0.mk (show w.heap.size ≤ g3 by rw [gq_g3.out]; exact HB2.out.size); clear hb HB2 P2 B2))
  refine (fixed_err neg c s _ _ _ _ _ _ (fun w0 hb0 => HM.out w0 (below_step HB3.out hb0))).mono ?_
  rintro e w4 ⟨rfl, hb⟩
  have HB4 := Aside0.mk (below_step HB3.out hb)
  have Q4 := Aside0.mk (blk_below Q3.out hb)
  have B4 := Aside0.mk (blk_below B3.out hb)
  clear hb HB3 Q3 B3 P3 HM c0 c1 c2 zc0 zc1 zc2 gq_g1 gq_g2 gq_g3
  go_wp2_with (((with_reducible refine gate_dst (N := 6) rfl ?_); refine box_event ?hg (N := 6) ?hd (cs := #[.bool false, .int .i8 0, .int .u64 0]) (t := 64) ?hr ?_; (case hd => rfl); (case hg => rfl); (case hr => first | (go_simp; done) | (go_simp; rfl)); intro g5 hgq w5 hbx hb; have B5 := Aside0.mk hbx; have gq_g5 := Aside0.mk hgq; clear hbx hgq); have HB5 := Aside0.mk (below_step HB4.out hb); have Q5 := Aside0.mk (blk_below Q4.out hb); have R5 := Aside0.mk (blk_below B4.out hb); have q0 := (blk_cell Q5.out 0).trans rfl; have zq0 := blk_frozen Q5.out 0; have q1 := (blk_cell Q5.out 1).trans rfl; have zq1 := blk_frozen Q5.out 1; have q2 := (blk_cell Q5.out 2).trans rfl; have zq2 := blk_frozen Q5.out 2; have r0 := (blk_cell R5.out 0).trans rfl; have zr0 := blk_frozen R5.out 0; have c0 := (blk_cell B5.out 0).trans rfl; have zc0 := blk_frozen B5.out 0; have c1 := (blk_cell B5.out 1).trans rfl; have zc1 := blk_frozen B5.out 1; have c2 := (blk_cell B5.out 2).trans rfl; have zc2 := blk_frozen B5.out 2; have m1 : g5 ≠ g2 := (by have e1 := blk_lt Q4.out; have e2 := gq_g5.out; omega); have m2 := m1.symm; have m3 : g5 ≠ g3 := (by have e1 := blk_lt B4.out; have e2 := gq_g5.out; omega); have m4 := m3.symm; have G5 := Aside0.mk (show w.heap.size ≤ g5 by rw [gq_g5.out]; exact HB4.out.size))
  refine leaves_cons (f := 36) (args := #[.pointer (some ⟨g2, 0, none⟩), .pointer (some ⟨g3, 0, none⟩)]) (by simp) (by simp [go_sem]) ?_
  refine (idle_round _ _ _).mono ?_
  rintro e u' w'' ⟨rfl, rfl, rfl⟩
  have HF := Aside0.mk (show Below w.heap.size w (((((((w5.setCell ⟨g5, 0, none⟩ (.bool d1)).setCell ⟨g5, 1, none⟩ (.int .i8 d2)).setCell ⟨g5, 2, none⟩ (.int .u64 d3)).setCell ⟨g2, 0, none⟩ (.bool false)).setCell ⟨g2, 1, none⟩ (.int .u64 0)).setCell ⟨g2, 2, none⟩ (.int .i64 0)).setCell ⟨g3, 0, none⟩ (.int .i64 3)) from by repeat (first | (with_reducible first | exact HB5.out | apply below_alloc | apply pw_below_drewN | apply below_drew1 | refine below_set ?_ G2.out | refine below_set ?_ G3.out | refine below_set ?_ G5.out | refine below_set ?_ (Nat.le_refl _)) | exact HB5.out))
  simp [Leaves, settle, results, Tryd.results18, go_sem, q0, q1, q2, r0, c0, c1, c2, n1, n2, m1, m2, m3, m4]
  exact HF.out
theorem fixRound_ok (neg : Bool) (c s k : Int) (w : World) (d1 : Bool) (d2 d3 : Int) (r1 : Bool) (r2 r3 : Int) (h0 : 0 ≤ r2) (h9 : r2 ≤ 127) (hm : Makes neg c s d1 d2 d3 .nilIface w) (hr : ∀ w0, Below w.heap.size w w0 → Calls Tryd.prog 38 #[decG d1 d2 d3, .int .i64 k] w0 fun e w' => e = .returned (decG r1 r2 r3) ∧ Below w0.heap.size w0 w') :
    Calls Tryd.prog 18 #[fixI neg c s, .int .i64 k] w fun e w' => e = .returned (.tuple #[fixI r1 r3 r2, .int .i64 0]) ∧ Below w.heap.size w w' := by
  have hmf : ∀ (fn : Fn) (first cap : Array Value) (w : World), (Instr.makeFunc fn first cap).run Tryd.prog w = .ok (.func fn first cap) w := fun _ _ _ _ => rfl
  have HM := Aside0.mk hm
  have HB := Aside0.mk (Below.refl w.heap.size w)
  have HR := Aside0.mk hr
  clear hm hr
  go_enter_defers Tryd.func18, Tryd.ntmps18
  go_wp2_with (first | (((with_reducible refine gate_dst (N := 2) rfl ?_); refine box_event ?hg (N := 2) ?hd (cs := #[.bool neg, .int .u64 c, .int .i64 s]) (t := 34) ?hr ?_; (case hd => rfl); (case hg => rfl); (case hr => first | (go_simp; done) | (go_simp; rfl)); intro g1 hgq w1 hbx hb; have B1 := Aside0.mk hbx; have gq_g1 := Aside0.mk hgq; clear hbx hgq); have HB1 := Aside0.mk (below_step HB.out hb); have c0 := (blk_cell B1.out 0).trans rfl; have zc0 := blk_frozen B1.out 0; have c1 := (blk_cell B1.out 1).trans rfl; have zc1 := blk_frozen B1.out 1; have c2 := (blk_cell B1.out 2).trans rfl; have zc2 := blk_frozen B1.out 2; clear hb HB) | (((with_reducible refine gate_dst (N := 4) rfl ?_); refine box_event ?hg (N := 4) ?hd (cs := #[.bool false, .int .u64 0, .int .i64 0]) (t := 34) ?hr ?_; (case hd => rfl); (case hg => rfl); (case hr => first | (go_simp; done) | (go_simp; rfl)); intro g2 hgq w2 hbx hb; have B2 := Aside0.mk hbx; have gq_g2 := Aside0.mk hgq; clear hbx hgq); have HB2 := Aside0.mk (below_step HB1.out hb); have P2 := Aside0.mk (blk_below B1.out hb); clear c0 c1 c2 zc0 zc1 zc2; have c0 := (blk_cell P2.out 0).trans rfl; have zc0 := blk_frozen P2.out 0; have c1 := (blk_cell P2.out 1).trans rfl; have zc1 := blk_frozen P2.out 1; have c2 := (blk_cell P2.out 2).trans rfl; have zc2 := blk_frozen P2.out 2; have G2 := Aside0.mk (show w.heap.size ≤ g2 by rw [gq_g2.out]; exact HB1.out.size); clear hb HB1 B1) | (((with_reducible refine gate_dst (N := 5) rfl ?_); refine box_event ?hg (N := 5) ?hd (cs := #[.int .i64 0]) (t := 3) ?hr ?_; (case hd => rfl); (case hg => rfl); (case hr => first | (go_simp; done) | (go_simp; rfl)); intro g3 hgq w3 hbx hb; have B3 := Aside0.mk hbx; have gq_g3 := Aside0.mk hgq; clear hbx hgq); have HB3 := Aside0.mk (below_step HB2.out hb); have P3 := Aside0.mk (blk_below P2.out hb); have Q3 := Aside0.mk (blk_below B2.out hb); clear c0 c1 c2 zc0 zc1 zc2; have c0 := (blk_cell P3.out 0).trans rfl; have zc0 := blk_frozen P3.out 0; have c1 := (blk_cell P3.out 1).trans rfl; have zc1 := blk_frozen P3.out 1; have c2 := (blk_cell P3.out 2).trans rfl; have zc2 := blk_frozen P3.out 2; have n1 : g3 ≠ g2 := (by have e1 := blk_lt B2.out; have e2 := gq_g3.out; omega); have n2 := n1.symm; have G3 := Aside0.mk (show w.heap.size ≤ g3 by rw [gq_g3.out]; exact HB2.out.size); clear hb HB2 P2 B2))
  refine (fixed_of neg c s d1 d2 d3 _ (fun w0 hb0 => HM.out w0 (below_step HB3.out hb0))).mono ?_
  rintro e w4 ⟨rfl, hb⟩
  have HB4 := Aside0.mk (below_step HB3.out hb)
  have Q4 := Aside0.mk (blk_below Q3.out hb)
  have B4 := Aside0.mk (blk_below B3.out hb)
  clear hb HB3 Q3 B3 P3 HM c0 c1 c2 zc0 zc1 zc2 gq_g1 gq_g2 gq_g3
  go_wp2_with (((with_reducible refine gate_dst (N := 6) rfl ?_); refine box_event ?hg (N := 6) ?hd (cs := #[.bool false, .int .i8 0, .int .u64 0]) (t := 64) ?hr ?_; (case hd => rfl); (case hg => rfl); (case hr => first | (go_simp; done) | (go_simp; rfl)); intro g5 hgq w5 hbx hb; have B5 := Aside0.mk hbx; have gq_g5 := Aside0.mk hgq; clear hbx hgq); have HB5 := Aside0.mk (below_step HB4.out hb); have Q5 := Aside0.mk (blk_below Q4.out hb); have R5 := Aside0.mk (blk_below B4.out hb); clear hb; have q0 := (blk_cell Q5.out 0).trans rfl; have zq0 := blk_frozen Q5.out 0; have q1 := (blk_cell Q5.out 1).trans rfl; have zq1 := blk_frozen Q5.out 1; have q2 := (blk_cell Q5.out 2).trans rfl; have zq2 := blk_frozen Q5.out 2; have r0 := (blk_cell R5.out 0).trans rfl; have zr0 := blk_frozen R5.out 0; have c0 := (blk_cell B5.out 0).trans rfl; have zc0 := blk_frozen B5.out 0; have c1 := (blk_cell B5.out 1).trans rfl; have zc1 := blk_frozen B5.out 1; have c2 := (blk_cell B5.out 2).trans rfl; have zc2 := blk_frozen B5.out 2; have m1 : g5 ≠ g2 := (by have e1 := blk_lt Q4.out; have e2 := gq_g5.out; omega); have m2 := m1.symm; have m3 : g5 ≠ g3 := (by have e1 := blk_lt B4.out; have e2 := gq_g5.out; omega); have m4 := m3.symm; have G5 := Aside0.mk (show w.heap.size ≤ g5 by rw [gq_g5.out]; exact HB4.out.size); clear Q4 B4 HB4)
  have HB6 := Aside0.mk (below_set (j := 2) (v := .int .u64 d3) (below_set (j := 1) (v := .int .i8 d2) (below_set (j := 0) (v := .bool d1) HB5.out G5.out) G5.out) G5.out)
  refine (HR.out _ HB6.out).mono ?_
  rintro e w7 ⟨rfl, hb⟩
  have HB7 := Aside0.mk (below_step HB6.out hb)
  have Q7 := Aside0.mk (blk_below (blk_far (p := ⟨g5, 2, none⟩) (blk_far (p := ⟨g5, 1, none⟩) (blk_far (p := ⟨g5, 0, none⟩) Q5.out m2 (.bool d1)) m2 (.int .i8 d2)) m2 (.int .u64 d3)) hb)
  have R7 := Aside0.mk (blk_below (blk_far (p := ⟨g5, 2, none⟩) (blk_far (p := ⟨g5, 1, none⟩) (blk_far (p := ⟨g5, 0, none⟩) R5.out m4 (.bool d1)) m4 (.int .i8 d2)) m4 (.int .u64 d3)) hb)
  clear hb HB6 HB5 Q5 R5 B5 HR q0 q1 q2 zq0 zq1 zq2 r0 zr0 c0 c1 c2 zc0 zc1 zc2 m1 m2 m3 m4 G5
  go_wp2_with fail
  refine (fix_is r1 r2 r3 _ h0 h9).mono ?_
  rintro e w8 ⟨rfl, hb⟩
  have HB8 := Aside0.mk (below_step HB7.out hb)
  have Q8 := Aside0.mk (blk_below Q7.out hb)
  have R8 := Aside0.mk (blk_below R7.out hb)
  clear hb HB7 Q7 R7
  have q0 := (blk_cell Q8.out 0).trans rfl; have zq0 := blk_frozen Q8.out 0; have q1 := (blk_cell Q8.out 1).trans rfl; have zq1 := blk_frozen Q8.out 1; have q2 := (blk_cell Q8.out 2).trans rfl; have zq2 := blk_frozen Q8.out 2
  have r0 := (blk_cell R8.out 0).trans rfl; have zr0 := blk_frozen R8.out 0
  go_wp2_with fail
  refine leaves_cons (f := 36) (args := #[.pointer (some ⟨g2, 0, none⟩), .pointer (some ⟨g3, 0, none⟩)]) (by simp) (by simp [go_sem]) ?_
  refine (idle_round _ _ _).mono ?_
  rintro e u' w'' ⟨rfl, rfl, rfl⟩
  have HF := Aside0.mk (show Below w.heap.size w ((((w8.setCell ⟨g2, 0, none⟩ (.bool r1)).setCell ⟨g2, 1, none⟩ (.int .u64 r3)).setCell ⟨g2, 2, none⟩ (.int .i64 r2)).setCell ⟨g3, 0, none⟩ (.int .i64 0)) from by repeat (first | (with_reducible first | exact HB8.out | apply below_alloc | apply pw_below_drewN | apply below_drew1 | refine below_set ?_ G2.out | refine below_set ?_ G3.out | refine below_set ?_ (Nat.le_refl _)) | exact HB8.out))
  simp [Leaves, settle, results, Tryd.results18, go_sem, q0, q1, q2, r0, n1, n2]
  exact HF.out
end Go.Proofs.YtcgdphciepdkiaaDoor.G
