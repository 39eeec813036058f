/-
  CONTRACTS of String and of the thin package's FixText.
-/
import Derived.Test.YtcgdphciepdkiaaDoorGText
import Derived.Test.YtcgdphciepdkiaaDoorGFixed
import Derived.Test.YtcgdphciepdkiaaDoorLmTx
import Derived.Defers
import Derived.Recover
namespace Go.Proofs.YtcgdphciepdkiaaDoor.G
open Go.RowKit Go.Proofs.YtcgdphciepdkiaaDoorW.PrintWords Go.Proofs.YtcgdphciepdkiaaDoorW.PrintLast Go.Proofs.YtcgdphciepdkiaaDoorW.PrintMore Go.Proofs.YtcgdphciepdkiaaDoor.S Go.Proofs.YtcgdphciepdkiaaDoor.Lm
set_option linter.unusedVariables false
set_option linter.unusedSimpArgs false

set_option maxRecDepth 100000 in
theorem make_at (w : World) : (Instr.makeSlice 98 (.int .i64 0) (.int .i64 24)).run Tryd.prog w = .ok (.slice (some ⟨w.heap.size, 0, none⟩) 0 24) (w.alloc (.cells (bufC []) 5)) := by
  have h98 := Tryd.underlying98
  obtain ⟨i0, hi, hz0, hz1, hz2⟩ := info_parts (show (Tryd.prog.info? 5).map (fun i => (i.zero, i.size, i.bytes)) = some (some (.int .u8 0), 1, 1) by kernel_rfl)
  have w24 : IntKind.i64.wrap 24 = 24 := by decide
  have w0 : IntKind.i64.wrap 0 = 0 := by decide
  have hz : Array.map (fun x => [Value.int IntKind.u8 0][x % 1]?.getD default) (Array.range 24) = bufC [] := by kernel_rfl
  simp [Instr.makeSlice, go_sem, h98, run_underlying h98, sizeOf, typeInfo, zeroValue, hi, hz0, hz1, hz2, hz, w24, w0]
  rfl
theorem append_let (neg : Bool) (n s : Nat) (gT : Nat) (w : World) (hn : n < 10 ^ 19) (hs : s ≤ 19) (hT : w.heap[gT]? = some (.cells (bufC []) 5 (0, 0))) :
    Calls Tryd.prog 74 #[decG neg s n, .slice (some ⟨gT, 0, none⟩) 0 24] w fun e w' => e = .returned (.slice (some ⟨gT, 0, none⟩) (letters neg n s).length 24) ∧ (∀ i x, (letters neg n s)[i]? = some x → w'.cell? ⟨gT, i, none⟩ = some (.int .u8 x)) ∧ Below gT w w' := append_is neg n s gT w hn hs hT
set_option maxRecDepth 100000 in
theorem bytes_is (neg : Bool) (n s : Nat) (w : World) (hn : n < 10 ^ 19) (hs : s ≤ 19) :
    Calls Tryd.prog 64 #[decG neg s n] w fun e w' => ∃ g, e = .returned (.slice (some ⟨g, 0, none⟩) (letters neg n s).length 24) ∧ (∀ i x, (letters neg n s)[i]? = some x → w'.cell? ⟨g, i, none⟩ = some (.int .u8 x)) ∧ Below w.heap.size w w' := by
  have HB := Aside0.mk (Below.refl w.heap.size w)
  go_enter Tryd.func64, Tryd.ntmps64
  have hmk := make_at
  go_wp2_with (first | (((with_reducible refine gate_dst (N := 1) rfl ?_); refine box_event ?hg (N := 1) ?hd (cs := #[.bool neg, .int .i8 (s : Int), .int .u64 (n : Int)]) (t := 64) ?hr ?_; (case hd => rfl); (case hg => rfl); (case hr => first | (go_simp; done) | (go_simp; rfl)); intro g1 hgq w1 hbx hb; have B1 := Aside0.mk hbx; have gq_g1 := Aside0.mk hgq; clear hbx hgq); have HB1 := Aside0.mk (below_step HB.out hb); have D1 := Aside0.mk (blk_alloc B1.out (.cells (bufC []) 5)); have c0 := (blk_cell D1.out 0).trans rfl; have zc0 := blk_frozen D1.out 0; have c1 := (blk_cell D1.out 1).trans rfl; have zc1 := blk_frozen D1.out 1; have c2 := (blk_cell D1.out 2).trans rfl; have zc2 := blk_frozen D1.out 2; clear hb HB))
  refine (append_let neg n s w1.heap.size _ hn hs (blk_new w1 _)).mono ?_
  rintro e w2 ⟨rfl, hc, hb⟩
  have HF := Aside0.mk (show Below w.heap.size w w2 from below_step HB1.out (Below.trans (below_alloc (Below.refl w1.heap.size w1) _) hb))
  have HC := Aside0.mk hc
  clear hb hc HB1 D1 c0 c1 c2 zc0 zc1 zc2
  go_wp2_with fail
  exact bodyPost_ret (v := .slice (some ⟨w1.heap.size, 0, none⟩) (letters neg n s).length 24) (by simp [results, Tryd.results64, go_sem]) rfl ⟨_, rfl, HC.out, HF.out⟩
theorem string_is (neg : Bool) (n s : Nat) (w : World) (hn : n < 10 ^ 19) (hs : s ≤ 19) :
    Calls Tryd.prog 43 #[decG neg s n] w fun e w' => e = .returned (.string (strOfNums (letters neg n s))) ∧ Below w.heap.size w w' := by
  have HB := Aside0.mk (Below.refl w.heap.size w)
  go_enter Tryd.func43, Tryd.ntmps43
  go_wp2_with (first | (((with_reducible refine gate_dst (N := 1) rfl ?_); refine box_event ?hg (N := 1) ?hd (cs := #[.bool neg, .int .i8 (s : Int), .int .u64 (n : Int)]) (t := 64) ?hr ?_; (case hd => rfl); (case hg => rfl); (case hr => first | (go_simp; done) | (go_simp; rfl)); intro g1 hgq w1 hbx hb; have B1 := Aside0.mk hbx; have gq_g1 := Aside0.mk hgq; clear hbx hgq); have HB1 := Aside0.mk (below_step HB.out hb); have c0 := (blk_cell B1.out 0).trans rfl; have zc0 := blk_frozen B1.out 0; have c1 := (blk_cell B1.out 1).trans rfl; have zc1 := blk_frozen B1.out 1; have c2 := (blk_cell B1.out 2).trans rfl; have zc2 := blk_frozen B1.out 2; clear hb HB))
  refine (bytes_is neg n s _ hn hs).mono ?_
  rintro e w2 ⟨g, rfl, hc, hb⟩
  have HB2 := Aside0.mk (below_step HB1.out hb)
  have hcv := run_convert_bytes_arg (P := Tryd.prog) w2 98 5 Tryd.underlying98 Tryd.underlying5 g 0 (letters neg n s).length 24 (letters neg n s) rfl (fun i hi => by
    rw [Nat.zero_add]
    exact hc i _ (by rw [List.getD_eq_getElem?_getD, List.getElem?_eq_getElem hi]; rfl)) 9 Tryd.underlying9
  clear hc hb HB1 c0 c1 c2 zc0 zc1 zc2
  go_wp2_with fail
  exact bodyPost_ret (v := .string (strOfNums (letters neg n s))) (by simp [results, Tryd.results43, go_sem]) rfl ⟨rfl, HB2.out⟩
theorem idle_text (p q : Addr) (w : World) :
    CallsD Tryd.prog 42 #[.pointer (some p), .pointer (some q)] .returning w fun e u' w' => e = .returned (.tuple #[]) ∧ u' = .returning ∧ w' = w := by
  refine callsD_of_wpS Tryd.func42 rfl fun c₀ cs hu => ?_
  apply wpS_seq
  apply wpS_region
  simp [wpOpsS, go_sem, recoverD, hu, Tryd.ntmps42, Exit.thenS]
  refine wpS_cond (t := false) (by simp [Act.eval, Array.replicate]) ?_
  simp only [Bool.false_eq_true, if_false]
  refine wpS_of_wp (wp_skip ?_)
  cases c₀
  simp_all [bodyPostS, results, Tryd.results42]
theorem fixText_err (neg : Bool) (c s : Int) (w : World) (d1 : Bool) (d2 d3 : Int) (T : TypeId) (a : Addr) (hm : Makes neg c s d1 d2 d3 (.iface T (.pointer (some a))) w) :
    Calls Tryd.prog 21 #[fixI neg c s] w fun e w' => e = .returned (.tuple #[.string ⟨#[]⟩, .int .i64 3]) ∧ Below w.heap.size w w' := by
  have hmf : ∀ (fn : Fn) (first cap : Array Value) (w : World), (Instr.makeFunc fn first cap).run Tryd.prog w = .ok (.func fn first cap) w := fun _ _ _ _ => rfl
  have HM := Aside0.mk hm
  have HB := Aside0.mk (Below.refl w.heap.size w)
  clear hm
  go_enter_defers Tryd.func21, Tryd.ntmps21
  go_wp2_with (first | (((with_reducible refine gate_dst (N := 1) rfl ?_); refine box_event ?hg (N := 1) ?hd (cs := #[.bool neg, .int .u64 c, .int .i64 s]) (t := 34) ?hr ?_; (case hd => rfl); (case hg => rfl); (case hr => first | (go_simp; done) | (go_simp; rfl)); intro g1 hgq w1 hbx hb; have B1 := Aside0.mk hbx; have gq_g1 := Aside0.mk hgq; clear hbx hgq); have HB1 := Aside0.mk (below_step HB.out hb); have c0 := (blk_cell B1.out 0).trans rfl; have zc0 := blk_frozen B1.out 0; have c1 := (blk_cell B1.out 1).trans rfl; have zc1 := blk_frozen B1.out 1; have c2 := (blk_cell B1.out 2).trans rfl; have zc2 := blk_frozen B1.out 2; clear hb HB) | (((with_reducible refine gate_dst (N := 2) rfl ?_); refine box_event ?hg (N := 2) ?hd (cs := #[.string ⟨#[]⟩]) (t := 9) ?hr ?_; (case hd => rfl); (case hg => rfl); (case hr => first | (go_simp; done) | (go_simp; rfl)); intro g2 hgq w2 hbx hb; have B2 := Aside0.mk hbx; have gq_g2 := Aside0.mk hgq; clear hbx hgq); have HB2 := Aside0.mk (below_step HB1.out hb); have P2 := Aside0.mk (blk_below B1.out hb); clear c0 c1 c2 zc0 zc1 zc2; have c0 := (blk_cell P2.out 0).trans rfl; have zc0 := blk_frozen P2.out 0; have c1 := (blk_cell P2.out 1).trans rfl; have zc1 := blk_frozen P2.out 1; have c2 := (blk_cell P2.out 2).trans rfl; have zc2 := blk_frozen P2.out 2; have G2 := Aside0.mk (show w.heap.size ≤ g2 by rw [gq_g2.out]; exact HB1.out.size); clear hb HB1 B1) | (((with_reducible refine gate_dst (N := 3) rfl ?_); refine box_event ?hg (N := 3) ?hd (cs := #[.int .i64 0]) (t := 3) ?hr ?_; (case hd => rfl); (case hg => rfl); (case hr => first | (go_simp; done) | (go_simp; rfl)); intro g3 hgq w3 hbx hb; have B3 := Aside0.mk hbx; have gq_g3 := Aside0.mk hgq; clear hbx hgq); have HB3 := Aside0.mk (below_step HB2.out hb); have P3 := Aside0.mk (blk_below P2.out hb); have Q3 := Aside0.mk (blk_below B2.out hb); clear c0 c1 c2 zc0 zc1 zc2; have c0 := (blk_cell P3.out 0).trans rfl; have zc0 := blk_frozen P3.out 0; have c1 := (blk_cell P3.out 1).trans rfl; have zc1 := blk_frozen P3.out 1; have c2 := (blk_cell P3.out 2).trans rfl; have zc2 := blk_frozen P3.out 2; have n1 : g3 ≠ g2 := (by have e1 := blk_lt B2.out; have e2 := gq_g3.out; omega); have n2 := n1.symm; have G3 := Aside0.mk (show w.heap.size ≤ g3 by rw [gq_g3.out]; exact HB2.out.size); clear hb HB2 P2 B2))
  refine (fixed_err neg c s _ _ _ _ _ _ (fun w0 hb0 => HM.out w0 (below_step HB3.out hb0))).mono ?_
  rintro e w4 ⟨rfl, hb⟩
  have HB4 := Aside0.mk (below_step HB3.out hb)
  have Q4 := Aside0.mk (blk_below Q3.out hb)
  have B4 := Aside0.mk (blk_below B3.out hb)
  clear hb HB3 Q3 B3 P3 HM c0 c1 c2 zc0 zc1 zc2 gq_g1 gq_g2 gq_g3
  go_wp2_with (((with_reducible refine gate_dst (N := 4) rfl ?_); refine box_event ?hg (N := 4) ?hd (cs := #[.bool false, .int .i8 0, .int .u64 0]) (t := 64) ?hr ?_; (case hd => rfl); (case hg => rfl); (case hr => first | (go_simp; done) | (go_simp; rfl)); intro g5 hgq w5 hbx hb; have B5 := Aside0.mk hbx; have gq_g5 := Aside0.mk hgq; clear hbx hgq); have HB5 := Aside0.mk (below_step HB4.out hb); have Q5 := Aside0.mk (blk_below Q4.out hb); have R5 := Aside0.mk (blk_below B4.out hb); clear hb; have q0 := (blk_cell Q5.out 0).trans rfl; have zq0 := blk_frozen Q5.out 0; have r0 := (blk_cell R5.out 0).trans rfl; have zr0 := blk_frozen R5.out 0; have c0 := (blk_cell B5.out 0).trans rfl; have zc0 := blk_frozen B5.out 0; have c1 := (blk_cell B5.out 1).trans rfl; have zc1 := blk_frozen B5.out 1; have c2 := (blk_cell B5.out 2).trans rfl; have zc2 := blk_frozen B5.out 2; have m1 : g5 ≠ g2 := (by have e1 := blk_lt Q4.out; have e2 := gq_g5.out; omega); have m2 := m1.symm; have m3 : g5 ≠ g3 := (by have e1 := blk_lt B4.out; have e2 := gq_g5.out; omega); have m4 := m3.symm; have G5 := Aside0.mk (show w.heap.size ≤ g5 by rw [gq_g5.out]; exact HB4.out.size); clear HB4 Q4 B4)
  refine leaves_cons (f := 42) (args := #[.pointer (some ⟨g2, 0, none⟩), .pointer (some ⟨g3, 0, none⟩)]) (by simp) (by simp [go_sem]) ?_
  refine (idle_text _ _ _).mono ?_
  rintro e u' w'' ⟨rfl, rfl, rfl⟩
  have HF := Aside0.mk (show Below w.heap.size w (((((w5.setCell ⟨g5, 0, none⟩ (.bool d1)).setCell ⟨g5, 1, none⟩ (.int .i8 d2)).setCell ⟨g5, 2, none⟩ (.int .u64 d3)).setCell ⟨g2, 0, none⟩ (.string ⟨#[]⟩)).setCell ⟨g3, 0, none⟩ (.int .i64 3)) from by repeat (first | (with_reducible first | exact HB5.out | apply below_alloc | apply pw_below_drewN | apply below_drew1 | refine below_set ?_ G2.out | refine below_set ?_ G3.out | refine below_set ?_ G5.out | refine below_set ?_ (Nat.le_refl _)) | exact HB5.out))
  simp [Leaves, settle, results, Tryd.results21, go_sem, q0, r0, c0, c1, c2, n1, n2, m1, m2, m3, m4]
  exact HF.out
theorem fixText_ok (neg : Bool) (c s : Int) (w : World) (d1 : Bool) (n t : Nat) (hn : n < 10 ^ 19) (ht : t ≤ 19) (hm : Makes neg c s d1 t n .nilIface w) :
    Calls Tryd.prog 21 #[fixI neg c s] w fun e w' => e = .returned (.tuple #[.string (strOfNums (letters d1 n t)), .int .i64 0]) ∧ Below w.heap.size w w' := by
  have hmf : ∀ (fn : Fn) (first cap : Array Value) (w : World), (Instr.makeFunc fn first cap).run Tryd.prog w = .ok (.func fn first cap) w := fun _ _ _ _ => rfl
  have HM := Aside0.mk hm
  have HB := Aside0.mk (Below.refl w.heap.size w)
  clear hm
  go_enter_defers Tryd.func21, Tryd.ntmps21
  go_wp2_with (first | (((with_reducible refine gate_dst (N := 1) rfl ?_); refine box_event ?hg (N := 1) ?hd (cs := #[.bool neg, .int .u64 c, .int .i64 s]) (t := 34) ?hr ?_; (case hd => rfl); (case hg => rfl); (case hr => first | (go_simp; done) | (go_simp; rfl)); intro g1 hgq w1 hbx hb; have B1 := Aside0.mk hbx; have gq_g1 := Aside0.mk hgq; clear hbx hgq); have HB1 := Aside0.mk (below_step HB.out hb); have c0 := (blk_cell B1.out 0).trans rfl; have zc0 := blk_frozen B1.out 0; have c1 := (blk_cell B1.out 1).trans rfl; have zc1 := blk_frozen B1.out 1; have c2 := (blk_cell B1.out 2).trans rfl; have zc2 := blk_frozen B1.out 2; clear hb HB) | (((with_reducible refine gate_dst (N := 2) rfl ?_); refine box_event ?hg (N := 2) ?hd (cs := #[.string ⟨#[]⟩]) (t := 9) ?hr ?_; (case hd => rfl); (case hg => rfl); (case hr => first | (go_simp; done) | (go_simp; rfl)); intro g2 hgq w2 hbx hb; have B2 := Aside0.mk hbx; have gq_g2 := Aside0.mk hgq; clear hbx hgq); have HB2 := Aside0.mk (below_step HB1.out hb); have P2 := Aside0.mk (blk_below B1.out hb); clear c0 c1 c2 zc0 zc1 zc2; have c0 := (blk_cell P2.out 0).trans rfl; have zc0 := blk_frozen P2.out 0; have c1 := (blk_cell P2.out 1).trans rfl; have zc1 := blk_frozen P2.out 1; have c2 := (blk_cell P2.out 2).trans rfl; have zc2 := blk_frozen P2.out 2; have G2 := Aside0.mk (show w.heap.size ≤ g2 by rw [gq_g2.out]; exact HB1.out.size); clear hb HB1 B1) | (((with_reducible refine gate_dst (N := 3) rfl ?_); refine box_event ?hg (N := 3) ?hd (cs := #[.int .i64 0]) (t := 3) ?hr ?_; (case hd => rfl); (case hg => rfl); (case hr => first | (go_simp; done) | (go_simp; rfl)); intro g3 hgq w3 hbx hb; have B3 := Aside0.mk hbx; have gq_g3 := Aside0.mk hgq; clear hbx hgq); have HB3 := Aside0.mk (below_step HB2.out hb); have P3 := Aside0.mk (blk_below P2.out hb); have Q3 := Aside0.mk (blk_below B2.out hb); clear c0 c1 c2 zc0 zc1 zc2; have c0 := (blk_cell P3.out 0).trans rfl; have zc0 := blk_frozen P3.out 0; have c1 := (blk_cell P3.out 1).trans rfl; have zc1 := blk_frozen P3.out 1; have c2 := (blk_cell P3.out 2).trans rfl; have zc2 := blk_frozen P3.out 2; have n1 : g3 ≠ g2 := (by have e1 := blk_lt B2.out; have e2 := gq_g3.out; omega); have n2 := n1.symm; have G3 := Aside0.mk (show w.heap.size ≤ g3 by rw [gq_g3.out]; exact HB2.out.size); clear hb HB2 P2 B2))
  refine (fixed_of neg c s d1 t n _ (fun w0 hb0 => HM.out w0 (below_step HB3.out hb0))).mono ?_
  rintro e w4 ⟨rfl, hb⟩
  have HB4 := Aside0.mk (below_step HB3.out hb)
  have Q4 := Aside0.mk (blk_below Q3.out hb)
  have B4 := Aside0.mk (blk_below B3.out hb)
  clear hb HB3 Q3 B3 P3 HM c0 c1 c2 zc0 zc1 zc2 gq_g1 gq_g2 gq_g3
  go_wp2_with (((with_reducible refine gate_dst (N := 4) rfl ?_); refine box_event ?hg (N := 4) ?hd (cs := #[.bool false, .int .i8 0, .int .u64 0]) (t := 64) ?hr ?_; (case hd => rfl); (case hg => rfl); (case hr => first | (go_simp; done) | (go_simp; rfl)); intro g5 hgq w5 hbx hb; have B5 := Aside0.mk hbx; have gq_g5 := Aside0.mk hgq; clear hbx hgq); have HB5 := Aside0.mk (below_step HB4.out hb); have Q5 := Aside0.mk (blk_below Q4.out hb); have R5 := Aside0.mk (blk_below B4.out hb); clear hb; have q0 := (blk_cell Q5.out 0).trans rfl; have zq0 := blk_frozen Q5.out 0; have r0 := (blk_cell R5.out 0).trans rfl; have zr0 := blk_frozen R5.out 0; have c0 := (blk_cell B5.out 0).trans rfl; have zc0 := blk_frozen B5.out 0; have c1 := (blk_cell B5.out 1).trans rfl; have zc1 := blk_frozen B5.out 1; have c2 := (blk_cell B5.out 2).trans rfl; have zc2 := blk_frozen B5.out 2; have m1 : g5 ≠ g2 := (by have e1 := blk_lt Q4.out; have e2 := gq_g5.out; omega); have m2 := m1.symm; have m3 : g5 ≠ g3 := (by have e1 := blk_lt B4.out; have e2 := gq_g5.out; omega); have m4 := m3.symm; have G5 := Aside0.mk (show w.heap.size ≤ g5 by rw [gq_g5.out]; exact HB4.out.size); clear HB4 Q4 B4)
  have HB6 := Aside0.mk (below_set (j := 2) (v := .int .u64 n) (below_set (j := 1) (v := .int .i8 t) (below_set (j := 0) (v := .bool d1) HB5.out G5.out) G5.out) G5.out)
  refine (string_is d1 n t _ hn ht).mono ?_
  rintro e w7 ⟨rfl, hb⟩
  have HB7 := Aside0.mk (below_step HB6.out hb)
  have Q7 := Aside0.mk (blk_below (blk_far (p := ⟨g5, 2, none⟩) (blk_far (p := ⟨g5, 1, none⟩) (blk_far (p := ⟨g5, 0, none⟩) Q5.out m2 (.bool d1)) m2 (.int .i8 t)) m2 (.int .u64 n)) hb)
  have R7 := Aside0.mk (blk_below (blk_far (p := ⟨g5, 2, none⟩) (blk_far (p := ⟨g5, 1, none⟩) (blk_far (p := ⟨g5, 0, none⟩) R5.out m4 (.bool d1)) m4 (.int .i8 t)) m4 (.int .u64 n)) hb)
  clear hb HB6 HB5 Q5 R5 B5 q0 zq0 r0 zr0 c0 c1 c2 zc0 zc1 zc2 m1 m2 m3 m4 G5
  have q0 := (blk_cell Q7.out 0).trans rfl; have zq0 := blk_frozen Q7.out 0
  have r0 := (blk_cell R7.out 0).trans rfl; have zr0 := blk_frozen R7.out 0
  go_wp2_with fail
  refine leaves_cons (f := 42) (args := #[.pointer (some ⟨g2, 0, none⟩), .pointer (some ⟨g3, 0, none⟩)]) (by simp) (by simp [go_sem]) ?_
  refine (idle_text _ _ _).mono ?_
  rintro e u' w'' ⟨rfl, rfl, rfl⟩
  have HF := Aside0.mk (show Below w.heap.size w ((w7.setCell ⟨g2, 0, none⟩ (.string (strOfNums (letters d1 n t)))).setCell ⟨g3, 0, none⟩ (.int .i64 0)) from by repeat (first | (with_reducible first | exact HB7.out | apply below_alloc | apply pw_below_drewN | apply below_drew1 | refine below_set ?_ G2.out | refine below_set ?_ G3.out | refine below_set ?_ (Nat.le_refl _)) | exact HB7.out))
  simp [Leaves, settle, results, Tryd.results21, go_sem, q0, r0, n1, n2]
  exact HF.out
end Go.Proofs.YtcgdphciepdkiaaDoor.G
