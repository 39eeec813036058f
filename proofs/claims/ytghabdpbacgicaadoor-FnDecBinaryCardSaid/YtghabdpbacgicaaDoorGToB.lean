/-
  CONTRACTS: the thin package's DecToBinary.
-/
import Derived.Test.YtghabdpbacgicaaDoorGMar
import Derived.Defers
import Derived.Recover
namespace Go.Proofs.YtghabdpbacgicaaDoor.G
open Go.RowKit Go.Proofs.YtghabdpbacgicaaDoorW.PrintWords Go.Proofs.YtghabdpbacgicaaDoorW.PrintLast Go.Proofs.YtghabdpbacgicaaDoorW.PrintMore Go.Proofs.YtghabdpbacgicaaDoor.S
set_option linter.unusedVariables false
set_option linter.unusedSimpArgs false

set_option maxRecDepth 100000 in
theorem idle_toB (p q : Addr) (w : World) :
    CallsD Tryd.prog 13 #[.pointer (some p), .pointer (some q)] .returning w fun e u' w' => e = .returned (.tuple #[]) ∧ u' = .returning ∧ w' = w := by
  refine callsD_of_wpS Tryd.func13 rfl fun c₀ cs hu => ?_
  apply wpS_seq
  apply wpS_region
  simp [wpOpsS, go_sem, recoverD, hu, Tryd.ntmps13, Exit.thenS]
  refine wpS_cond (t := false) (by simp [Act.eval, Array.replicate]) ?_
  simp only [Bool.false_eq_true, if_false]
  refine wpS_of_wp (wp_skip ?_)
  cases c₀
  simp_all [bodyPostS, results, Tryd.results13]
set_option maxRecDepth 100000 in
theorem toB_is (s : ByteArray) (e v : Int) (k : Nat) (b : Bool) (l : List Int) (i : Nat) (buf : List Int) (w : World)
    (hm : ∀ w0, Below w.heap.size w w0 → Calls Tryd.prog 14 #[datD s e] w0 fun e' w' => ∃ g, e' = .returned (.tuple #[decP g e, .bool true]) ∧ IntAt w' w0.heap.size g b l ∧ Below w0.heap.size w0 w')
    (hl : l.length ≤ 1000) (h : bigall_nat_bytes.f k l (List.replicate (1 + l.length * 8) 0) = some ((i : Int), buf)) (hi0 : 1 ≤ i) (hi1 : i ≤ 1 + l.length * 8) (hbl : buf.length = 1 + l.length * 8) (hv : IntKind.u32.wrap e = v) (hv0 : 0 ≤ v) (hv1 : v < 4294967296) :
    Calls Tryd.prog 7 #[datD s e] w fun e' w' => ∃ gR, e' = .returned (.tuple #[.slice (some ⟨gR, 0, none⟩) (marB v (gobB b i buf)).length (marB v (gobB b i buf)).length, .int .i64 0]) ∧ w'.heap[gR]? = some (.cells (u8s (marB v (gobB b i buf))).toArray 5 (0, 0)) ∧ Below w.heap.size w w' := by
  have hmf : ∀ (fn : Fn) (first cap : Array Value) (w : World), (Instr.makeFunc fn first cap).run Tryd.prog w = .ok (.func fn first cap) w := fun _ _ _ _ => rfl
  have HM := Aside0.mk hm
  have HB := Aside0.mk (Below.refl w.heap.size w)
  have HQ := Aside0.mk (fun bs g w0 (hI : IntAt w0 bs g b l) => marshal_is k bs g b l e v i buf w0 hI hl h hi0 hi1 hbl hv hv0 hv1)
  obtain ⟨G, hG⟩ : ∃ G, marB v (gobB b i buf) = G := ⟨_, rfl⟩
  rw [hG] at HQ ⊢
  clear hm hl h hi0 hi1 hbl hv hv0 hv1 hG
  go_enter_defers Tryd.func7, Tryd.ntmps7
  go_wp2_with (first | (((with_reducible refine gate_dst (N := 1) rfl ?_); refine box_event ?hg (N := 1) ?hd (cs := #[.string s, .int .i64 e]) (t := 23) ?hr ?_; (case hd => rfl); (case hg => rfl); (case hr => first | (go_simp; done) | (go_simp; rfl)); intro g1 hgq w1 hbx hb; have B1 := Aside0.mk hbx; have gq_g1 := Aside0.mk hgq; clear hbx hgq); have HB1 := Aside0.mk (below_step HB.out hb); have c0 := (blk_cell B1.out 0).trans rfl; have zc0 := blk_frozen B1.out 0; have c1 := (blk_cell B1.out 1).trans rfl; have zc1 := blk_frozen B1.out 1; clear hb HB) | (((with_reducible refine gate_dst (N := 2) rfl ?_); refine box_event ?hg (N := 2) ?hd (cs := #[.slice none 0 0]) (t := 34) ?hr ?_; (case hd => rfl); (case hg => rfl); (case hr => first | (go_simp; done) | (go_simp; rfl)); intro g2 hgq w2 hbx hb; have B2 := Aside0.mk hbx; have gq_g2 := Aside0.mk hgq; clear hbx hgq); have HB2 := Aside0.mk (below_step HB1.out hb); have P2 := Aside0.mk (blk_below B1.out hb); clear c0 c1 zc0 zc1; have c0 := (blk_cell P2.out 0).trans rfl; have zc0 := blk_frozen P2.out 0; have c1 := (blk_cell P2.out 1).trans rfl; have zc1 := blk_frozen P2.out 1; have G2 := Aside0.mk (show w.heap.size ≤ g2 by rw [gq_g2.out]; exact HB1.out.size); clear hb HB1 B1) | (((with_reducible refine gate_dst (N := 3) rfl ?_); refine box_event ?hg (N := 3) ?hd (cs := #[.int .i64 0]) (t := 3) ?hr ?_; (case hd => rfl); (case hg => rfl); (case hr => first | (go_simp; done) | (go_simp; rfl)); intro g3 hgq w3 hbx hb; have B3 := Aside0.mk hbx; have gq_g3 := Aside0.mk hgq; clear hbx hgq); have HB3 := Aside0.mk (below_step HB2.out hb); have P3 := Aside0.mk (blk_below P2.out hb); have Q3 := Aside0.mk (blk_below B2.out hb); clear c0 c1 zc0 zc1; have c0 := (blk_cell P3.out 0).trans rfl; have zc0 := blk_frozen P3.out 0; have c1 := (blk_cell P3.out 1).trans rfl; have zc1 := blk_frozen P3.out 1; have n1 : g3 ≠ g2 := (by have e1 := blk_lt B2.out; have e2 := gq_g3.out; omega); have n2 := n1.symm; have G3 := Aside0.mk (show w.heap.size ≤ g3 by rw [gq_g3.out]; exact HB2.out.size); clear hb HB2 P2 B2))
  refine (HM.out _ HB3.out).mono ?_
  rintro e' w4 ⟨g, rfl, hI, hb⟩
  have HB4 := Aside0.mk (below_step HB3.out hb)
  have Q4 := Aside0.mk (blk_below Q3.out hb)
  have B4 := Aside0.mk (blk_below B3.out hb)
  have HI := Aside0.mk hI
  clear hb hI HB3 Q3 B3 P3 HM c0 c1 zc0 zc1 gq_g1 gq_g2 gq_g3
  go_wp2_with (((with_reducible refine gate_dst (N := 4) rfl ?_); refine box_event ?hg (N := 4) ?hd (cs := #[.pointer none, .int .i32 0]) (t := 45) ?hr ?_; (case hd => rfl); (case hg => rfl); (case hr => first | (go_simp; done) | (go_simp; rfl)); intro g5 hgq w5 hbx hb; have B5 := Aside0.mk hbx; have gq_g5 := Aside0.mk hgq; clear hbx hgq); have HB5 := Aside0.mk (below_step HB4.out hb); have Q5 := Aside0.mk (blk_below Q4.out hb); have R5 := Aside0.mk (blk_below B4.out hb); have H5 := Aside0.mk hb; clear hb; have q0 := (blk_cell Q5.out 0).trans rfl; have zq0 := blk_frozen Q5.out 0; have r0 := (blk_cell R5.out 0).trans rfl; have zr0 := blk_frozen R5.out 0; have c0 := (blk_cell B5.out 0).trans rfl; have zc0 := blk_frozen B5.out 0; have c1 := (blk_cell B5.out 1).trans rfl; have zc1 := blk_frozen B5.out 1; have m1 : g5 ≠ g2 := (by have e1 := blk_lt Q4.out; have e2 := gq_g5.out; omega); have m2 := m1.symm; have m3 : g5 ≠ g3 := (by have e1 := blk_lt B4.out; have e2 := gq_g5.out; omega); have m4 := m3.symm; have G5 := Aside0.mk (show w.heap.size ≤ g5 by rw [gq_g5.out]; exact HB4.out.size); clear HB4 Q4 B4)
  have HB6 := Aside0.mk (below_set (j := 1) (v := .int .i32 e) (below_set (j := 0) (v := .pointer (some ⟨g, 0, none⟩)) HB5.out G5.out) G5.out)
  have hI6 := HI.out.below (below_set (j := 1) (v := .int .i32 e) (below_set (j := 0) (v := .pointer (some ⟨g, 0, none⟩)) H5.out (Nat.le_of_eq gq_g5.out.symm)) (Nat.le_of_eq gq_g5.out.symm))
  refine (HQ.out _ g _ hI6).mono ?_
  rintro e' w7 ⟨gR, rfl, hC, hg, hb⟩
  have HB7 := Aside0.mk (below_step HB6.out hb)
  have Q7 := Aside0.mk (blk_below (blk_far (p := ⟨g5, 1, none⟩) (blk_far (p := ⟨g5, 0, none⟩) Q5.out m2 (.pointer (some ⟨g, 0, none⟩))) m2 (.int .i32 e)) hb)
  have R7 := Aside0.mk (blk_below (blk_far (p := ⟨g5, 1, none⟩) (blk_far (p := ⟨g5, 0, none⟩) R5.out m4 (.pointer (some ⟨g, 0, none⟩))) m4 (.int .i32 e)) hb)
  have e2 := blk_lt Q5.out
  have e3 := blk_lt R5.out
  have hg' : w5.heap.size ≤ gR := by simpa using hg
  have HC := Aside0.mk (blk_far (p := ⟨g3, 0, none⟩) (blk_far (p := ⟨g2, 0, none⟩) hC (by show gR ≠ g2; omega) (.slice (some ⟨gR, 0, none⟩) G.length G.length)) (by show gR ≠ g3; omega) (.int .i64 0))
  clear hb hg hg' e2 e3 hC hI6 HB6 HB5 Q5 R5 B5 q0 zq0 r0 zr0 c0 c1 zc0 zc1 m1 m2 m3 m4 G5 H5 HI HQ gq_g5
  have q0 := (blk_cell Q7.out 0).trans rfl; have zq0 := blk_frozen Q7.out 0
  have r0 := (blk_cell R7.out 0).trans rfl; have zr0 := blk_frozen R7.out 0
  go_wp2_with fail
  refine leaves_cons (f := 13) (args := #[.pointer (some ⟨g2, 0, none⟩), .pointer (some ⟨g3, 0, none⟩)]) (by simp) (by simp [go_sem]) ?_
  refine (idle_toB _ _ _).mono ?_
  rintro e u' w'' ⟨rfl, rfl, rfl⟩
  have HF := Aside0.mk (show Below w.heap.size w ((w7.setCell ⟨g2, 0, none⟩ (.slice (some ⟨gR, 0, none⟩) G.length G.length)).setCell ⟨g3, 0, none⟩ (.int .i64 0)) from by repeat (first | (with_reducible first | exact HB7.out | apply below_alloc | apply pw_below_drewN | apply below_drew1 | refine below_set ?_ G2.out | refine below_set ?_ G3.out | refine below_set ?_ (Nat.le_refl _)) | exact HB7.out))
  simp [Leaves, settle, results, Tryd.results7, go_sem, q0, r0, n1, n2]
  exact ⟨HC.out, HF.out⟩
end Go.Proofs.YtghabdpbacgicaaDoor.G
