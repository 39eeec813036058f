/-
  CONTRACTS: the thin package's DecFromBinary.
-/
import Derived.Test.YtghabdpbacgicaaDoorGDec
namespace Go.Proofs.YtghabdpbacgicaaDoor.G
open Go.RowKit Go.Proofs.YtghabdpbacgicaaDoorW.PrintWords Go.Proofs.YtghabdpbacgicaaDoorW.PrintLast Go.Proofs.YtghabdpbacgicaaDoorW.PrintMore Go.Proofs.YtghabdpbacgicaaDoor.S
set_option linter.unusedVariables false
set_option linter.unusedSimpArgs false

set_option maxRecDepth 100000 in
theorem idle_frB (p q : Addr) (w : World) :
    CallsD Tryd.prog 16 #[.pointer (some p), .pointer (some q)] .returning w fun e u' w' => e = .returned (.tuple #[]) ∧ u' = .returning ∧ w' = w := by
  refine callsD_of_wpS Tryd.func16 rfl fun c₀ cs hu => ?_
  apply wpS_seq
  apply wpS_region
  simp [wpOpsS, go_sem, recoverD, hu, Tryd.ntmps16, Exit.thenS]
  refine wpS_cond (t := false) (by simp [Act.eval, Array.replicate]) ?_
  simp only [Bool.false_eq_true, if_false]
  refine wpS_of_wp (wp_skip ?_)
  cases c₀
  simp_all [bodyPostS, results, Tryd.results16]
set_option maxRecDepth 100000 in
theorem frB_is (k kd : Nat) (gR : Nat) (b : Bool) (a0 a1 a2 a3 sb : Int) (T l l0 : List Int) (r : ByteArray) (e : Int) (w : World) (hR : w.heap[gR]? = some (.cells (u8s (a0 :: a1 :: a2 :: a3 :: sb :: T)).toArray 5 (0, 0)))
    (hv : ∃ o, w.heap[1]? = some o ∧ w.cell? ⟨1, 0, none⟩ = some (.int .i64 10000))
    (hl : T.length ≤ 390) (hs : sb = if b then 3 else 2) (h : bigall_nat_setBytes.f k [] T = some l) (he : IntKind.i32.wrap (ub4 a0 a1 a2 a3) = e) (he0 : -400 ≤ e) (he1 : e ≤ 400)
    (hsg : decide (sgnI b l < 0) = decide (0 < l0.length)) (hdg : impl_digits.f kd l0 l = some r) :
    Calls Tryd.prog 8 #[.slice (some ⟨gR, 0, none⟩) (T.length + 5) (T.length + 5)] w fun e' w' => e' = .returned (.tuple #[datD r e, .int .i64 0]) ∧ Below w.heap.size w w' := by
  have hmf : ∀ (fn : Fn) (first cap : Array Value) (w : World), (Instr.makeFunc fn first cap).run Tryd.prog w = .ok (.func fn first cap) w := fun _ _ _ _ => rfl
  obtain ⟨ov, hv0, hv1⟩ := hv
  have HV0 := Aside0.mk hv0
  have HV1 := Aside0.mk hv1
  have HB := Aside0.mk (Below.refl w.heap.size w)
  have R0 := Aside0.mk hR
  have HU := Aside0.mk (fun ws g4 w1 h4 hR hne hv hv4 hb hbg => unmarshal_is k ws g4 gR b a0 a1 a2 a3 sb T l e w1 h4 hR hne hv hv4 (by omega) hs hb hbg h he he0 he1)
  have HD := Aside0.mk (fun bs g w1 hI => dec_is kd bs g b l0 l r e w1 hI hsg hdg he0 he1)
  obtain ⟨n, hn⟩ : ∃ n, T.length = n := ⟨_, rfl⟩
  have hn4 : decide (400 < (n : Int) + 5) = false := decide_eq_false (by omega)
  have hn5 : decide (400 < n + 5) = false := decide_eq_false (by omega)
  rw [hn] at HU ⊢
  clear hv0 hv1 hR h hs hl hn he he0 he1 hsg hdg
  go_enter_defers Tryd.func8, Tryd.ntmps8
  go_wp2_with (first | (((with_reducible refine gate_dst (N := 2) rfl ?_); refine box_event ?hg (N := 2) ?hd (cs := #[.string ⟨#[]⟩, .int .i64 0]) (t := 23) ?hr ?_; (case hd => rfl); (case hg => rfl); (case hr => first | (go_simp; done) | (go_simp; rfl)); intro g2 hgq w2 hbx hb; have B2 := Aside0.mk hbx; have gq_g2 := Aside0.mk hgq; clear hbx hgq); have HB2 := Aside0.mk (below_step HB.out hb); have R2 := Aside0.mk (blk_below R0.out hb); have G2 := Aside0.mk (show w.heap.size ≤ g2 by rw [gq_g2.out]; exact Nat.le_refl _); clear hb HB) | (((with_reducible refine gate_dst (N := 3) rfl ?_); refine box_event ?hg (N := 3) ?hd (cs := #[.int .i64 0]) (t := 3) ?hr ?_; (case hd => rfl); (case hg => rfl); (case hr => first | (go_simp; done) | (go_simp; rfl)); intro g3 hgq w3 hbx hb; have B3 := Aside0.mk hbx; have gq_g3 := Aside0.mk hgq; clear hbx hgq); have HB3 := Aside0.mk (below_step HB2.out hb); have R3 := Aside0.mk (blk_below R2.out hb); have Q3 := Aside0.mk (blk_below B2.out hb); have n1 : g3 ≠ g2 := (by have e1 := blk_lt B2.out; have e2 := gq_g3.out; omega); have n2 := n1.symm; have G3 := Aside0.mk (show w.heap.size ≤ g3 by rw [gq_g3.out]; exact HB2.out.size); clear hb HB2 R2 B2) | (((with_reducible refine gate_dst (N := 4) rfl ?_); refine box_event ?hg (N := 4) ?hd (cs := #[.pointer none, .int .i32 0]) (t := 45) ?hr ?_; (case hd => rfl); (case hg => rfl); (case hr => first | (go_simp; done) | (go_simp; rfl)); intro g4 hgq w4 hbx hb; have B4 := Aside0.mk hbx; have gq_g4 := Aside0.mk hgq; clear hbx hgq); have HB4 := Aside0.mk (below_step HB3.out hb); have R4 := Aside0.mk (blk_below R3.out hb); have HB3' := Aside0.mk HB3.out; have m1 : g4 ≠ g2 := (by have e1 := blk_lt Q3.out; have e2 := gq_g4.out; omega); have m2 := m1.symm; have m3 : g4 ≠ g3 := (by have e1 := blk_lt B3.out; have e2 := gq_g4.out; omega); have m4 := m3.symm; have G4 := Aside0.mk (show w.heap.size ≤ g4 by rw [gq_g4.out]; exact HB3.out.size); have HE4 := Aside0.mk (show w3.heap.size ≤ g4 by rw [gq_g4.out]; exact Nat.le_refl _); have HF4 := Aside0.mk hb; clear hb HB3 R3))
  have hne : gR ≠ g4 := by have e1 := blk_lt R0.out; have e2 := G4.out; omega
  have hv4 : 1 ≠ g4 := by have e1 := blk_lt HV0.out; have e2 := G4.out; omega
  have hvw : ∃ o, w4.heap[1]? = some o ∧ w4.cell? ⟨1, 0, none⟩ = some (.int .i64 10000) := ⟨ov, blk_below HV0.out HB4.out, (HB4.out.cell (p := ⟨1, 0, none⟩) (blk_lt HV0.out)).trans HV1.out⟩
  refine (HU.out w3 g4 w4 B4.out R4.out hne hvw hv4 HF4.out HE4.out).mono ?_
  rintro e' w5 ⟨rfl, g, hB5, hI, hb⟩
  have B5 := Aside0.mk hB5
  have HI := Aside0.mk hI
  have HB5 := Aside0.mk (below_step HB3'.out hb)
  have Q5 := Aside0.mk (blk_below Q3.out hb)
  have P5 := Aside0.mk (blk_below B3.out hb)
  have c0 := (blk_cell B5.out 0).trans rfl; have zc0 := blk_frozen B5.out 0; have c1 := (blk_cell B5.out 1).trans rfl; have zc1 := blk_frozen B5.out 1
  clear hB5 hI hb hne hv4 hvw HU HB4 Q3 B3 B4 R4 HF4
  go_wp2_with fail
  refine (HD.out _ g w5 HI.out).mono ?_
  rintro e' w6 ⟨rfl, hb⟩
  have HB6 := Aside0.mk (below_step HB5.out hb)
  have Q6 := Aside0.mk (blk_below Q5.out hb)
  have P6 := Aside0.mk (blk_below P5.out hb)
  clear hb c0 c1 zc0 zc1 B5 HI HD HB5 Q5 P5
  have q0 := (blk_cell Q6.out 0).trans rfl; have zq0 := blk_frozen Q6.out 0; have q1 := (blk_cell Q6.out 1).trans rfl; have zq1 := blk_frozen Q6.out 1
  have r0 := (blk_cell P6.out 0).trans rfl; have zr0 := blk_frozen P6.out 0
  go_wp2_with fail
  refine leaves_cons (f := 16) (args := #[.pointer (some ⟨g2, 0, none⟩), .pointer (some ⟨g3, 0, none⟩)]) (by simp) (by simp [go_sem]) ?_
  refine (idle_frB _ _ _).mono ?_
  rintro e' u' w'' ⟨rfl, rfl, rfl⟩
  have HF := Aside0.mk (show Below w.heap.size w (((w6.setCell ⟨g2, 0, none⟩ (.string r)).setCell ⟨g2, 1, none⟩ (.int .i64 e)).setCell ⟨g3, 0, none⟩ (.int .i64 0)) from by repeat (first | (with_reducible first | exact HB6.out | apply below_alloc | apply pw_below_drewN | apply below_drew1 | refine below_set ?_ G2.out | refine below_set ?_ G3.out | refine below_set ?_ (Nat.le_refl _)) | exact HB6.out))
  simp [Leaves, settle, results, Tryd.results8, go_sem, q0, q1, r0, n1, n2]
  exact HF.out
end Go.Proofs.YtghabdpbacgicaaDoor.G
