/-
  CONTRACTS: the thin package's DecMul.
-/
import Derived.Test.YtghabdpbacgicaaGreatDoorGDm
import Derived.Test.YtghabdpbacgicaaGreatDoorGDec
import Derived.Defers
import Derived.Recover
namespace Go.Proofs.YtghabdpbacgicaaGreatDoor.G
open Go.RowKit Go.Proofs.YtghabdpbacgicaaGreatDoorW.PrintWords Go.Proofs.YtghabdpbacgicaaGreatDoorW.PrintLast Go.Proofs.YtghabdpbacgicaaGreatDoorW.PrintMore Go.Proofs.YtghabdpbacgicaaGreatDoor.S
set_option linter.unusedVariables false
set_option linter.unusedSimpArgs false

set_option maxRecDepth 100000 in
theorem idle_mul (p q : Addr) (w : World) :
    CallsD Tryz.prog 11 #[.pointer (some p), .pointer (some q)] .returning w fun e u' w' => e = .returned (.tuple #[]) ∧ u' = .returning ∧ w' = w := by
  refine callsD_of_wpS Tryz.func11 rfl fun c₀ cs hu => ?_
  apply wpS_seq
  apply wpS_region
  simp [wpOpsS, go_sem, recoverD, hu, Tryz.ntmps11, Exit.thenS]
  refine wpS_cond (t := false) (by simp [Act.eval, Array.replicate]) ?_
  simp only [Bool.false_eq_true, if_false]
  refine wpS_of_wp (wp_skip ?_)
  cases c₀
  simp_all [bodyPostS, results, Tryz.results11]
set_option maxRecDepth 100000 in
set_option maxHeartbeats 1000000 in
theorem implMul_is (s1 s2 : ByteArray) (e1 e2 : Int) (b1 b2 : Bool) (a b : Nat) (kd : Nat) (l0 : List Int) (r : ByteArray) (w : World)
    (hm1 : ∀ w0, Calls Tryz.prog 12 #[datD s1 e1] w0 fun e' w' => ∃ g, e' = .returned (.tuple #[decP g e1, .bool true]) ∧ w0.heap.size ≤ g ∧ IntAt w' w0.heap.size g b1 (L64.lim a) ∧ Below w0.heap.size w0 w')
    (hm2 : ∀ w0, Calls Tryz.prog 12 #[datD s2 e2] w0 fun e' w' => ∃ g, e' = .returned (.tuple #[decP g e2, .bool true]) ∧ w0.heap.size ≤ g ∧ IntAt w' w0.heap.size g b2 (L64.lim b) ∧ Below w0.heap.size w0 w')
    (hv : Thr w) (ha : (L64.lim a).length < 40) (hb : (L64.lim b).length < 40) (h10 : -200 ≤ e1) (h11 : e1 ≤ 200) (h20 : -200 ≤ e2) (h21 : e2 ≤ 200)
    (hsg : decide (sgnI (sgM b1 b2 (a * b)) (L64.lim (a * b)) < 0) = decide (0 < l0.length)) (hdg : impl_digits.f kd l0 (L64.lim (a * b)) = some r) :
    Calls Tryz.prog 6 #[datD s1 e1, datD s2 e2] w fun e' w' => e' = .returned (.tuple #[datD r (e1 + e2), .int .i64 0]) ∧ Below w.heap.size w w' := by
  have hmf : ∀ (fn : Fn) (first cap : Array Value) (w : World), (Instr.makeFunc fn first cap).run Tryz.prog w = .ok (.func fn first cap) w := fun _ _ _ _ => rfl
  have HM1 := Aside0.mk hm1
  have HM2 := Aside0.mk hm2
  have HVt := Aside0.mk (fun w1 (hb : Below w.heap.size w w1) => hv.below hb)
  have HB := Aside0.mk (Below.refl w.heap.size w)
  have HQ := Aside0.mk (fun bx by' gx gy w0 (hX : IntAt w0 bx gx b1 (L64.lim a)) (hY : IntAt w0 by' gy b2 (L64.lim b)) (hne : gx ≠ gy) (hv : Thr w0) => decMul_is bx by' gx gy b1 b2 a b e1 e2 w0 hX hY hne ha hb hv (by omega) (by omega) (by omega) (by omega))
  have HD := Aside0.mk (fun bs g w0 (hI : IntAt w0 bs g (sgM b1 b2 (a * b)) (L64.lim (a * b))) => dec_is kd bs g (sgM b1 b2 (a * b)) l0 (L64.lim (a * b)) r (e1 + e2) w0 hI hsg hdg (by omega) (by omega))
  obtain ⟨E, hE⟩ : ∃ E : Int, e1 + e2 = E := ⟨_, rfl⟩
  rw [hE] at HQ HD ⊢
  clear hm1 hm2 hv ha hb h10 h11 h20 h21 hsg hdg hE
  generalize sgM b1 b2 (a * b) = t at *
  generalize L64.lim (a * b) = l at *
  generalize L64.lim a = x at *
  generalize L64.lim b = y at *
  go_enter_defers Tryz.func6, Tryz.ntmps6
  go_wp2_with (first | (((with_reducible refine gate_dst (N := 2) rfl ?_); refine box_event ?hg (N := 2) ?hd (cs := #[.string s1, .int .i64 e1]) (t := 23) ?hr ?_; (case hd => rfl); (case hg => rfl); (case hr => first | (go_simp; done) | (go_simp; rfl)); intro g1 hgq w1 hbx hb; have B1 := Aside0.mk hbx; have gq_g1 := Aside0.mk hgq; clear hbx hgq); have HB1 := Aside0.mk (below_step HB.out hb); have c0 := (blk_cell B1.out 0).trans rfl; have zc0 := blk_frozen B1.out 0; have c1 := (blk_cell B1.out 1).trans rfl; have zc1 := blk_frozen B1.out 1; clear hb HB) | (((with_reducible refine gate_dst (N := 3) rfl ?_); refine box_event ?hg (N := 3) ?hd (cs := #[.string s2, .int .i64 e2]) (t := 23) ?hr ?_; (case hd => rfl); (case hg => rfl); (case hr => first | (go_simp; done) | (go_simp; rfl)); intro g2 hgq w2 hbx hb; have B2 := Aside0.mk hbx; have gq_g2 := Aside0.mk hgq; clear hbx hgq); have HB2 := Aside0.mk (below_step HB1.out hb); have P2 := Aside0.mk (blk_below B1.out hb); clear c0 c1 zc0 zc1; have c0 := (blk_cell P2.out 0).trans rfl; have zc0 := blk_frozen P2.out 0; have c1 := (blk_cell P2.out 1).trans rfl; have zc1 := blk_frozen P2.out 1; clear hb HB1 B1) | (((with_reducible refine gate_dst (N := 4) rfl ?_); refine box_event ?hg (N := 4) ?hd (cs := #[.string ⟨#[]⟩, .int .i64 0]) (t := 23) ?hr ?_; (case hd => rfl); (case hg => rfl); (case hr => first | (go_simp; done) | (go_simp; rfl)); intro g3 hgq w3 hbx hb; have B3 := Aside0.mk hbx; have gq_g3 := Aside0.mk hgq; clear hbx hgq); have HB3 := Aside0.mk (below_step HB2.out hb); have P3 := Aside0.mk (blk_below P2.out hb); have Q3 := Aside0.mk (blk_below B2.out hb); clear c0 c1 zc0 zc1; have c0 := (blk_cell P3.out 0).trans rfl; have zc0 := blk_frozen P3.out 0; have c1 := (blk_cell P3.out 1).trans rfl; have zc1 := blk_frozen P3.out 1; have G3 := Aside0.mk (show w.heap.size ≤ g3 by rw [gq_g3.out]; exact HB2.out.size); clear hb HB2 P2 B2) | (((with_reducible refine gate_dst (N := 5) rfl ?_); refine box_event ?hg (N := 5) ?hd (cs := #[.int .i64 0]) (t := 3) ?hr ?_; (case hd => rfl); (case hg => rfl); (case hr => first | (go_simp; done) | (go_simp; rfl)); intro g4 hgq w4 hbx hb; have B4 := Aside0.mk hbx; have gq_g4 := Aside0.mk hgq; clear hbx hgq); have HB4 := Aside0.mk (below_step HB3.out hb); have P4 := Aside0.mk (blk_below P3.out hb); have Q4 := Aside0.mk (blk_below Q3.out hb); have R4 := Aside0.mk (blk_below B3.out hb); clear c0 c1 zc0 zc1; have c0 := (blk_cell P4.out 0).trans rfl; have zc0 := blk_frozen P4.out 0; have c1 := (blk_cell P4.out 1).trans rfl; have zc1 := blk_frozen P4.out 1; have n1 : g4 ≠ g3 := (by have e1 := blk_lt B3.out; have e2 := gq_g4.out; omega); have n2 := n1.symm; have G4 := Aside0.mk (show w.heap.size ≤ g4 by rw [gq_g4.out]; exact HB3.out.size); clear hb HB3 P3 Q3 B3))
  refine (HM1.out _).mono ?_
  rintro e' w5 ⟨gx, rfl, hgx, hI, hb⟩
  have HB5 := Aside0.mk (below_step HB4.out hb)
  have Q5 := Aside0.mk (blk_below Q4.out hb)
  have R5 := Aside0.mk (blk_below R4.out hb)
  have S5 := Aside0.mk (blk_below B4.out hb)
  have HX := Aside0.mk hI
  clear hb hI hgx HB4 P4 Q4 R4 B4 HM1 c0 c1 zc0 zc1
  have c0 := (blk_cell Q5.out 0).trans rfl; have zc0 := blk_frozen Q5.out 0; have c1 := (blk_cell Q5.out 1).trans rfl; have zc1 := blk_frozen Q5.out 1
  go_wp2_with (((with_reducible refine gate_dst (N := 6) rfl ?_); refine box_event ?hg (N := 6) ?hd (cs := #[.pointer none, .int .i32 0]) (t := 42) ?hr ?_; (case hd => rfl); (case hg => rfl); (case hr => first | (go_simp; done) | (go_simp; rfl)); intro g5 hgq w6 hbx hb; have B6 := Aside0.mk hbx; have gq_g5 := Aside0.mk hgq; clear hbx hgq); have HB6 := Aside0.mk (below_step HB5.out hb); have Q6 := Aside0.mk (blk_below Q5.out hb); have R6 := Aside0.mk (blk_below R5.out hb); have S6 := Aside0.mk (blk_below S5.out hb); have H6 := Aside0.mk hb; clear hb c0 c1 zc0 zc1; have c0 := (blk_cell Q6.out 0).trans rfl; have zc0 := blk_frozen Q6.out 0; have c1 := (blk_cell Q6.out 1).trans rfl; have zc1 := blk_frozen Q6.out 1; have q0 := (blk_cell B6.out 0).trans rfl; have zq0 := blk_frozen B6.out 0; have q1 := (blk_cell B6.out 1).trans rfl; have zq1 := blk_frozen B6.out 1; have m1 : g5 ≠ g2 := (by have e1 := blk_lt Q5.out; have e2 := gq_g5.out; omega); have m2 := m1.symm; have m3 : g3 ≠ g5 := (by have e1 := blk_lt R5.out; have e2 := gq_g5.out; omega); have m4 : g4 ≠ g5 := (by have e1 := blk_lt S5.out; have e2 := gq_g5.out; omega); have G5 := Aside0.mk (show w5.heap.size ≤ g5 by rw [gq_g5.out]; exact Nat.le_refl _); have G5' := Aside0.mk (show w.heap.size ≤ g5 by rw [gq_g5.out]; exact HB5.out.size); clear HB5 Q5 R5 S5)
  have HB7 := Aside0.mk (below_set (j := 1) (v := .int .i32 e1) (below_set (j := 0) (v := .pointer (some ⟨gx, 0, none⟩)) HB6.out G5'.out) G5'.out)
  have HX7 := Aside0.mk (HX.out.below (below_set (j := 1) (v := .int .i32 e1) (below_set (j := 0) (v := .pointer (some ⟨gx, 0, none⟩)) H6.out G5.out) G5.out))
  have P7 := Aside0.mk (blk_put (cs' := #[.pointer (some ⟨gx, 0, none⟩), .int .i32 e1]) (blk_put (cs' := #[.pointer (some ⟨gx, 0, none⟩), .int .i32 0]) B6.out 0 (.pointer (some ⟨gx, 0, none⟩)) rfl) 1 (.int .i32 e1) rfl)
  have R7 := Aside0.mk (blk_far (p := ⟨g5, 1, none⟩) (blk_far (p := ⟨g5, 0, none⟩) R6.out m3 (.pointer (some ⟨gx, 0, none⟩))) m3 (.int .i32 e1))
  have S7 := Aside0.mk (blk_far (p := ⟨g5, 1, none⟩) (blk_far (p := ⟨g5, 0, none⟩) S6.out m4 (.pointer (some ⟨gx, 0, none⟩))) m4 (.int .i32 e1))
  generalize ((w6.setCell ⟨g5, 0, none⟩ (.pointer (some ⟨gx, 0, none⟩))).setCell ⟨g5, 1, none⟩ (.int .i32 e1)) = w7 at *
  clear HB6 HX B6 R6 S6 Q6 H6 c0 c1 zc0 zc1 q0 q1 zq0 zq1 m1 m2 G5
  refine (HM2.out _).mono ?_
  rintro e' w8 ⟨gy, rfl, hgy, hI, hb⟩
  have Hne := Aside0.mk (show gx ≠ gy by have := HX7.out.lt; omega)
  have HB8 := Aside0.mk (below_step HB7.out hb)
  have P8 := Aside0.mk (blk_below P7.out hb)
  have R8 := Aside0.mk (blk_below R7.out hb)
  have S8 := Aside0.mk (blk_below S7.out hb)
  have HX8 := Aside0.mk (HX7.out.below hb)
  have HY8 := Aside0.mk hI
  clear hgy hI hb HB7 P7 R7 S7 HX7 HM2
  go_wp2_with (((with_reducible refine gate_dst (N := 8) rfl ?_); refine box_event ?hg (N := 8) ?hd (cs := #[.pointer none, .int .i32 0]) (t := 42) ?hr ?_; (case hd => rfl); (case hg => rfl); (case hr => first | (go_simp; done) | (go_simp; rfl)); intro g6 hgq w9 hbx hb; have B9 := Aside0.mk hbx; have gq_g6 := Aside0.mk hgq; clear hbx hgq); have HB9 := Aside0.mk (below_step HB8.out hb); have P9 := Aside0.mk (blk_below P8.out hb); have R9 := Aside0.mk (blk_below R8.out hb); have S9 := Aside0.mk (blk_below S8.out hb); have H9 := Aside0.mk hb; clear hb; have c0 := (blk_cell P9.out 0).trans rfl; have zc0 := blk_frozen P9.out 0; have c1 := (blk_cell P9.out 1).trans rfl; have zc1 := blk_frozen P9.out 1; have q0 := (blk_cell B9.out 0).trans rfl; have zq0 := blk_frozen B9.out 0; have q1 := (blk_cell B9.out 1).trans rfl; have zq1 := blk_frozen B9.out 1; have k1 : g6 ≠ g5 := (by have e1 := blk_lt P8.out; have e2 := gq_g6.out; omega); have k2 := k1.symm; have k3 : g3 ≠ g6 := (by have e1 := blk_lt R8.out; have e2 := gq_g6.out; omega); have k4 : g4 ≠ g6 := (by have e1 := blk_lt S8.out; have e2 := gq_g6.out; omega); have G6 := Aside0.mk (show w8.heap.size ≤ g6 by rw [gq_g6.out]; exact Nat.le_refl _); have G6' := Aside0.mk (show w.heap.size ≤ g6 by rw [gq_g6.out]; exact HB8.out.size); clear HB8 P8 R8 S8)
  have HB10 := Aside0.mk (below_set (j := 1) (v := .int .i32 e2) (below_set (j := 0) (v := .pointer (some ⟨gy, 0, none⟩)) HB9.out G6'.out) G6'.out)
  have hb10 := below_set (j := 1) (v := .int .i32 e2) (below_set (j := 0) (v := .pointer (some ⟨gy, 0, none⟩)) H9.out G6.out) G6.out
  have HX10 := Aside0.mk (HX8.out.below hb10)
  have HY10 := Aside0.mk (HY8.out.below hb10)
  have R10 := Aside0.mk (blk_far (p := ⟨g6, 1, none⟩) (blk_far (p := ⟨g6, 0, none⟩) R9.out k3 (.pointer (some ⟨gy, 0, none⟩))) k3 (.int .i32 e2))
  have S10 := Aside0.mk (blk_far (p := ⟨g6, 1, none⟩) (blk_far (p := ⟨g6, 0, none⟩) S9.out k4 (.pointer (some ⟨gy, 0, none⟩))) k4 (.int .i32 e2))
  generalize ((w9.setCell ⟨g6, 0, none⟩ (.pointer (some ⟨gy, 0, none⟩))).setCell ⟨g6, 1, none⟩ (.int .i32 e2)) = w10 at *
  clear hb10 HB9 HX8 HY8 B9 P9 R9 S9 H9 c0 c1 zc0 zc1 q0 q1 zq0 zq1 k1 k2 G6
  refine (HQ.out _ _ gx gy _ HX10.out HY10.out Hne.out (HVt.out _ HB10.out)).mono ?_
  rintro e' w11 ⟨gz, rfl, hI, hb⟩
  have HB11 := Aside0.mk (below_step HB10.out hb)
  have R11 := Aside0.mk (blk_below R10.out hb)
  have S11 := Aside0.mk (blk_below S10.out hb)
  have HI11 := Aside0.mk hI
  clear hI hb HB10 R10 S10 HX10 HY10 HQ
  go_wp2_with fail
  refine (HD.out _ gz w11 HI11.out).mono ?_
  rintro e' w12 ⟨rfl, hb⟩
  have HB12 := Aside0.mk (below_step HB11.out hb)
  have R12 := Aside0.mk (blk_below R11.out hb)
  have S12 := Aside0.mk (blk_below S11.out hb)
  clear hb HB11 R11 S11 HI11 HD
  have q0 := (blk_cell R12.out 0).trans rfl; have zq0 := blk_frozen R12.out 0; have q1 := (blk_cell R12.out 1).trans rfl; have zq1 := blk_frozen R12.out 1
  have f0 := (blk_cell S12.out 0).trans rfl; have zf0 := blk_frozen S12.out 0
  go_wp2_with fail
  refine leaves_cons (f := 11) (args := #[.pointer (some ⟨g3, 0, none⟩), .pointer (some ⟨g4, 0, none⟩)]) (by simp) (by simp [go_sem]) ?_
  refine (idle_mul _ _ _).mono ?_
  rintro e' u' w'' ⟨rfl, rfl, rfl⟩
  have HF := Aside0.mk (show Below w.heap.size w (((w12.setCell ⟨g3, 0, none⟩ (.string r)).setCell ⟨g3, 1, none⟩ (.int .i64 E)).setCell ⟨g4, 0, none⟩ (.int .i64 0)) from by repeat (first | (with_reducible first | exact HB12.out | apply below_alloc | apply pw_below_drewN | apply below_drew1 | refine below_set ?_ G3.out | refine below_set ?_ G4.out | refine below_set ?_ (Nat.le_refl _)) | exact HB12.out))
  simp [Leaves, settle, results, Tryz.results6, go_sem, q0, q1, f0, n1, n2]
  exact HF.out
end Go.Proofs.YtghabdpbacgicaaGreatDoor.G
