/-
  A row of two Fix; THE WALK of the law of FixQuantize: what it answers, of what the thin package answers.
-/
import Derived.Test.YtcgdphciepdkiaaDoorGMake
import Derived.Test.YtcgdphciepdkiaaDoorSAll
import Derived.Test.YtcgdphciepdkiaaDoorLmF
import Derived.Test.YtcgdphciepdkiaaDoorSSca
import Derived.Test.YtcgdphciepdkiaaDoorSSame
import Derived.Deep.RegionHeld3
import Derived.Test.YtcgdphciepdkiaaDoorKeep
import Derived.Outline
namespace Go.Proofs.YtcgdphciepdkiaaDoor.G
open Go.RowKit Go.Proofs.YtcgdphciepdkiaaDoorW.PrintWords Go.Proofs.YtcgdphciepdkiaaDoorW.PrintLast Go.Proofs.YtcgdphciepdkiaaDoorW.PrintMore Go.Proofs.YtcgdphciepdkiaaDoor.S
set_option linter.unusedVariables false
set_option linter.unusedSimpArgs false

theorem k34sz : k34.sz = 3 := rfl
theorem C_two {w : World} {g : Nat} {t : TypeId} {a a' : Bool} {b c b' c' : Int} (h : w.heap[g]? = some (.cells #[.bool a, .int .u64 b, .int .i64 c, .bool a', .int .u64 b', .int .i64 c'] t (0, 0))) :
    Kd.C k34 w (some ⟨g, 0, none⟩) 2 [⟨a, b, c⟩, ⟨a', b', c'⟩] := by
  refine ⟨rfl, by omega, fun _ => ⟨_, rfl, fun j p hj => ?_⟩⟩
  have hc := fun i => blk_cell h i
  match j, hj with
  | 0, hj =>
    obtain rfl : S34.mk a b c = p := by simpa using hj
    refine ⟨[.bool a, .int .u64 b, .int .i64 c], rfl, k34_mk w ⟨a, b, c⟩, fun i u hi => ?_⟩
    match i, hi with
    | 0, hi => obtain rfl : Value.bool a = u := by simpa using hi
               simpa [Addr.add, k34sz] using hc 0
    | 1, hi => obtain rfl : Value.int .u64 b = u := by simpa using hi
               simpa [Addr.add, k34sz] using hc 1
    | 2, hi => obtain rfl : Value.int .i64 c = u := by simpa using hi
               simpa [Addr.add, k34sz] using hc 2
    | i + 3, hi => simp at hi
  | 1, hj =>
    obtain rfl : S34.mk a' b' c' = p := by simpa using hj
    refine ⟨[.bool a', .int .u64 b', .int .i64 c'], rfl, k34_mk w ⟨a', b', c'⟩, fun i u hi => ?_⟩
    match i, hi with
    | 0, hi => obtain rfl : Value.bool a' = u := by simpa using hi
               simpa [Addr.add, k34sz] using hc 3
    | 1, hi => obtain rfl : Value.int .u64 b' = u := by simpa using hi
               simpa [Addr.add, k34sz] using hc 4
    | 2, hi => obtain rfl : Value.int .i64 c' = u := by simpa using hi
               simpa [Addr.add, k34sz] using hc 5
    | i + 3, hi => simp at hi
  | j + 2, hj => simp at hj
/-- Both are decimals. -/
theorem all_two (a a' : Bool) (b c b' c' : Int) : Lm.Ev (fun k => spec_FixAll.f k [⟨a, b, c⟩, ⟨a', b', c'⟩]) (decide (b ≤ 9999999999999999999 ∧ 0 ≤ c ∧ c ≤ 19) && decide (b' ≤ 9999999999999999999 ∧ 0 ≤ c' ∧ c' ≤ 19)) := by
  unfold spec_FixAll.f
  refine Lm.Ev.step ?_
  simp only [spec_FixAll.l0, List.length_cons, List.length_nil]
  refine Lm.Ev.pos (by omega) (Lm.Ev.pos (by omega) (Lm.Ev.pos (by omega) ?_))
  refine Lm.Ev.bind (Lm.Ev.of (Lm.fixIs _ _ _)) ?_
  have e1 : wrap64 ((0 : Int) + 1) = 1 := Lm.w64 (by omega) (by omega)
  by_cases h1 : b ≤ 9999999999999999999 ∧ 0 ≤ c ∧ c ≤ 19
  · refine Lm.Ev.pos (decide_eq_true h1) ?_
    rw [e1, decide_eq_true h1, Bool.true_and]
    refine Lm.Ev.step ?_
    simp only [spec_FixAll.l0, List.length_cons, List.length_nil]
    refine Lm.Ev.pos (by omega) (Lm.Ev.pos (by omega) (Lm.Ev.pos (by omega) ?_))
    refine Lm.Ev.bind (Lm.Ev.of (Lm.fixIs _ _ _)) ?_
    have e2 : wrap64 ((1 : Int) + 1) = 2 := Lm.w64 (by omega) (by omega)
    by_cases h2 : b' ≤ 9999999999999999999 ∧ 0 ≤ c' ∧ c' ≤ 19
    · refine Lm.Ev.pos (decide_eq_true h2) ?_
      rw [e2, decide_eq_true h2]
      refine Lm.Ev.step ?_
      simp only [spec_FixAll.l0, List.length_cons, List.length_nil]
      exact Lm.Ev.neg (by omega) (Lm.Ev.pure _)
    · rw [decide_eq_false h2]
      exact Lm.Ev.neg (fun h => h2 (of_decide_eq_true h)) (Lm.Ev.pure _)
  · rw [decide_eq_false h1, Bool.false_and]
    exact Lm.Ev.neg (fun h => h1 (of_decide_eq_true h)) (Lm.Ev.pure _)
end Go.Proofs.YtcgdphciepdkiaaDoor.G
namespace Go.Proofs.YtcgdphciepdkiaaDoor.G
open Go.RowKit Go.Proofs.YtcgdphciepdkiaaDoorW.PrintWords Go.Proofs.YtcgdphciepdkiaaDoorW.PrintLast Go.Proofs.YtcgdphciepdkiaaDoorW.PrintMore Go.Proofs.YtcgdphciepdkiaaDoor.S Go.Proofs.YtcgdphciepdkiaaDoor.Lm
set_option linter.unusedVariables false
set_option linter.unusedSimpArgs false

theorem lawQuant_yes (neg : Bool) (c s : Int) (neg' : Bool) (c' s' : Int) (r1 : Bool) (r2 r3 : Int) (w : World) (hi : ∀ w0, Below w.heap.size w w0 → Calls Tryd.prog 24 #[fixI neg c s, fixI neg' c' s'] w0 fun e w' => e = .returned (.tuple #[fixI r1 r2 r3, .int .i64 0]) ∧ Below w0.heap.size w0 w') 
    (kA kG kS : Nat) (p1 : Bool) (l : List Int) (p3 : Int) (hA : spec_FixAll.f kA [⟨neg, c, s⟩, ⟨neg', c', s'⟩] = some true) (hG : laws_gvScaled.f kG neg c s s' = some (p1, l, p3)) (hS : spec_FixSame.f kS r1 r2 r3 p1 l p3 = some true) :
    Calls Tryd.prog 8 #[fixI neg c s, fixI neg' c' s'] w fun e w' => e = .returned (.bool true) ∧ Below w.heap.size w w' := by
  have HI := Aside0.mk hi
  have HA := Aside0.mk hA
  have HG := Aside0.mk hG
  have HS := Aside0.mk hS
  have HB := Aside0.mk (Below.refl w.heap.size w)
  clear hi hA hG hS
  go_enter Tryd.func8, Tryd.ntmps8
  go_wp2_with (first | (((with_reducible refine gate_dst (N := 2) rfl ?_); refine box_event ?hg (N := 2) ?hd (cs := #[.bool neg, .int .u64 c, .int .i64 s]) (t := 34) ?hr ?_; (case hd => rfl); (case hg => rfl); (case hr => first | (go_simp; done) | (go_simp; rfl)); intro g1 hgq w1 hbx hb; have B1 := Aside0.mk hbx; have gq_g1 := Aside0.mk hgq; clear hbx hgq); have HB1 := Aside0.mk (below_step HB.out hb); have c0 := (blk_cell B1.out 0).trans rfl; have zc0 := blk_frozen B1.out 0; have c1 := (blk_cell B1.out 1).trans rfl; have zc1 := blk_frozen B1.out 1; have c2 := (blk_cell B1.out 2).trans rfl; have zc2 := blk_frozen B1.out 2; clear hb HB) | (((with_reducible refine gate_dst (N := 3) rfl ?_); refine box_event ?hg (N := 3) ?hd (cs := #[.bool neg', .int .u64 c', .int .i64 s']) (t := 34) ?hr ?_; (case hd => rfl); (case hg => rfl); (case hr => first | (go_simp; done) | (go_simp; rfl)); intro g2 hgq w2 hbx hb; have B2 := Aside0.mk hbx; have gq_g2 := Aside0.mk hgq; clear hbx hgq); have HB2 := Aside0.mk (below_step HB1.out hb); have P2 := Aside0.mk (blk_below B1.out hb); clear c0 c1 c2 zc0 zc1 zc2; have c0 := (blk_cell P2.out 0).trans rfl; have zc0 := blk_frozen P2.out 0; have c1 := (blk_cell P2.out 1).trans rfl; have zc1 := blk_frozen P2.out 1; have c2 := (blk_cell P2.out 2).trans rfl; have zc2 := blk_frozen P2.out 2; have q0 := (blk_cell B2.out 0).trans rfl; have zq0 := blk_frozen B2.out 0; have q1 := (blk_cell B2.out 1).trans rfl; have zq1 := blk_frozen B2.out 1; have q2 := (blk_cell B2.out 2).trans rfl; have zq2 := blk_frozen B2.out 2; clear hb HB1 B1))
  refine (HI.out _ HB2.out).mono ?_
  rintro e w3 ⟨rfl, hb⟩
  have HB3 := Aside0.mk (below_step HB2.out hb)
  have P3 := Aside0.mk (blk_below P2.out hb)
  have Q3 := Aside0.mk (blk_below B2.out hb)
  clear hb HB2 P2 B2 HI c0 c1 c2 zc0 zc1 zc2 q0 q1 q2 zq0 zq1 zq2
  have c0 := (blk_cell P3.out 0).trans rfl; have zc0 := blk_frozen P3.out 0; have c1 := (blk_cell P3.out 1).trans rfl; have zc1 := blk_frozen P3.out 1; have c2 := (blk_cell P3.out 2).trans rfl; have zc2 := blk_frozen P3.out 2
  have q0 := (blk_cell Q3.out 0).trans rfl; have zq0 := blk_frozen Q3.out 0; have q1 := (blk_cell Q3.out 1).trans rfl; have zq1 := blk_frozen Q3.out 1; have q2 := (blk_cell Q3.out 2).trans rfl; have zq2 := blk_frozen Q3.out 2
  go_wp2_with (first | (((with_reducible refine gate_dst (N := 5) rfl ?_); refine box_event ?hg (N := 5) ?hd (cs := #[.bool false, .int .u64 0, .int .i64 0]) (t := 34) ?hr ?_; (case hd => rfl); (case hg => rfl); (case hr => first | (go_simp; done) | (go_simp; rfl)); intro g3 hgq w4 hbx hb; have B3 := Aside0.mk hbx; have gq_g3 := Aside0.mk hgq; clear hbx hgq); have x0 := (blk_cell B3.out 0).trans rfl; have zx0 := blk_frozen B3.out 0; have x1 := (blk_cell B3.out 1).trans rfl; have zx1 := blk_frozen B3.out 1; have x2 := (blk_cell B3.out 2).trans rfl; have zx2 := blk_frozen B3.out 2; have P4 := Aside0.mk (blk_below P3.out hb); have Q4 := Aside0.mk (blk_below Q3.out hb); clear c0 c1 c2 zc0 zc1 zc2 q0 q1 q2 zq0 zq1 zq2; have c0 := (blk_cell P4.out 0).trans rfl; have zc0 := blk_frozen P4.out 0; have c1 := (blk_cell P4.out 1).trans rfl; have zc1 := blk_frozen P4.out 1; have c2 := (blk_cell P4.out 2).trans rfl; have zc2 := blk_frozen P4.out 2; have q0 := (blk_cell Q4.out 0).trans rfl; have zq0 := blk_frozen Q4.out 0; have q1 := (blk_cell Q4.out 1).trans rfl; have zq1 := blk_frozen Q4.out 1; have q2 := (blk_cell Q4.out 2).trans rfl; have zq2 := blk_frozen Q4.out 2; have HB4 := Aside0.mk (below_step HB3.out hb); have n1 : g3 ≠ g1 := (by have e1 := blk_lt P3.out; have e2 := gq_g3.out; omega); have n2 := n1.symm; have n3 : g3 ≠ g2 := (by have e1 := blk_lt Q3.out; have e2 := gq_g3.out; omega); have n4 := n3.symm; have G3 := Aside0.mk (show w.heap.size ≤ g3 by rw [gq_g3.out]; exact HB3.out.size); clear hb HB3 P3 Q3))
  have B5 := Aside0.mk (blk_put (cs' := #[.bool r1, .int .u64 r2, .int .i64 r3]) (blk_put (cs' := #[.bool r1, .int .u64 r2, .int .i64 0]) (blk_put (cs' := #[.bool r1, .int .u64 0, .int .i64 0]) B3.out 0 (.bool r1) rfl) 1 (.int .u64 r2) rfl) 2 (.int .i64 r3) rfl)
  have P5 := Aside0.mk (blk_far (p := ⟨g3, 2, none⟩) (blk_far (p := ⟨g3, 1, none⟩) (blk_far (p := ⟨g3, 0, none⟩) P4.out n2 (.bool r1)) n2 (.int .u64 r2)) n2 (.int .i64 r3))
  have Q5 := Aside0.mk (blk_far (p := ⟨g3, 2, none⟩) (blk_far (p := ⟨g3, 1, none⟩) (blk_far (p := ⟨g3, 0, none⟩) Q4.out n4 (.bool r1)) n4 (.int .u64 r2)) n4 (.int .i64 r3))
  have HB5 := Aside0.mk (below_set (j := 2) (v := .int .i64 r3) (below_set (j := 1) (v := .int .u64 r2) (below_set (j := 0) (v := .bool r1) HB4.out G3.out) G3.out) G3.out)
  clear B3 P4 Q4 HB4 c0 c1 c2 zc0 zc1 zc2 q0 q1 q2 zq0 zq1 zq2 x0 x1 x2 zx0 zx1 zx2
  generalize ((w4.setCell ⟨g3, 0, none⟩ (.bool r1)).setCell ⟨g3, 1, none⟩ (.int .u64 r2)).setCell ⟨g3, 2, none⟩ (.int .i64 r3) = w5 at B5 P5 Q5 HB5 ⊢
  have c0 := (blk_cell P5.out 0).trans rfl; have zc0 := blk_frozen P5.out 0; have c1 := (blk_cell P5.out 1).trans rfl; have zc1 := blk_frozen P5.out 1; have c2 := (blk_cell P5.out 2).trans rfl; have zc2 := blk_frozen P5.out 2
  have q0 := (blk_cell Q5.out 0).trans rfl; have zq0 := blk_frozen Q5.out 0; have q1 := (blk_cell Q5.out 1).trans rfl; have zq1 := blk_frozen Q5.out 1; have q2 := (blk_cell Q5.out 2).trans rfl; have zq2 := blk_frozen Q5.out 2
  have t0 := (blk_cell B5.out 0).trans rfl; have zt0 := blk_frozen B5.out 0; have t1 := (blk_cell B5.out 1).trans rfl; have zt1 := blk_frozen B5.out 1; have t2 := (blk_cell B5.out 2).trans rfl; have zt2 := blk_frozen B5.out 2
  go_region_held3 (fun w' => w'.cell? ⟨g1, 0, none⟩ = some (.bool neg) ∧ w'.cell? ⟨g1, 1, none⟩ = some (.int .u64 c) ∧ w'.cell? ⟨g1, 2, none⟩ = some (.int .i64 s) ∧ w'.cell? ⟨g2, 0, none⟩ = some (.bool neg') ∧ w'.cell? ⟨g2, 1, none⟩ = some (.int .u64 c') ∧ w'.cell? ⟨g2, 2, none⟩ = some (.int .i64 s') ∧ w'.cell? ⟨g3, 0, none⟩ = some (.bool r1) ∧ w'.cell? ⟨g3, 1, none⟩ = some (.int .u64 r2) ∧ w'.cell? ⟨g3, 2, none⟩ = some (.int .i64 r3))
    (first | exact ⟨c0, c1, c2, q0, q1, q2, t0, t1, t2⟩ | go_keep | (refine keep9 hb3 ?_; assumption) | (refine keep9 hb2 ?_; assumption) | (refine keep9 hb ?_; assumption))
    (first | (go_at_call 25; refine (spec_FixAll.calls kA (some ⟨w5.heap.size, 0, none⟩) 2 [⟨neg, c, s⟩, ⟨neg', c', s'⟩] true _ (C_two (blk_drew (blk_new w5 _))) (Nat.le_refl _) HA.out).mono ?_; rintro e w6 ⟨rfl, hb⟩) | (go_at_call 27; refine (laws_gvScaled.calls kG neg c s s' p1 l p3 _ HG.out).mono ?_; rintro e w7 ⟨v1, rfl, hv, hb2⟩; obtain ⟨A, cp, ev⟩ := Kd.V_slice hv; subst ev) | (go_at_call 26; refine (spec_FixSame.calls kS r1 r2 r3 p1 A cp l p3 true _ (Kd.V_reads' hv).2.2 (Kd.V_reads' hv).2.1 HS.out).mono ?_; rintro e w8 ⟨rfl, hb3⟩))
  have HB8 := Aside0.mk (below_step (below_step (below_step (below_drew (below_alloc HB5.out _)) hb) hb2) hb3)
  go_wp2
  exact bodyPost_ret (v := .bool true) (by simp [results, Tryd.results8, go_sem]) rfl ⟨rfl, HB8.out⟩
end Go.Proofs.YtcgdphciepdkiaaDoor.G
namespace Go.Proofs.YtcgdphciepdkiaaDoor.G
open Go.RowKit Go.Proofs.YtcgdphciepdkiaaDoorW.PrintWords Go.Proofs.YtcgdphciepdkiaaDoorW.PrintLast Go.Proofs.YtcgdphciepdkiaaDoorW.PrintMore Go.Proofs.YtcgdphciepdkiaaDoor.S Go.Proofs.YtcgdphciepdkiaaDoor.Lm
set_option linter.unusedVariables false
set_option linter.unusedSimpArgs false

theorem lawQuant_no (neg : Bool) (c s : Int) (neg' : Bool) (c' s' : Int) (r1 : Bool) (r2 r3 : Int) (w : World) (hi : ∀ w0, Below w.heap.size w w0 → Calls Tryd.prog 24 #[fixI neg c s, fixI neg' c' s'] w0 fun e w' => e = .returned (.tuple #[fixI r1 r2 r3, .int .i64 3]) ∧ Below w0.heap.size w0 w') 
    (kA : Nat) (hA : spec_FixAll.f kA [⟨neg, c, s⟩, ⟨neg', c', s'⟩] = some false) :
    Calls Tryd.prog 8 #[fixI neg c s, fixI neg' c' s'] w fun e w' => e = .returned (.bool true) ∧ Below w.heap.size w w' := by
  have HI := Aside0.mk hi
  have HA := Aside0.mk hA
  have HB := Aside0.mk (Below.refl w.heap.size w)
  clear hi hA
  go_enter Tryd.func8, Tryd.ntmps8
  go_wp2_with (first | (((with_reducible refine gate_dst (N := 2) rfl ?_); refine box_event ?hg (N := 2) ?hd (cs := #[.bool neg, .int .u64 c, .int .i64 s]) (t := 34) ?hr ?_; (case hd => rfl); (case hg => rfl); (case hr => first | (go_simp; done) | (go_simp; rfl)); intro g1 hgq w1 hbx hb; have B1 := Aside0.mk hbx; have gq_g1 := Aside0.mk hgq; clear hbx hgq); have HB1 := Aside0.mk (below_step HB.out hb); have c0 := (blk_cell B1.out 0).trans rfl; have zc0 := blk_frozen B1.out 0; have c1 := (blk_cell B1.out 1).trans rfl; have zc1 := blk_frozen B1.out 1; have c2 := (blk_cell B1.out 2).trans rfl; have zc2 := blk_frozen B1.out 2; clear hb HB) | (((with_reducible refine gate_dst (N := 3) rfl ?_); refine box_event ?hg (N := 3) ?hd (cs := #[.bool neg', .int .u64 c', .int .i64 s']) (t := 34) ?hr ?_; (case hd => rfl); (case hg => rfl); (case hr => first | (go_simp; done) | (go_simp; rfl)); intro g2 hgq w2 hbx hb; have B2 := Aside0.mk hbx; have gq_g2 := Aside0.mk hgq; clear hbx hgq); have HB2 := Aside0.mk (below_step HB1.out hb); have P2 := Aside0.mk (blk_below B1.out hb); clear c0 c1 c2 zc0 zc1 zc2; have c0 := (blk_cell P2.out 0).trans rfl; have zc0 := blk_frozen P2.out 0; have c1 := (blk_cell P2.out 1).trans rfl; have zc1 := blk_frozen P2.out 1; have c2 := (blk_cell P2.out 2).trans rfl; have zc2 := blk_frozen P2.out 2; have q0 := (blk_cell B2.out 0).trans rfl; have zq0 := blk_frozen B2.out 0; have q1 := (blk_cell B2.out 1).trans rfl; have zq1 := blk_frozen B2.out 1; have q2 := (blk_cell B2.out 2).trans rfl; have zq2 := blk_frozen B2.out 2; clear hb HB1 B1))
  refine (HI.out _ HB2.out).mono ?_
  rintro e w3 ⟨rfl, hb⟩
  have HB3 := Aside0.mk (below_step HB2.out hb)
  have P3 := Aside0.mk (blk_below P2.out hb)
  have Q3 := Aside0.mk (blk_below B2.out hb)
  clear hb HB2 P2 B2 HI c0 c1 c2 zc0 zc1 zc2 q0 q1 q2 zq0 zq1 zq2
  have c0 := (blk_cell P3.out 0).trans rfl; have zc0 := blk_frozen P3.out 0; have c1 := (blk_cell P3.out 1).trans rfl; have zc1 := blk_frozen P3.out 1; have c2 := (blk_cell P3.out 2).trans rfl; have zc2 := blk_frozen P3.out 2
  have q0 := (blk_cell Q3.out 0).trans rfl; have zq0 := blk_frozen Q3.out 0; have q1 := (blk_cell Q3.out 1).trans rfl; have zq1 := blk_frozen Q3.out 1; have q2 := (blk_cell Q3.out 2).trans rfl; have zq2 := blk_frozen Q3.out 2
  go_wp2_with (first | (((with_reducible refine gate_dst (N := 5) rfl ?_); refine box_event ?hg (N := 5) ?hd (cs := #[.bool false, .int .u64 0, .int .i64 0]) (t := 34) ?hr ?_; (case hd => rfl); (case hg => rfl); (case hr => first | (go_simp; done) | (go_simp; rfl)); intro g3 hgq w4 hbx hb; have B3 := Aside0.mk hbx; have gq_g3 := Aside0.mk hgq; clear hbx hgq); have x0 := (blk_cell B3.out 0).trans rfl; have zx0 := blk_frozen B3.out 0; have x1 := (blk_cell B3.out 1).trans rfl; have zx1 := blk_frozen B3.out 1; have x2 := (blk_cell B3.out 2).trans rfl; have zx2 := blk_frozen B3.out 2; have P4 := Aside0.mk (blk_below P3.out hb); have Q4 := Aside0.mk (blk_below Q3.out hb); clear c0 c1 c2 zc0 zc1 zc2 q0 q1 q2 zq0 zq1 zq2; have c0 := (blk_cell P4.out 0).trans rfl; have zc0 := blk_frozen P4.out 0; have c1 := (blk_cell P4.out 1).trans rfl; have zc1 := blk_frozen P4.out 1; have c2 := (blk_cell P4.out 2).trans rfl; have zc2 := blk_frozen P4.out 2; have q0 := (blk_cell Q4.out 0).trans rfl; have zq0 := blk_frozen Q4.out 0; have q1 := (blk_cell Q4.out 1).trans rfl; have zq1 := blk_frozen Q4.out 1; have q2 := (blk_cell Q4.out 2).trans rfl; have zq2 := blk_frozen Q4.out 2; have HB4 := Aside0.mk (below_step HB3.out hb); have n1 : g3 ≠ g1 := (by have e1 := blk_lt P3.out; have e2 := gq_g3.out; omega); have n2 := n1.symm; have n3 : g3 ≠ g2 := (by have e1 := blk_lt Q3.out; have e2 := gq_g3.out; omega); have n4 := n3.symm; have G3 := Aside0.mk (show w.heap.size ≤ g3 by rw [gq_g3.out]; exact HB3.out.size); clear hb HB3 P3 Q3))
  have B5 := Aside0.mk (blk_put (cs' := #[.bool r1, .int .u64 r2, .int .i64 r3]) (blk_put (cs' := #[.bool r1, .int .u64 r2, .int .i64 0]) (blk_put (cs' := #[.bool r1, .int .u64 0, .int .i64 0]) B3.out 0 (.bool r1) rfl) 1 (.int .u64 r2) rfl) 2 (.int .i64 r3) rfl)
  have P5 := Aside0.mk (blk_far (p := ⟨g3, 2, none⟩) (blk_far (p := ⟨g3, 1, none⟩) (blk_far (p := ⟨g3, 0, none⟩) P4.out n2 (.bool r1)) n2 (.int .u64 r2)) n2 (.int .i64 r3))
  have Q5 := Aside0.mk (blk_far (p := ⟨g3, 2, none⟩) (blk_far (p := ⟨g3, 1, none⟩) (blk_far (p := ⟨g3, 0, none⟩) Q4.out n4 (.bool r1)) n4 (.int .u64 r2)) n4 (.int .i64 r3))
  have HB5 := Aside0.mk (below_set (j := 2) (v := .int .i64 r3) (below_set (j := 1) (v := .int .u64 r2) (below_set (j := 0) (v := .bool r1) HB4.out G3.out) G3.out) G3.out)
  clear B3 P4 Q4 HB4 c0 c1 c2 zc0 zc1 zc2 q0 q1 q2 zq0 zq1 zq2 x0 x1 x2 zx0 zx1 zx2
  generalize ((w4.setCell ⟨g3, 0, none⟩ (.bool r1)).setCell ⟨g3, 1, none⟩ (.int .u64 r2)).setCell ⟨g3, 2, none⟩ (.int .i64 r3) = w5 at B5 P5 Q5 HB5 ⊢
  have c0 := (blk_cell P5.out 0).trans rfl; have zc0 := blk_frozen P5.out 0; have c1 := (blk_cell P5.out 1).trans rfl; have zc1 := blk_frozen P5.out 1; have c2 := (blk_cell P5.out 2).trans rfl; have zc2 := blk_frozen P5.out 2
  have q0 := (blk_cell Q5.out 0).trans rfl; have zq0 := blk_frozen Q5.out 0; have q1 := (blk_cell Q5.out 1).trans rfl; have zq1 := blk_frozen Q5.out 1; have q2 := (blk_cell Q5.out 2).trans rfl; have zq2 := blk_frozen Q5.out 2
  have t0 := (blk_cell B5.out 0).trans rfl; have zt0 := blk_frozen B5.out 0; have t1 := (blk_cell B5.out 1).trans rfl; have zt1 := blk_frozen B5.out 1; have t2 := (blk_cell B5.out 2).trans rfl; have zt2 := blk_frozen B5.out 2
  refine start_ (n := 18) (S := fun w' => w'.cell? ⟨g1, 0, none⟩ = some (.bool neg) ∧ w'.cell? ⟨g1, 1, none⟩ = some (.int .u64 c) ∧ w'.cell? ⟨g1, 2, none⟩ = some (.int .i64 s) ∧ w'.cell? ⟨g2, 0, none⟩ = some (.bool neg') ∧ w'.cell? ⟨g2, 1, none⟩ = some (.int .u64 c') ∧ w'.cell? ⟨g2, 2, none⟩ = some (.int .i64 s')) (ds := []) #[false, false, false, false, false, false, false, false, false, false, false, false, false, false, false, false, false, false] (by kernel_rfl) rfl rfl ⟨(blk_cell (blk_drew P5.out) 0).trans rfl, (blk_cell (blk_drew P5.out) 1).trans rfl, (blk_cell (blk_drew P5.out) 2).trans rfl, (blk_cell (blk_drew Q5.out) 0).trans rfl, (blk_cell (blk_drew Q5.out) 1).trans rfl, (blk_cell (blk_drew Q5.out) 2).trans rfl⟩ (fun hHeld => ?_)
  refine take_ (i := 0) (N := some 13) (v := ?_) (a' := ?_) #[true, false, false, false, false, false, false, false, false, false, false, false, false, false, false, false, false, false] rfl rfl (by kernel_rfl) (fun _ _ _ h => h) (Or.inl ⟨by rfl, ?_⟩) hHeld ?_ ?_
  rotate_left
  · (rintro w' ⟨s0, s1, s2, s3, s4, s5⟩; go_simp; (try with_reducible rfl))
  rotate_left
  · simp only [Act.put, List.setIfInBounds_toArray, List.set_cons_zero, List.set_cons_succ, i64_w, i32_w]; rfl
  refine take_ (i := 1) (N := some 14) (v := ?_) (a' := ?_) #[true, true, false, false, false, false, false, false, false, false, false, false, false, false, false, false, false, false] rfl rfl (by kernel_rfl) (fun _ _ _ h => h) (Or.inl ⟨by rfl, ?_⟩) hHeld ?_ ?_
  rotate_left
  · (rintro w' ⟨s0, s1, s2, s3, s4, s5⟩; go_simp; (try with_reducible rfl))
  rotate_left
  · simp only [Act.put, List.setIfInBounds_toArray, List.set_cons_zero, List.set_cons_succ, i64_w, i32_w]; rfl
  refine one_ (i := 2) (N := some 15) #[true, true, true, false, false, false, false, false, false, false, false, false, false, false, false, false, false, false] rfl rfl (by kernel_rfl) (by decide) (fun K hK => ?_)
  rw [if_pos (by rfl)]
  go_simp
  refine hK.out _ _ ⟨(blk_cell (blk_drew (blk_alloc P5.out _)) 0).trans rfl, (blk_cell (blk_drew (blk_alloc P5.out _)) 1).trans rfl, (blk_cell (blk_drew (blk_alloc P5.out _)) 2).trans rfl, (blk_cell (blk_drew (blk_alloc Q5.out _)) 0).trans rfl, (blk_cell (blk_drew (blk_alloc Q5.out _)) 1).trans rfl, (blk_cell (blk_drew (blk_alloc Q5.out _)) 2).trans rfl⟩ (fun hHeld => ?_)
  clear hK K
  refine one_ (i := 3) (N := some 16) #[true, true, true, true, false, false, false, false, false, false, false, false, false, false, false, false, false, false] rfl rfl (by kernel_rfl) (by decide) (fun K hK => ?_)
  refine goes_ Tryd.func25 (by kernel_rfl) rfl #[.slice (some ⟨w5.heap.size, 0, none⟩) 2 2] (by rfl) rfl rfl (by (try simp only [List.map_toArray, List.map_cons, List.map_nil]); first | done | rfl) ?_
  refine (spec_FixAll.calls kA (some ⟨w5.heap.size, 0, none⟩) 2 [⟨neg, c, s⟩, ⟨neg', c', s'⟩] false _ (C_two (blk_drew (blk_new w5 _))) (Nat.le_refl _) HA.out).mono ?_
  rintro e w6 ⟨rfl, hb⟩
  refine ⟨_, rfl, ?_⟩
  refine hK.out _ _ ⟨(blk_cell (blk_below (blk_drew (blk_alloc P5.out _)) hb) 0).trans rfl, (blk_cell (blk_below (blk_drew (blk_alloc P5.out _)) hb) 1).trans rfl, (blk_cell (blk_below (blk_drew (blk_alloc P5.out _)) hb) 2).trans rfl, (blk_cell (blk_below (blk_drew (blk_alloc Q5.out _)) hb) 0).trans rfl, (blk_cell (blk_below (blk_drew (blk_alloc Q5.out _)) hb) 1).trans rfl, (blk_cell (blk_below (blk_drew (blk_alloc Q5.out _)) hb) 2).trans rfl⟩ (fun hHeld => ?_)
  clear hK K
  refine norm_ (a' := ?_) ?_ ?_
  rotate_left
  · show Act.put _ (some 16) _ = _
    simp only [Act.put, List.setIfInBounds_toArray, List.set_cons_zero, List.set_cons_succ, i64_w, i32_w]; rfl
  refine pure_ (i := 4) (N := some 17) (v := ?_) (a' := ?_) #[true, true, true, true, true, false, false, false, false, false, false, false, false, false, false, false, false, false] rfl rfl (by kernel_rfl) (fun _ _ _ h => h) (Or.inl ⟨by rfl, ?_⟩) ?_ ?_
  rotate_left
  · (intro w'; go_simp; (try with_reducible rfl))
  rotate_left
  · simp only [Act.put, List.setIfInBounds_toArray, List.set_cons_zero, List.set_cons_succ, i64_w, i32_w]; rfl
  refine pure_ (i := 5) (N := some 18) (v := ?_) (a' := ?_) #[true, true, true, true, true, true, false, false, false, false, false, false, false, false, false, false, false, false] rfl rfl (by kernel_rfl) (fun _ _ _ h => h) (Or.inl ⟨by rfl, ?_⟩) ?_ ?_
  rotate_left
  · (intro w'; go_simp; (try with_reducible rfl))
  rotate_left
  · simp only [Act.put, List.setIfInBounds_toArray, List.set_cons_zero, List.set_cons_succ, i64_w, i32_w]; rfl
  refine pure_ (i := 6) (N := some 19) (v := undef) (a' := ?_) #[true, true, true, true, true, true, true, false, false, false, false, false, false, false, false, false, false, false] rfl rfl (by kernel_rfl) (fun _ _ _ h => h) (Or.inr ⟨by rfl, rfl⟩) ?_ ?_
  rotate_left
  · simp only [Act.put, List.setIfInBounds_toArray, List.set_cons_zero, List.set_cons_succ, i64_w, i32_w]; rfl
  refine pure_ (i := 7) (N := some 20) (v := undef) (a' := ?_) #[true, true, true, true, true, true, true, true, false, false, false, false, false, false, false, false, false, false] rfl rfl (by kernel_rfl) (fun _ _ _ h => h) (Or.inr ⟨by rfl, rfl⟩) ?_ ?_
  rotate_left
  · simp only [Act.put, List.setIfInBounds_toArray, List.set_cons_zero, List.set_cons_succ, i64_w, i32_w]; rfl
  refine pure_ (i := 8) (N := some 21) (v := undef) (a' := ?_) #[true, true, true, true, true, true, true, true, true, false, false, false, false, false, false, false, false, false] rfl rfl (by kernel_rfl) (fun _ _ _ h => h) (Or.inr ⟨by rfl, rfl⟩) ?_ ?_
  rotate_left
  · simp only [Act.put, List.setIfInBounds_toArray, List.set_cons_zero, List.set_cons_succ, i64_w, i32_w]; rfl
  refine pure_ (i := 9) (N := some 22) (v := undef) (a' := ?_) #[true, true, true, true, true, true, true, true, true, true, false, false, false, false, false, false, false, false] rfl rfl (by kernel_rfl) (fun _ _ _ h => h) (Or.inr ⟨by rfl, rfl⟩) ?_ ?_
  rotate_left
  · simp only [Act.put, List.setIfInBounds_toArray, List.set_cons_zero, List.set_cons_succ, i64_w, i32_w]; rfl
  refine pure_ (i := 10) (N := some 23) (v := undef) (a' := ?_) #[true, true, true, true, true, true, true, true, true, true, true, false, false, false, false, false, false, false] rfl rfl (by kernel_rfl) (fun _ _ _ h => h) (Or.inr ⟨by rfl, rfl⟩) ?_ ?_
  rotate_left
  · simp only [Act.put, List.setIfInBounds_toArray, List.set_cons_zero, List.set_cons_succ, i64_w, i32_w]; rfl
  refine pure_ (i := 11) (N := some 24) (v := undef) (a' := ?_) #[true, true, true, true, true, true, true, true, true, true, true, true, false, false, false, false, false, false] rfl rfl (by kernel_rfl) (fun _ _ _ h => h) (Or.inr ⟨by rfl, rfl⟩) ?_ ?_
  rotate_left
  · simp only [Act.put, List.setIfInBounds_toArray, List.set_cons_zero, List.set_cons_succ, i64_w, i32_w]; rfl
  refine pure_ (i := 12) (N := some 25) (v := undef) (a' := ?_) #[true, true, true, true, true, true, true, true, true, true, true, true, true, false, false, false, false, false] rfl rfl (by kernel_rfl) (fun _ _ _ h => h) (Or.inr ⟨by rfl, rfl⟩) ?_ ?_
  rotate_left
  · simp only [Act.put, List.setIfInBounds_toArray, List.set_cons_zero, List.set_cons_succ, i64_w, i32_w]; rfl
  refine pure_ (i := 13) (N := some 26) (v := undef) (a' := ?_) #[true, true, true, true, true, true, true, true, true, true, true, true, true, true, false, false, false, false] rfl rfl (by kernel_rfl) (fun _ _ _ h => h) (Or.inr ⟨by rfl, rfl⟩) ?_ ?_
  rotate_left
  · simp only [Act.put, List.setIfInBounds_toArray, List.set_cons_zero, List.set_cons_succ, i64_w, i32_w]; rfl
  refine pure_ (i := 14) (N := some 27) (v := undef) (a' := ?_) #[true, true, true, true, true, true, true, true, true, true, true, true, true, true, true, false, false, false] rfl rfl (by kernel_rfl) (fun _ _ _ h => h) (Or.inr ⟨by rfl, rfl⟩) ?_ ?_
  rotate_left
  · simp only [Act.put, List.setIfInBounds_toArray, List.set_cons_zero, List.set_cons_succ, i64_w, i32_w]; rfl
  refine pure_ (i := 15) (N := some 28) (v := undef) (a' := ?_) #[true, true, true, true, true, true, true, true, true, true, true, true, true, true, true, true, false, false] rfl rfl (by kernel_rfl) (fun _ _ _ h => h) (Or.inr ⟨by rfl, rfl⟩) ?_ ?_
  rotate_left
  · simp only [Act.put, List.setIfInBounds_toArray, List.set_cons_zero, List.set_cons_succ, i64_w, i32_w]; rfl
  refine pure_ (i := 16) (N := some 29) (v := ?_) (a' := ?_) #[true, true, true, true, true, true, true, true, true, true, true, true, true, true, true, true, true, false] rfl rfl (by kernel_rfl) (fun _ _ _ h => h) (Or.inl ⟨by rfl, ?_⟩) ?_ ?_
  rotate_left
  · (intro w'; go_simp; (try with_reducible rfl))
  rotate_left
  · simp only [Act.put, List.setIfInBounds_toArray, List.set_cons_zero, List.set_cons_succ, i64_w, i32_w]; rfl
  refine pure_ (i := 17) (N := some 4) (v := ?_) (a' := ?_) #[true, true, true, true, true, true, true, true, true, true, true, true, true, true, true, true, true, true] rfl rfl (by kernel_rfl) (fun _ _ _ h => h) (Or.inl ⟨by rfl, ?_⟩) ?_ ?_
  rotate_left
  · (intro w'; go_simp; (try with_reducible rfl))
  rotate_left
  · simp only [Act.put, List.setIfInBounds_toArray, List.set_cons_zero, List.set_cons_succ, i64_w, i32_w]; rfl
  refine done_ (by kernel_rfl) ?_
  have HB8 := Aside0.mk (below_step (below_drew (below_alloc HB5.out _)) hb)
  go_wp2
  exact bodyPost_ret (v := .bool true) (by simp [results, Tryd.results8, go_sem]) rfl ⟨rfl, HB8.out⟩
end Go.Proofs.YtcgdphciepdkiaaDoor.G
