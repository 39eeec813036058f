/-
  THE WALK of 'laws.FnFixMake': true, for every input, where the two sentinels hold errors.
-/
import Derived.Test.YtcgdphciepdkiaaDoorGMake
import Derived.Test.YtcgdphciepdkiaaDoorGNat
import Derived.Test.YtcgdphciepdkiaaDoorLmS
import Derived.Outline
namespace Go.Proofs.YtcgdphciepdkiaaDoor.G
open Go.RowKit Go.Proofs.YtcgdphciepdkiaaDoorW.PrintWords Go.Proofs.YtcgdphciepdkiaaDoorW.PrintLast Go.Proofs.YtcgdphciepdkiaaDoorW.PrintMore Go.Proofs.YtcgdphciepdkiaaDoor.S Go.Proofs.YtcgdphciepdkiaaDoor.Lm
set_option linter.unusedVariables false
set_option linter.unusedSimpArgs false

abbrev decV (b : Bool) (A : Option Addr) (n c : Nat) (e : Int) : Value := .agg #[.bool b, .slice A (lim n).length c, .int .i64 e]
theorem ofFix_is (neg : Bool) (n : Nat) (s : Int) (w : World) (hn : n < 18446744073709551616) : Calls Tryd.prog 16 #[fixI neg (n : Int) s] w fun e w' =>
    ∃ A c, e = .returned (.tuple #[decV (sg neg n) A n c (wrap64 (-s)), .bool (decide (n < 10 ^ 19 ∧ 0 ≤ s ∧ s ≤ 19))]) ∧ Rd w' A c n ∧ Below w.heap.size w w' := by
  obtain ⟨k, h⟩ := (ofFix neg n s hn).ex
  refine (spec_OfFix.calls k _ _ _ _ _ _ _ w h).mono ?_
  rintro e w' ⟨v, rfl, hv, hb⟩
  obtain ⟨A, c, rfl, hr⟩ := Rd.of_V hv
  exact ⟨A, c, rfl, hr, hb⟩
theorem fixOf_is (b : Bool) (n : Nat) (e : Int) (A : Option Addr) (c : Nat) (w : World) (hr : Rd w A c n) (hn : n < 10 ^ 19) (h0 : e ≤ 0) (h9 : -19 ≤ e) :
    Calls Tryd.prog 35 #[decV b A n c e] w fun e' w' => e' = .returned (.tuple #[fixI b (n : Int) (-e), .bool true]) ∧ Below w.heap.size w w' := by
  obtain ⟨k, h⟩ := (fixOf b n e hn h0 h9).ex
  exact spec_FixOf.calls k b A c _ e _ _ _ _ w hr.reads hr.cap h
theorem fixLike_is (b : Bool) (n : Nat) (s : Int) (A : Option Addr) (c : Nat) (w : World) (hr : Rd w A c n) (hn : n < 10 ^ 19) (h0 : 0 ≤ s) (h9 : s ≤ 19) :
    Calls Tryd.prog 17 #[fixI b (n : Int) s, decV b A n c (-s)] w fun e' w' => e' = .returned (.bool true) ∧ Below w.heap.size w w' := by
  have HR := Aside0.mk hr
  clear hr
  have hfo := fun (w0 : World) (hb : Below w.heap.size w w0) => fixOf_is b n (-s) A c w0 (HR.out.below hb) hn (by omega) (by omega)
  rw [Int.neg_neg] at hfo
  have HF := Aside0.mk hfo
  have HB := Aside0.mk (Below.refl w.heap.size w)
  clear hfo
  go_enter Tryd.func17, Tryd.ntmps17
  go_wp2_with (first | (((with_reducible refine gate_dst (N := 2) rfl ?_); refine box_event ?hg (N := 2) ?hd (cs := #[.bool b, .int .u64 (n : Int), .int .i64 s]) (t := 34) ?hr ?_; (case hd => rfl); (case hg => rfl); (case hr => first | (go_simp; done) | (go_simp; rfl)); intro g1 hgq w1 hbx hb; have B1 := Aside0.mk hbx; have gq_g1 := Aside0.mk hgq; clear hbx hgq); have HB1 := Aside0.mk (below_step HB.out hb); clear hb HB) | (((with_reducible refine gate_dst (N := 3) rfl ?_); refine box_event ?hg (N := 3) ?hd (cs := #[.bool b, .slice A (lim n).length c, .int .i64 (-s)]) (t := 40) ?hr ?_; (case hd => rfl); (case hg => rfl); (case hr => first | (go_simp; done) | (go_simp; rfl)); intro g2 hgq w2 hbx hb; have B2 := Aside0.mk hbx; have gq_g2 := Aside0.mk hgq; clear hbx hgq); have B3 := Aside0.mk (blk_below B1.out hb); have HB2 := Aside0.mk (below_step HB1.out hb); have n1 : g1 ≠ g2 := (by have e1 := blk_lt B1.out; have e2 := gq_g2.out; omega); have c0 := (blk_cell B2.out 0).trans rfl; have zc0 := blk_frozen B2.out 0; have c1 := (blk_cell B2.out 1).trans rfl; have zc1 := blk_frozen B2.out 1; have c2 := (blk_cell B2.out 2).trans rfl; have zc2 := blk_frozen B2.out 2; clear hb HB1 B1))
  refine (HF.out _ HB2.out).mono ?_
  rintro e w3 ⟨rfl, hb⟩
  have B4 := Aside0.mk (blk_below B3.out hb)
  have HB3 := Aside0.mk (below_step HB2.out hb)
  have G1 := Aside0.mk (show w.heap.size ≤ g1 by rw [gq_g1.out]; exact Nat.le_refl _)
  clear hb B3 HB2 HF B2 c0 c1 c2 zc0 zc1 zc2 n1 gq_g2 HR
  go_wp2_with (((with_reducible refine gate_dst (N := 5) rfl ?_); refine box_event ?hg (N := 5) ?hd (cs := #[.bool false, .int .u64 0, .int .i64 0]) (t := 34) ?hr ?_; (case hd => rfl); (case hg => rfl); (case hr => first | (go_simp; done) | (go_simp; rfl)); intro g3 hgq w4 hbx hb; have B5 := Aside0.mk hbx; have gq_g3 := Aside0.mk hgq; clear hbx hgq); have k0 := (blk_cell B5.out 0).trans rfl; have zk0 := blk_frozen B5.out 0; have k1 := (blk_cell B5.out 1).trans rfl; have zk1 := blk_frozen B5.out 1; have k2 := (blk_cell B5.out 2).trans rfl; have zk2 := blk_frozen B5.out 2; have B6 := Aside0.mk (blk_below B4.out hb); have q0 := (blk_cell B6.out 0).trans rfl; have zq0 := blk_frozen B6.out 0; have q1 := (blk_cell B6.out 1).trans rfl; have zq1 := blk_frozen B6.out 1; have q2 := (blk_cell B6.out 2).trans rfl; have zq2 := blk_frozen B6.out 2; have HB4 := Aside0.mk (below_step HB3.out hb); have n3 : g1 ≠ g3 := (by have e1 := blk_lt B4.out; have e2 := gq_g3.out; omega); have n4 := n3.symm; have G3 := Aside0.mk (show w.heap.size ≤ g3 by have e1 := blk_lt B4.out; have e2 := gq_g3.out; have e3 := G1.out; omega); clear hb HB3 B4)
  go_ret
  exact ⟨by first | rfl | simp, by repeat (first | (with_reducible first | exact HB4.out | apply below_alloc | apply pw_below_drewN | apply below_drew1 | refine below_set ?_ G3.out | refine below_set ?_ (Nat.le_refl _)) | exact HB4.out)⟩
/-- Parts that are none: the package tells an error, the reference none. -/
theorem fnFixMake_no (neg : Bool) (n : Nat) (s : Int) (T : TypeId) (a : Addr) (w : World) (hn : n < 18446744073709551616) (hno : ¬ (n < 10 ^ 19 ∧ 0 ≤ s ∧ s ≤ 19)) (hm : Makes neg (n : Int) s false 0 0 (.iface T (.pointer (some a))) w) :
    Calls Tryd.prog 4 #[.bool neg, .int .u64 (n : Int), .int .i64 s] w fun e w' => e = .returned (.bool true) ∧ Below w.heap.size w w' := by
  have HM := Aside0.mk hm
  have hof := fun w0 => ofFix_is neg n s w0 hn
  rw [decide_eq_false hno] at hof
  have HO := Aside0.mk hof
  clear hm hno hof
  go_enter Tryd.func4, Tryd.ntmps4
  go_wp2_with fail
  refine (fixMake_err neg (n : Int) s T a _ HM.out).mono ?_
  rintro e w1 ⟨rfl, hb⟩
  have HB1 := Aside0.mk hb
  clear hb HM
  go_wp2_with (((with_reducible refine gate_dst (N := 7) rfl ?_); refine box_event ?hg (N := 7) ?hd (cs := #[.bool false, .int .u64 0, .int .i64 0]) (t := 34) ?hr ?_; (case hd => rfl); (case hg => rfl); (case hr => first | (go_simp; done) | (go_simp; rfl)); intro g1 hgq w2 hbx hb; have B1 := Aside0.mk hbx; have gq_g1 := Aside0.mk hgq; clear hbx hgq); have k0 := (blk_cell B1.out 0).trans rfl; have zk0 := blk_frozen B1.out 0; have k1 := (blk_cell B1.out 1).trans rfl; have zk1 := blk_frozen B1.out 1; have k2 := (blk_cell B1.out 2).trans rfl; have zk2 := blk_frozen B1.out 2; have HB2 := Aside0.mk (below_step HB1.out hb); have G1 := Aside0.mk (show w.heap.size ≤ g1 by rw [gq_g1.out]; exact HB1.out.size); clear hb HB1)
  refine (HO.out _).mono ?_
  rintro e w3 ⟨A, c, rfl, hr, hb⟩
  have HB3 := Aside0.mk (below_step (by repeat (first | (with_reducible first | exact HB2.out | apply below_alloc | apply pw_below_drewN | apply below_drew1 | refine below_set ?_ G1.out | refine below_set ?_ (Nat.le_refl _)) | exact HB2.out)) hb)
  clear hb HB2 HO hr B1 k0 k1 k2 zk0 zk1 zk2
  go_wp2_with (((with_reducible refine gate_dst (N := 9) rfl ?_); refine box_event ?hg (N := 9) ?hd (cs := #[.bool false, .slice none 0 0, .int .i64 0]) (t := 40) ?hr ?_; (case hd => rfl); (case hg => rfl); (case hr => first | (go_simp; done) | (go_simp; rfl)); intro g2 hgq w4 hbx hb; have B2 := Aside0.mk hbx; have gq_g2 := Aside0.mk hgq; clear hbx hgq); have q0 := (blk_cell B2.out 0).trans rfl; have zq0 := blk_frozen B2.out 0; have q1 := (blk_cell B2.out 1).trans rfl; have zq1 := blk_frozen B2.out 1; have q2 := (blk_cell B2.out 2).trans rfl; have zq2 := blk_frozen B2.out 2; have HB4 := Aside0.mk (below_step HB3.out hb); have G2 := Aside0.mk (show w.heap.size ≤ g2 by rw [gq_g2.out]; exact HB3.out.size); clear hb HB3)
  go_ret
  exact ⟨rfl, by repeat (first | (with_reducible first | exact HB4.out | apply below_alloc | apply pw_below_drewN | apply below_drew1 | refine below_set ?_ G2.out | refine below_set ?_ (Nat.le_refl _)) | exact HB4.out)⟩
/-- Parts that are some: the package's decimal is the reference's. -/
theorem fnFixMake_yes (neg : Bool) (n : Nat) (s : Int) (w : World) (hn : n < 10 ^ 19) (h0 : 0 ≤ s) (h9 : s ≤ 19) :
    Calls Tryd.prog 4 #[.bool neg, .int .u64 (n : Int), .int .i64 s] w fun e w' => e = .returned (.bool true) ∧ Below w.heap.size w w' := by
  have HM := Aside0.mk (makes_ok neg (n : Int) s w h0 h9 (by omega))
  have hof := fun w0 => ofFix_is neg n s w0 (by omega)
  rw [decide_eq_true ⟨hn, h0, h9⟩, w64 (i := -s) (by omega) (by omega)] at hof
  have HO := Aside0.mk hof
  have hd : (neg && !decide ((n : Int) = 0)) = sg neg n := by
    unfold sg; congr 1
    by_cases h : n = 0
    · subst h; rfl
    · rw [decide_eq_false (by omega), decide_eq_true h]; rfl
  have HM2 := Aside0.mk (hd ▸ HM.out)
  clear hof hd HM
  generalize sg neg n = b at *
  go_enter Tryd.func4, Tryd.ntmps4
  go_wp2_with fail
  refine (fixMake_ok neg (n : Int) s b _ h0 h9 HM2.out).mono ?_
  rintro e w1 ⟨rfl, hb⟩
  have HB1 := Aside0.mk hb
  clear hb HM2
  go_wp2_with (((with_reducible refine gate_dst (N := 7) rfl ?_); refine box_event ?hg (N := 7) ?hd (cs := #[.bool false, .int .u64 0, .int .i64 0]) (t := 34) ?hr ?_; (case hd => rfl); (case hg => rfl); (case hr => first | (go_simp; done) | (go_simp; rfl)); intro g1 hgq w2 hbx hb; have B1 := Aside0.mk hbx; have gq_g1 := Aside0.mk hgq; clear hbx hgq); have k0 := (blk_cell B1.out 0).trans rfl; have zk0 := blk_frozen B1.out 0; have k1 := (blk_cell B1.out 1).trans rfl; have zk1 := blk_frozen B1.out 1; have k2 := (blk_cell B1.out 2).trans rfl; have zk2 := blk_frozen B1.out 2; have HB2 := Aside0.mk (below_step HB1.out hb); have G1 := Aside0.mk (show w.heap.size ≤ g1 by rw [gq_g1.out]; exact HB1.out.size); clear hb HB1)
  refine (HO.out _).mono ?_
  rintro e w3 ⟨A, c, rfl, hr, hb⟩
  have HB3 := Aside0.mk (below_step (by repeat (first | (with_reducible first | exact HB2.out | apply below_alloc | apply pw_below_drewN | apply below_drew1 | refine below_set ?_ G1.out | refine below_set ?_ (Nat.le_refl _)) | exact HB2.out)) hb)
  have HR3 := Aside0.mk hr
  have B3 := Aside0.mk (blk_below (blk_put (cs' := #[.bool b, .int .u64 (n : Int), .int .i64 s]) (blk_put (cs' := #[.bool b, .int .u64 (n : Int), .int .i64 0]) (blk_put (cs' := #[.bool b, .int .u64 0, .int .i64 0]) B1.out 0 (.bool b) rfl) 1 (.int .u64 (n : Int)) rfl) 2 (.int .i64 s) rfl) hb)
  clear hb HB2 HO hr B1 k0 k1 k2 zk0 zk1 zk2
  go_wp2_with (((with_reducible refine gate_dst (N := 9) rfl ?_); refine box_event ?hg (N := 9) ?hd (cs := #[.bool false, .slice none 0 0, .int .i64 0]) (t := 40) ?hr ?_; (case hd => rfl); (case hg => rfl); (case hr => first | (go_simp; done) | (go_simp; rfl)); intro g2 hgq w4 hbx hb; have B2 := Aside0.mk hbx; have gq_g2 := Aside0.mk hgq; clear hbx hgq); have q0 := (blk_cell B2.out 0).trans rfl; have zq0 := blk_frozen B2.out 0; have q1 := (blk_cell B2.out 1).trans rfl; have zq1 := blk_frozen B2.out 1; have q2 := (blk_cell B2.out 2).trans rfl; have zq2 := blk_frozen B2.out 2; have B4 := Aside0.mk (blk_below B3.out hb); have k0 := (blk_cell B4.out 0).trans rfl; have zk0 := blk_frozen B4.out 0; have k1 := (blk_cell B4.out 1).trans rfl; have zk1 := blk_frozen B4.out 1; have k2 := (blk_cell B4.out 2).trans rfl; have zk2 := blk_frozen B4.out 2; have HB4 := Aside0.mk (below_step HB3.out hb); have H34 := Aside0.mk hb; have G2 := Aside0.mk (show w3.heap.size ≤ g2 by rw [gq_g2.out]; exact Nat.le_refl _); have n1 : g1 ≠ g2 := (by have e1 := blk_lt B3.out; have e2 := gq_g2.out; omega); have n2 := n1.symm; clear hb)
  have G3 := Aside0.mk (show w.heap.size ≤ g2 from Nat.le_trans HB3.out.size G2.out)
  refine (fixLike_is b n s A c _ (HR3.out.below (by repeat (first | (with_reducible first | exact H34.out | apply below_alloc | apply pw_below_drewN | apply below_drew1 | refine below_set ?_ G2.out | refine below_set ?_ (Nat.le_refl _)) | exact H34.out))) hn h0 h9).mono ?_
  rintro e w5 ⟨rfl, hb⟩
  have HB5 := Aside0.mk (below_step (by repeat (first | (with_reducible first | exact HB4.out | apply below_alloc | apply pw_below_drewN | apply below_drew1 | refine below_set ?_ G3.out | refine below_set ?_ (Nat.le_refl _)) | exact HB4.out)) hb)
  clear hb
  go_wp2
  go_ret
  exact ⟨rfl, HB5.out⟩
end Go.Proofs.YtcgdphciepdkiaaDoor.G
