/-
  THE WALK of the law of FixText: true, for every decimal.
-/
import Derived.Test.YtcgdphciepdkiaaDoorGStr
import Derived.Test.YtcgdphciepdkiaaDoorGNat
import Derived.Test.YtcgdphciepdkiaaDoorLmS
import Derived.Outline
namespace Go.Proofs.YtcgdphciepdkiaaDoor.G
open Go.RowKit Go.Proofs.YtcgdphciepdkiaaDoorW.PrintWords Go.Proofs.YtcgdphciepdkiaaDoorW.PrintLast Go.Proofs.YtcgdphciepdkiaaDoorW.PrintMore Go.Proofs.YtcgdphciepdkiaaDoor.S Go.Proofs.YtcgdphciepdkiaaDoor.Lm
set_option linter.unusedVariables false
set_option linter.unusedSimpArgs false

abbrev decV (b : Bool) (A : Option Addr) (n c : Nat) (e : Int) : Value := .agg #[.bool b, .slice A (lim n).length c, .int .i64 e]
theorem ofFix_is (neg : Bool) (n : Nat) (s : Int) (w : World) (hn : n < 18446744073709551616) : Calls Tryd.prog 16 #[fixI neg (n : Int) s] w fun e w' =>
    ∃ A c, e = .returned (.tuple #[decV (sg neg n) A n c (wrap64 (-s)), .bool (decide (n < 10 ^ 19 ∧ 0 ≤ s ∧ s ≤ 19))]) ∧ Rd w' A c n ∧ Below w.heap.size w w' := by
  obtain ⟨k, h⟩ := (ofFix neg n s hn).ex
  refine (spec_OfFix.calls k _ _ _ _ _ _ _ w h).mono ?_
  rintro e w' ⟨v, rfl, hv, hb⟩
  obtain ⟨A, c, rfl, hr⟩ := Rd.of_V hv
  exact ⟨A, c, rfl, hr, hb⟩
theorem plain_is (b : Bool) (n s : Nat) (A : Option Addr) (c : Nat) (w : World) (hr : Rd w A c n) (hn : n < 10 ^ 19) (hs : s ≤ 19) :
    Calls Tryd.prog 22 #[decV b A n c (-(s : Int))] w fun e' w' => e' = .returned (.string (strOfNums (letters b n s))) ∧ Below w.heap.size w w' := by
  obtain ⟨k, h⟩ := (plain_ev b n s hn hs).ex
  exact spec_Dec_Plain.calls k b A c _ _ _ w hr.reads hr.cap h
theorem lawText_no (neg : Bool) (n : Nat) (s : Int) (w : World) (hn : n < 18446744073709551616) (hno : ¬ (n < 10 ^ 19 ∧ 0 ≤ s ∧ s ≤ 19)) :
    Calls Tryd.prog 6 #[fixI neg (n : Int) s] w fun e w' => e = .returned (.bool true) ∧ Below w.heap.size w w' := by
  have hof := fun w0 => ofFix_is neg n s w0 hn
  rw [decide_eq_false hno] at hof
  have HO := Aside0.mk hof
  have HB := Aside0.mk (Below.refl w.heap.size w)
  clear hof hno
  go_enter Tryd.func6, Tryd.ntmps6
  go_wp2_with (((with_reducible refine gate_dst (N := 1) rfl ?_); refine box_event ?hg (N := 1) ?hd (cs := #[.bool neg, .int .u64 (n : Int), .int .i64 s]) (t := 34) ?hr ?_; (case hd => rfl); (case hg => rfl); (case hr => first | (go_simp; done) | (go_simp; rfl)); intro g1 hgq w1 hbx hb; have B1 := Aside0.mk hbx; have gq_g1 := Aside0.mk hgq; clear hbx hgq); have HB1 := Aside0.mk (below_step HB.out hb); have c0 := (blk_cell B1.out 0).trans rfl; have zc0 := blk_frozen B1.out 0; have c1 := (blk_cell B1.out 1).trans rfl; have zc1 := blk_frozen B1.out 1; have c2 := (blk_cell B1.out 2).trans rfl; have zc2 := blk_frozen B1.out 2; clear hb HB)
  refine (HO.out _).mono ?_
  rintro e w2 ⟨A, c, rfl, hr, hb⟩
  have HB2 := Aside0.mk (below_step HB1.out hb)
  clear hb HB1 HO hr B1 c0 c1 c2 zc0 zc1 zc2
  go_wp2_with (((with_reducible refine gate_dst (N := 3) rfl ?_); refine box_event ?hg (N := 3) ?hd (cs := #[.bool false, .slice none 0 0, .int .i64 0]) (t := 40) ?hr ?_; (case hd => rfl); (case hg => rfl); (case hr => first | (go_simp; done) | (go_simp; rfl)); intro g2 hgq w3 hbx hb; have B2 := Aside0.mk hbx; have gq_g2 := Aside0.mk hgq; clear hbx hgq); have q0 := (blk_cell B2.out 0).trans rfl; have zq0 := blk_frozen B2.out 0; have q1 := (blk_cell B2.out 1).trans rfl; have zq1 := blk_frozen B2.out 1; have q2 := (blk_cell B2.out 2).trans rfl; have zq2 := blk_frozen B2.out 2; have HB3 := Aside0.mk (below_step HB2.out hb); have G2 := Aside0.mk (show w.heap.size ≤ g2 by rw [gq_g2.out]; exact HB2.out.size); clear hb HB2)
  go_ret
  exact ⟨rfl, by repeat (first | (with_reducible first | exact HB3.out | apply below_alloc | apply pw_below_drewN | apply below_drew1 | refine below_set ?_ G2.out | refine below_set ?_ (Nat.le_refl _)) | exact HB3.out)⟩
theorem lawText_yes (neg : Bool) (n s : Nat) (w : World) (hn : n < 10 ^ 19) (hs : s ≤ 19) :
    Calls Tryd.prog 6 #[fixI neg (n : Int) (s : Int)] w fun e w' => e = .returned (.bool true) ∧ Below w.heap.size w w' := by
  have hof := fun w0 => ofFix_is neg n s w0 (by omega)
  rw [decide_eq_true (show n < 10 ^ 19 ∧ (0 : Int) ≤ s ∧ (s : Int) ≤ 19 by omega), w64 (i := -(s : Int)) (by omega) (by omega)] at hof
  have HO := Aside0.mk hof
  have hd : (neg && !decide ((n : Int) = 0)) = sg neg n := by
    unfold sg; congr 1
    rw [Bool.eq_iff_iff]; simp
  have hm := fun w0 => makes_ok neg (n : Int) (s : Int) w0 (by omega) (by omega) (by omega)
  rw [hd] at hm
  have HT := Aside0.mk (fun w0 => fixText_ok neg n s w0 (sg neg n) n s hn hs (hm w0))
  have HP := Aside0.mk (fun A c w0 hr => plain_is (sg neg n) n s A c w0 hr hn hs)
  have HB := Aside0.mk (Below.refl w.heap.size w)
  clear hof hd hm
  generalize sg neg n = b at HO HT HP
  generalize strOfNums (letters b n s) = y at HT HP
  go_enter Tryd.func6, Tryd.ntmps6
  go_wp2_with (((with_reducible refine gate_dst (N := 1) rfl ?_); refine box_event ?hg (N := 1) ?hd (cs := #[.bool neg, .int .u64 (n : Int), .int .i64 (s : Int)]) (t := 34) ?hr ?_; (case hd => rfl); (case hg => rfl); (case hr => first | (go_simp; done) | (go_simp; rfl)); intro g1 hgq w1 hbx hb; have B1 := Aside0.mk hbx; have gq_g1 := Aside0.mk hgq; clear hbx hgq); have HB1 := Aside0.mk (below_step HB.out hb); have c0 := (blk_cell B1.out 0).trans rfl; have zc0 := blk_frozen B1.out 0; have c1 := (blk_cell B1.out 1).trans rfl; have zc1 := blk_frozen B1.out 1; have c2 := (blk_cell B1.out 2).trans rfl; have zc2 := blk_frozen B1.out 2; clear hb HB)
  refine (HO.out _).mono ?_
  rintro e w2 ⟨A, c, rfl, hr, hb⟩
  have HB2 := Aside0.mk (below_step HB1.out hb)
  have B2 := Aside0.mk (blk_below B1.out hb)
  have HR := Aside0.mk hr
  clear hb HB1 HO hr B1 c0 c1 c2 zc0 zc1 zc2
  go_wp2_with (((with_reducible refine gate_dst (N := 3) rfl ?_); refine box_event ?hg (N := 3) ?hd (cs := #[.bool false, .slice none 0 0, .int .i64 0]) (t := 40) ?hr ?_; (case hd => rfl); (case hg => rfl); (case hr => first | (go_simp; done) | (go_simp; rfl)); intro g2 hgq w3 hbx hb; have B3 := Aside0.mk hbx; have gq_g2 := Aside0.mk hgq; clear hbx hgq); have q0 := (blk_cell B3.out 0).trans rfl; have zq0 := blk_frozen B3.out 0; have q1 := (blk_cell B3.out 1).trans rfl; have zq1 := blk_frozen B3.out 1; have q2 := (blk_cell B3.out 2).trans rfl; have zq2 := blk_frozen B3.out 2; have B4 := Aside0.mk (blk_below B2.out hb); have c0 := (blk_cell B4.out 0).trans rfl; have zc0 := blk_frozen B4.out 0; have c1 := (blk_cell B4.out 1).trans rfl; have zc1 := blk_frozen B4.out 1; have c2 := (blk_cell B4.out 2).trans rfl; have zc2 := blk_frozen B4.out 2; have HB3 := Aside0.mk (below_step HB2.out hb); have n1 : g1 ≠ g2 := (by have e1 := blk_lt B2.out; have e2 := gq_g2.out; omega); have n2 := n1.symm; have G2 := Aside0.mk (show w.heap.size ≤ g2 by rw [gq_g2.out]; exact HB2.out.size); have HR3 := Aside0.mk (HR.out.below (below_set (j := 2) (v := .int .i64 (-(s : Int))) (below_set (j := 1) (v := .slice A (lim n).length c) (below_set (j := 0) (v := .bool b) hb (Nat.le_of_eq gq_g2.out.symm)) (Nat.le_of_eq gq_g2.out.symm)) (Nat.le_of_eq gq_g2.out.symm))); clear hb HB2 HR B2)
  have HB4 := Aside0.mk (below_set (j := 2) (v := .int .i64 (-(s : Int))) (below_set (j := 1) (v := .slice A (lim n).length c) (below_set (j := 0) (v := .bool b) HB3.out G2.out) G2.out) G2.out)
  have B5 := Aside0.mk (blk_put (cs' := #[.bool b, .slice A (lim n).length c, .int .i64 (-(s : Int))]) (blk_put (cs' := #[.bool b, .slice A (lim n).length c, .int .i64 0]) (blk_put (cs' := #[.bool b, .slice none 0 0, .int .i64 0]) B3.out 0 (.bool b) rfl) 1 (.slice A (lim n).length c) rfl) 2 (.int .i64 (-(s : Int))) rfl)
  clear HB3 B3 B4 c0 c1 c2 zc0 zc1 zc2 q0 q1 q2 zq0 zq1 zq2
  refine (HT.out _).mono ?_
  rintro e w4 ⟨rfl, hb⟩
  have HB5 := Aside0.mk (below_step HB4.out hb)
  have B6 := Aside0.mk (blk_below B5.out hb)
  have HR4 := Aside0.mk (HR3.out.below hb)
  clear hb HB4 HR3 B5 HT
  have q0 := (blk_cell B6.out 0).trans rfl; have zq0 := blk_frozen B6.out 0; have q1 := (blk_cell B6.out 1).trans rfl; have zq1 := blk_frozen B6.out 1; have q2 := (blk_cell B6.out 2).trans rfl; have zq2 := blk_frozen B6.out 2
  go_wp2_with fail
  refine (HP.out A c _ HR4.out).mono ?_
  rintro e w5 ⟨rfl, hb⟩
  have HB6 := Aside0.mk (below_step HB5.out hb)
  clear hb HB5 HR4 B6 HP q0 q1 q2 zq0 zq1 zq2
  go_wp2_with fail
  exact bodyPost_ret (v := .bool true) (by simp [results, Tryd.results6, go_sem]) rfl ⟨rfl, HB6.out⟩
end Go.Proofs.YtcgdphciepdkiaaDoor.G
