/-
  CONTRACTS: the law's own arTwo.
-/
import Derived.Test.YtghabdpbacgicaaGreatDoorSFit
import Derived.Test.YtghabdpbacgicaaGreatDoorSFOf
import Derived.Test.YtghabdpbacgicaaGreatDoorGMade
namespace Go.Proofs.YtghabdpbacgicaaGreatDoor.G
open Go.RowKit Go.Proofs.YtghabdpbacgicaaGreatDoorW.PrintWords Go.Proofs.YtghabdpbacgicaaGreatDoorW.PrintLast Go.Proofs.YtghabdpbacgicaaGreatDoorW.PrintMore Go.Proofs.YtghabdpbacgicaaGreatDoor.S
set_option linter.unusedVariables false
set_option linter.unusedSimpArgs false

set_option maxRecDepth 100000 in
set_option maxHeartbeats 2000000 in
theorem arTwo_is (k : Nat) (s1 s2 t1 t2 : ByteArray) (e1 e2 x1 x2 : Int) (b1 b2 : Bool) (n1 d1 n2 d2 : List Int) (w : World) (h1 : spec_DecFit.f k s1 e1 60 60 = some (t1, x1)) (h2 : spec_DecFit.f k s2 e2 60 60 = some (t2, x2)) (h3 : spec_FracOf.f k t1 x1 = some (b1, n1, d1)) (h4 : spec_FracOf.f k t2 x2 = some (b2, n2, d2)) :
    Calls Tryz.prog 5 #[datD s1 e1, datD s2 e2] w fun e w' => ∃ A1 A2 A3 A4 c1 c2 c3 c4, e = .returned (.tuple #[datD t1 x1, datD t2 x2, .agg #[.bool b1, .slice A1 n1.length c1, .slice A2 d1.length c2], .agg #[.bool b2, .slice A3 n2.length c3, .slice A4 d2.length c4]]) ∧
      (n1.length ≤ c1 ∧ d1.length ≤ c2 ∧ n2.length ≤ c3 ∧ d2.length ≤ c4) ∧ Kd.V (Kd.int .u32) 76 w' 0 (fun k_ => w.heap.size ≤ k_) (.slice A1 n1.length c1) n1 ∧ Kd.V (Kd.int .u32) 76 w' 0 (fun k_ => w.heap.size ≤ k_) (.slice A2 d1.length c2) d1 ∧ Kd.V (Kd.int .u32) 76 w' 0 (fun k_ => w.heap.size ≤ k_) (.slice A3 n2.length c3) n2 ∧ Kd.V (Kd.int .u32) 76 w' 0 (fun k_ => w.heap.size ≤ k_) (.slice A4 d2.length c4) d2 ∧ Below w.heap.size w w' := by
  have HD1 := Aside0.mk (fun w0 => spec_DecFit.calls k s1 e1 60 60 t1 x1 w0 h1)
  have HD2 := Aside0.mk (fun w0 => spec_DecFit.calls k s2 e2 60 60 t2 x2 w0 h2)
  have HF1 := Aside0.mk (fun w0 => spec_FracOf.calls k t1 x1 b1 n1 d1 w0 h3)
  have HF2 := Aside0.mk (fun w0 => spec_FracOf.calls k t2 x2 b2 n2 d2 w0 h4)
  have HB := Aside0.mk (Below.refl w.heap.size w)
  clear h1 h2 h3 h4
  go_enter Tryz.func5, Tryz.ntmps5
  go_wp2_with (first | (((with_reducible refine gate_dst (N := 2) rfl ?_); refine box_event ?hg (N := 2) ?hd (cs := #[.string s1, .int .i64 e1]) (t := 23) ?hr ?_; (case hd => rfl); (case hg => rfl); (case hr => first | (go_simp; done) | (go_simp; rfl)); intro g1 hgq w1 hbx hb; have B1 := Aside0.mk hbx; have gq_g1 := Aside0.mk hgq; clear hbx hgq); have HB1 := Aside0.mk (below_step HB.out hb); have G1 := Aside0.mk (show w.heap.size ≤ g1 by rw [gq_g1.out]; exact Nat.le_refl _); clear hb HB) | (((with_reducible refine gate_dst (N := 3) rfl ?_); refine box_event ?hg (N := 3) ?hd (cs := #[.string s2, .int .i64 e2]) (t := 23) ?hr ?_; (case hd => rfl); (case hg => rfl); (case hr => first | (go_simp; done) | (go_simp; rfl)); intro g2 hgq w2 hbx hb; have B2 := Aside0.mk hbx; have gq_g2 := Aside0.mk hgq; clear hbx hgq); have HB2 := Aside0.mk (below_step HB1.out hb); have G2 := Aside0.mk (show w.heap.size ≤ g2 by rw [gq_g2.out]; exact HB1.out.size); have n2_1 : g2 ≠ g1 := (by have e1 := blk_lt B1.out; have e2 := gq_g2.out; omega); have n1_2 := n2_1.symm; have T1 := Aside0.mk (blk_below B1.out hb); clear B1; have B1 := T1; clear T1; clear hb HB1) | (((with_reducible refine gate_dst (N := 4) rfl ?_); refine box_event ?hg (N := 4) ?hd (cs := #[.string ⟨#[]⟩, .int .i64 0]) (t := 23) ?hr ?_; (case hd => rfl); (case hg => rfl); (case hr => first | (go_simp; done) | (go_simp; rfl)); intro g3 hgq w3 hbx hb; have B3 := Aside0.mk hbx; have gq_g3 := Aside0.mk hgq; clear hbx hgq); have HB3 := Aside0.mk (below_step HB2.out hb); have G3 := Aside0.mk (show w.heap.size ≤ g3 by rw [gq_g3.out]; exact HB2.out.size); have n3_1 : g3 ≠ g1 := (by have e1 := blk_lt B1.out; have e2 := gq_g3.out; omega); have n1_3 := n3_1.symm; have T1 := Aside0.mk (blk_below B1.out hb); clear B1; have B1 := T1; clear T1; have n3_2 : g3 ≠ g2 := (by have e1 := blk_lt B2.out; have e2 := gq_g3.out; omega); have n2_3 := n3_2.symm; have T2 := Aside0.mk (blk_below B2.out hb); clear B2; have B2 := T2; clear T2; clear hb HB2) | (((with_reducible refine gate_dst (N := 5) rfl ?_); refine box_event ?hg (N := 5) ?hd (cs := #[.string ⟨#[]⟩, .int .i64 0]) (t := 23) ?hr ?_; (case hd => rfl); (case hg => rfl); (case hr => first | (go_simp; done) | (go_simp; rfl)); intro g4 hgq w4 hbx hb; have B4 := Aside0.mk hbx; have gq_g4 := Aside0.mk hgq; clear hbx hgq); have HB4 := Aside0.mk (below_step HB3.out hb); have G4 := Aside0.mk (show w.heap.size ≤ g4 by rw [gq_g4.out]; exact HB3.out.size); have n4_1 : g4 ≠ g1 := (by have e1 := blk_lt B1.out; have e2 := gq_g4.out; omega); have n1_4 := n4_1.symm; have T1 := Aside0.mk (blk_below B1.out hb); clear B1; have B1 := T1; clear T1; have n4_2 : g4 ≠ g2 := (by have e1 := blk_lt B2.out; have e2 := gq_g4.out; omega); have n2_4 := n4_2.symm; have T2 := Aside0.mk (blk_below B2.out hb); clear B2; have B2 := T2; clear T2; have n4_3 : g4 ≠ g3 := (by have e1 := blk_lt B3.out; have e2 := gq_g4.out; omega); have n3_4 := n4_3.symm; have T3 := Aside0.mk (blk_below B3.out hb); clear B3; have B3 := T3; clear T3; clear hb HB3) | (((with_reducible refine gate_dst (N := 6) rfl ?_); refine box_event ?hg (N := 6) ?hd (cs := #[.bool false, .slice none 0 0, .slice none 0 0]) (t := 30) ?hr ?_; (case hd => rfl); (case hg => rfl); (case hr => first | (go_simp; done) | (go_simp; rfl)); intro g5 hgq w5 hbx hb; have B5 := Aside0.mk hbx; have gq_g5 := Aside0.mk hgq; clear hbx hgq); have HB5 := Aside0.mk (below_step HB4.out hb); have G5 := Aside0.mk (show w.heap.size ≤ g5 by rw [gq_g5.out]; exact HB4.out.size); have n5_1 : g5 ≠ g1 := (by have e1 := blk_lt B1.out; have e2 := gq_g5.out; omega); have n1_5 := n5_1.symm; have T1 := Aside0.mk (blk_below B1.out hb); clear B1; have B1 := T1; clear T1; have n5_2 : g5 ≠ g2 := (by have e1 := blk_lt B2.out; have e2 := gq_g5.out; omega); have n2_5 := n5_2.symm; have T2 := Aside0.mk (blk_below B2.out hb); clear B2; have B2 := T2; clear T2; have n5_3 : g5 ≠ g3 := (by have e1 := blk_lt B3.out; have e2 := gq_g5.out; omega); have n3_5 := n5_3.symm; have T3 := Aside0.mk (blk_below B3.out hb); clear B3; have B3 := T3; clear T3; have n5_4 : g5 ≠ g4 := (by have e1 := blk_lt B4.out; have e2 := gq_g5.out; omega); have n4_5 := n5_4.symm; have T4 := Aside0.mk (blk_below B4.out hb); clear B4; have B4 := T4; clear T4; clear hb HB4) | (((with_reducible refine gate_dst (N := 7) rfl ?_); refine box_event ?hg (N := 7) ?hd (cs := #[.bool false, .slice none 0 0, .slice none 0 0]) (t := 30) ?hr ?_; (case hd => rfl); (case hg => rfl); (case hr => first | (go_simp; done) | (go_simp; rfl)); intro g6 hgq w6 hbx hb; have B6 := Aside0.mk hbx; have gq_g6 := Aside0.mk hgq; clear hbx hgq); have HB6 := Aside0.mk (below_step HB5.out hb); have G6 := Aside0.mk (show w.heap.size ≤ g6 by rw [gq_g6.out]; exact HB5.out.size); have n6_1 : g6 ≠ g1 := (by have e1 := blk_lt B1.out; have e2 := gq_g6.out; omega); have n1_6 := n6_1.symm; have T1 := Aside0.mk (blk_below B1.out hb); clear B1; have B1 := T1; clear T1; have n6_2 : g6 ≠ g2 := (by have e1 := blk_lt B2.out; have e2 := gq_g6.out; omega); have n2_6 := n6_2.symm; have T2 := Aside0.mk (blk_below B2.out hb); clear B2; have B2 := T2; clear T2; have n6_3 : g6 ≠ g3 := (by have e1 := blk_lt B3.out; have e2 := gq_g6.out; omega); have n3_6 := n6_3.symm; have T3 := Aside0.mk (blk_below B3.out hb); clear B3; have B3 := T3; clear T3; have n6_4 : g6 ≠ g4 := (by have e1 := blk_lt B4.out; have e2 := gq_g6.out; omega); have n4_6 := n6_4.symm; have T4 := Aside0.mk (blk_below B4.out hb); clear B4; have B4 := T4; clear T4; have n6_5 : g6 ≠ g5 := (by have e1 := blk_lt B5.out; have e2 := gq_g6.out; omega); have n5_6 := n6_5.symm; have T5 := Aside0.mk (blk_below B5.out hb); clear B5; have B5 := T5; clear T5; clear hb HB5))
  have SK := Aside0.mk (fun (w' : World) (hb : Below w6.heap.size w6 w') => (show (fun w' => w'.cell? ⟨g1, 0, none⟩ = some (.string s1) ∧ w'.cell? ⟨g1, 1, none⟩ = some (.int .i64 e1) ∧ w'.cell? ⟨g2, 0, none⟩ = some (.string s2) ∧ w'.cell? ⟨g2, 1, none⟩ = some (.int .i64 e2)) w' from ⟨(blk_cell (blk_below B1.out hb) 0).trans rfl, (blk_cell (blk_below B1.out hb) 1).trans rfl, (blk_cell (blk_below B2.out hb) 0).trans rfl, (blk_cell (blk_below B2.out hb) 1).trans rfl⟩))
  refine start_ (n := 6) (S := fun w' => w'.cell? ⟨g1, 0, none⟩ = some (.string s1) ∧ w'.cell? ⟨g1, 1, none⟩ = some (.int .i64 e1) ∧ w'.cell? ⟨g2, 0, none⟩ = some (.string s2) ∧ w'.cell? ⟨g2, 1, none⟩ = some (.int .i64 e2)) (ds := [4, 5]) #[false, false, false, false, false, false] (by kernel_rfl) rfl rfl (SK.out _ (below_drew (Below.refl _ _))) (fun hHeld => ?_)
  refine take_ (i := 0) (N := some 8) (v := ?_) (a' := ?_) #[true, false, false, false, false, false] rfl rfl (by kernel_rfl) (fun _ _ _ h => h) (Or.inl ⟨by rfl, ?_⟩) hHeld ?_ ?_
  rotate_left
  · (rintro w' ⟨s0_, s1_, s2_, s3_⟩; go_simp; (try with_reducible rfl))
  rotate_left
  · simp only [Act.put, List.setIfInBounds_toArray, List.set_cons_zero, List.set_cons_succ, i64_w, i32_w]; rfl
  refine take_ (i := 2) (N := some 10) (v := ?_) (a' := ?_) #[true, false, true, false, false, false] rfl rfl (by kernel_rfl) (fun _ _ _ h => h) (Or.inl ⟨by rfl, ?_⟩) hHeld ?_ ?_
  rotate_left
  · (rintro w' ⟨s0_, s1_, s2_, s3_⟩; go_simp; (try with_reducible rfl))
  rotate_left
  · simp only [Act.put, List.setIfInBounds_toArray, List.set_cons_zero, List.set_cons_succ, i64_w, i32_w]; rfl
  refine one_ (i := 1) (N := some 9) #[true, true, true, false, false, false] rfl rfl (by kernel_rfl) (by decide) (fun K hK => ?_)
  refine goes_ Tryz.func9 (by kernel_rfl) rfl #[datD s1 e1, .int .i64 60, .int .i64 60] (by rfl) rfl rfl (by (try simp only [List.map_toArray, List.map_cons, List.map_nil]); first | done | rfl) ?_
  refine (HD1.out _).mono ?_
  rintro e' w7 ⟨rfl, hb⟩
  have hh7 := below_step (below_drew (Below.refl w6.heap.size w6)) hb
  clear hb
  refine ⟨_, rfl, ?_⟩
  refine hK.out _ _ (SK.out _ hh7) (fun hHeld => ?_)
  clear hK K
  refine norm_ (a' := ?_) ?_ ?_
  rotate_left
  · show Act.put _ (some 9) _ = _
    simp only [Act.put, List.setIfInBounds_toArray, List.set_cons_zero, List.set_cons_succ, i64_w, i32_w]; rfl
  refine one_ (i := 3) (N := some 11) #[true, true, true, true, false, false] rfl rfl (by kernel_rfl) (by decide) (fun K hK => ?_)
  refine goes_ Tryz.func9 (by kernel_rfl) rfl #[datD s2 e2, .int .i64 60, .int .i64 60] (by rfl) rfl rfl (by (try simp only [List.map_toArray, List.map_cons, List.map_nil]); first | done | rfl) ?_
  refine (HD2.out _).mono ?_
  rintro e' w8 ⟨rfl, hb⟩
  have hh8 := below_step hh7 hb
  clear hb hh7
  refine ⟨_, rfl, ?_⟩
  refine hK.out _ _ (SK.out _ hh8) (fun hHeld => ?_)
  clear hK K
  refine norm_ (a' := ?_) ?_ ?_
  rotate_left
  · show Act.put _ (some 11) _ = _
    simp only [Act.put, List.setIfInBounds_toArray, List.set_cons_zero, List.set_cons_succ, i64_w, i32_w]; rfl
  have HB8 := Aside0.mk (below_step HB6.out hh8)
  have C1 := Aside0.mk (blk_below B1.out hh8)
  have C2 := Aside0.mk (blk_below B2.out hh8)
  have C3 := Aside0.mk (blk_below B3.out hh8)
  have C4 := Aside0.mk (blk_below B4.out hh8)
  have C5 := Aside0.mk (blk_below B5.out hh8)
  have C6 := Aside0.mk (blk_below B6.out hh8)
  clear hh8 SK HB6 hHeld B1 B2 B3 B4 B5 B6
  have c0 := (blk_cell C1.out 0).trans rfl; have zc0 := blk_frozen C1.out 0; have c1 := (blk_cell C1.out 1).trans rfl; have zc1 := blk_frozen C1.out 1
  refine last_ (i := 4) (N := none) #[true, true, true, true, true, false] rfl rfl (by kernel_rfl) (by decide) (fun K hK => ?_)
  rw [if_pos (by rfl)]
  go_simp
  refine hK.out _ _ ?_
  clear hK K
  clear c0 c1 zc0 zc1
  have HB9 := Aside0.mk (below_set (j := 1) (v := .int .i64 x1) (below_set (j := 0) (v := .string t1) (HB8.out) G1.out) G1.out)
  have D1 := Aside0.mk (blk_put (cs' := #[.string t1, .int .i64 x1]) (blk_put (cs' := #[.string t1, .int .i64 e1]) (C1.out) 0 (.string t1) rfl) 1 (.int .i64 x1) rfl)
  have D2 := Aside0.mk (blk_far (p := ⟨g1, 1, none⟩) (blk_far (p := ⟨g1, 0, none⟩) (C2.out) n2_1 (.string t1)) n2_1 (.int .i64 x1))
  have D3 := Aside0.mk (blk_far (p := ⟨g1, 1, none⟩) (blk_far (p := ⟨g1, 0, none⟩) (C3.out) n3_1 (.string t1)) n3_1 (.int .i64 x1))
  have D4 := Aside0.mk (blk_far (p := ⟨g1, 1, none⟩) (blk_far (p := ⟨g1, 0, none⟩) (C4.out) n4_1 (.string t1)) n4_1 (.int .i64 x1))
  have D5 := Aside0.mk (blk_far (p := ⟨g1, 1, none⟩) (blk_far (p := ⟨g1, 0, none⟩) (C5.out) n5_1 (.string t1)) n5_1 (.int .i64 x1))
  have D6 := Aside0.mk (blk_far (p := ⟨g1, 1, none⟩) (blk_far (p := ⟨g1, 0, none⟩) (C6.out) n6_1 (.string t1)) n6_1 (.int .i64 x1))
  generalize ((w8.setCell ⟨g1, 0, none⟩ (.string t1)).setCell ⟨g1, 1, none⟩ (.int .i64 x1)) = w9 at *
  clear HB8 C1 C2 C3 C4 C5 C6 
  have c0 := (blk_cell D2.out 0).trans rfl; have zc0 := blk_frozen D2.out 0; have c1 := (blk_cell D2.out 1).trans rfl; have zc1 := blk_frozen D2.out 1
  refine last_ (i := 5) (N := none) #[true, true, true, true, true, true] rfl rfl (by kernel_rfl) (by decide) (fun K hK => ?_)
  rw [if_pos (by rfl)]
  go_simp
  refine hK.out _ _ ?_
  clear hK K
  clear c0 c1 zc0 zc1
  have HB10 := Aside0.mk (below_set (j := 1) (v := .int .i64 x2) (below_set (j := 0) (v := .string t2) (HB9.out) G2.out) G2.out)
  have E1 := Aside0.mk (blk_far (p := ⟨g2, 1, none⟩) (blk_far (p := ⟨g2, 0, none⟩) (D1.out) n1_2 (.string t2)) n1_2 (.int .i64 x2))
  have E2 := Aside0.mk (blk_put (cs' := #[.string t2, .int .i64 x2]) (blk_put (cs' := #[.string t2, .int .i64 e2]) (D2.out) 0 (.string t2) rfl) 1 (.int .i64 x2) rfl)
  have E3 := Aside0.mk (blk_far (p := ⟨g2, 1, none⟩) (blk_far (p := ⟨g2, 0, none⟩) (D3.out) n3_2 (.string t2)) n3_2 (.int .i64 x2))
  have E4 := Aside0.mk (blk_far (p := ⟨g2, 1, none⟩) (blk_far (p := ⟨g2, 0, none⟩) (D4.out) n4_2 (.string t2)) n4_2 (.int .i64 x2))
  have E5 := Aside0.mk (blk_far (p := ⟨g2, 1, none⟩) (blk_far (p := ⟨g2, 0, none⟩) (D5.out) n5_2 (.string t2)) n5_2 (.int .i64 x2))
  have E6 := Aside0.mk (blk_far (p := ⟨g2, 1, none⟩) (blk_far (p := ⟨g2, 0, none⟩) (D6.out) n6_2 (.string t2)) n6_2 (.int .i64 x2))
  generalize ((w9.setCell ⟨g2, 0, none⟩ (.string t2)).setCell ⟨g2, 1, none⟩ (.int .i64 x2)) = w10 at *
  clear HB9 D1 D2 D3 D4 D5 D6 
  refine done_ (by kernel_rfl) ?_
  go_wp2_with fail
  have SK := Aside0.mk (fun (w' : World) (hb : Below w10.heap.size w10 w') => (show (fun w' => w'.cell? ⟨g1, 0, none⟩ = some (.string t1) ∧ w'.cell? ⟨g1, 1, none⟩ = some (.int .i64 x1) ∧ w'.cell? ⟨g2, 0, none⟩ = some (.string t2) ∧ w'.cell? ⟨g2, 1, none⟩ = some (.int .i64 x2)) w' from ⟨(blk_cell (blk_below E1.out hb) 0).trans rfl, (blk_cell (blk_below E1.out hb) 1).trans rfl, (blk_cell (blk_below E2.out hb) 0).trans rfl, (blk_cell (blk_below E2.out hb) 1).trans rfl⟩))
  refine start_ (n := 10) (S := fun w' => w'.cell? ⟨g1, 0, none⟩ = some (.string t1) ∧ w'.cell? ⟨g1, 1, none⟩ = some (.int .i64 x1) ∧ w'.cell? ⟨g2, 0, none⟩ = some (.string t2) ∧ w'.cell? ⟨g2, 1, none⟩ = some (.int .i64 x2)) (ds := [7, 8, 9]) #[false, false, false, false, false, false, false, false, false, false] (by kernel_rfl) rfl rfl (SK.out _ (below_drew (Below.refl _ _))) (fun hHeld => ?_)
  refine take_ (i := 0) (N := some 12) (v := ?_) (a' := ?_) #[true, false, false, false, false, false, false, false, false, false] rfl rfl (by kernel_rfl) (fun _ _ _ h => h) (Or.inl ⟨by rfl, ?_⟩) hHeld ?_ ?_
  rotate_left
  · (rintro w' ⟨s0_, s1_, s2_, s3_⟩; go_simp; (try with_reducible rfl))
  rotate_left
  · simp only [Act.put, List.setIfInBounds_toArray, List.set_cons_zero, List.set_cons_succ, i64_w, i32_w]; rfl
  refine take_ (i := 1) (N := some 13) (v := ?_) (a' := ?_) #[true, true, false, false, false, false, false, false, false, false] rfl rfl (by kernel_rfl) (fun _ _ _ h => h) (Or.inl ⟨by rfl, ?_⟩) hHeld ?_ ?_
  rotate_left
  · (rintro w' ⟨s0_, s1_, s2_, s3_⟩; go_simp; (try with_reducible rfl))
  rotate_left
  · simp only [Act.put, List.setIfInBounds_toArray, List.set_cons_zero, List.set_cons_succ, i64_w, i32_w]; rfl
  refine take_ (i := 2) (N := some 14) (v := ?_) (a' := ?_) #[true, true, true, false, false, false, false, false, false, false] rfl rfl (by kernel_rfl) (fun _ _ _ h => h) (Or.inl ⟨by rfl, ?_⟩) hHeld ?_ ?_
  rotate_left
  · (rintro w' ⟨s0_, s1_, s2_, s3_⟩; go_simp; (try with_reducible rfl))
  rotate_left
  · simp only [Act.put, List.setIfInBounds_toArray, List.set_cons_zero, List.set_cons_succ, i64_w, i32_w]; rfl
  refine take_ (i := 4) (N := some 16) (v := ?_) (a' := ?_) #[true, true, true, false, true, false, false, false, false, false] rfl rfl (by kernel_rfl) (fun _ _ _ h => h) (Or.inl ⟨by rfl, ?_⟩) hHeld ?_ ?_
  rotate_left
  · (rintro w' ⟨s0_, s1_, s2_, s3_⟩; go_simp; (try with_reducible rfl))
  rotate_left
  · simp only [Act.put, List.setIfInBounds_toArray, List.set_cons_zero, List.set_cons_succ, i64_w, i32_w]; rfl
  refine one_ (i := 3) (N := some 15) #[true, true, true, true, true, false, false, false, false, false] rfl rfl (by kernel_rfl) (by decide) (fun K hK => ?_)
  refine goes_ Tryz.func10 (by kernel_rfl) rfl #[datD t1 x1] (by rfl) rfl rfl (by (try simp only [List.map_toArray, List.map_cons, List.map_nil]); first | done | rfl) ?_
  refine (HF1.out _).mono ?_
  rintro e' w11 ⟨u1, u2, rfl, hV1, hR1, hb⟩
  obtain ⟨A1, k1', rfl⟩ := Kd.V_slice hV1
  obtain ⟨A2, k2', rfl⟩ := Kd.R_slice hR1
  have hh11 := below_step (below_drew (Below.refl w10.heap.size w10)) hb
  have Q1 := Aside0.mk (Kd.V_mono (ok' := fun k_ => w10.heap.size ≤ k_) (Kd.V_lower hV1 (Nat.zero_le _)) (fun k_ hk_ => hk_.1))
  have Q2 := Aside0.mk (Kd.V_mono (ok' := fun k_ => w10.heap.size ≤ k_) (Kd.R_V (base' := 0) hR1) (fun k_ hk_ => hk_))
  clear hb hV1 hR1
  refine ⟨_, rfl, ?_⟩
  refine hK.out _ _ (SK.out _ hh11) (fun hHeld => ?_)
  clear hK K
  refine norm_ (a' := ?_) ?_ ?_
  rotate_left
  · show Act.put _ (some 15) _ = _
    simp only [Act.put, List.setIfInBounds_toArray, List.set_cons_zero, List.set_cons_succ, i64_w, i32_w]; rfl
  refine one_ (i := 5) (N := some 17) #[true, true, true, true, true, true, false, false, false, false] rfl rfl (by kernel_rfl) (by decide) (fun K hK => ?_)
  refine goes_ Tryz.func10 (by kernel_rfl) rfl #[datD t2 x2] (by rfl) rfl rfl (by (try simp only [List.map_toArray, List.map_cons, List.map_nil]); first | done | rfl) ?_
  refine (HF2.out _).mono ?_
  rintro e' w12 ⟨u1, u2, rfl, hV1, hR1, hb⟩
  obtain ⟨A3, k3', rfl⟩ := Kd.V_slice hV1
  obtain ⟨A4, k4', rfl⟩ := Kd.R_slice hR1
  have hh12 := below_step hh11 hb
  have FQ1 := Aside0.mk (Kd.V_below Q1.out hb)
  have FQ2 := Aside0.mk (Kd.V_below Q2.out hb)
  have FQ3 := Aside0.mk (Kd.V_mono (ok' := fun k_ => w10.heap.size ≤ k_) (Kd.V_lower hV1 (Nat.zero_le _)) (fun k_ hk_ => Nat.le_trans hh11.size hk_.1))
  have FQ4 := Aside0.mk (Kd.V_mono (ok' := fun k_ => w10.heap.size ≤ k_) (Kd.R_V (base' := 0) hR1) (fun k_ hk_ => Nat.le_trans hh11.size hk_))
  clear hb hV1 hR1 hh11 Q1 Q2
  refine ⟨_, rfl, ?_⟩
  refine hK.out _ _ (SK.out _ hh12) (fun hHeld => ?_)
  clear hK K
  refine norm_ (a' := ?_) ?_ ?_
  rotate_left
  · show Act.put _ (some 17) _ = _
    simp only [Act.put, List.setIfInBounds_toArray, List.set_cons_zero, List.set_cons_succ, i64_w, i32_w]; rfl
  have HB12 := Aside0.mk (below_step HB10.out hh12)
  have HN10 := Aside0.mk HB10.out.size
  have F1 := Aside0.mk (blk_below E1.out hh12)
  have GL1 := Aside0.mk (blk_lt E1.out)
  have F2 := Aside0.mk (blk_below E2.out hh12)
  have GL2 := Aside0.mk (blk_lt E2.out)
  have F3 := Aside0.mk (blk_below E3.out hh12)
  have GL3 := Aside0.mk (blk_lt E3.out)
  have F4 := Aside0.mk (blk_below E4.out hh12)
  have GL4 := Aside0.mk (blk_lt E4.out)
  have F5 := Aside0.mk (blk_below E5.out hh12)
  have GL5 := Aside0.mk (blk_lt E5.out)
  have F6 := Aside0.mk (blk_below E6.out hh12)
  have GL6 := Aside0.mk (blk_lt E6.out)
  clear hh12 SK HB10 hHeld E1 E2 E3 E4 E5 E6
  have c0 := (blk_cell F3.out 0).trans rfl; have zc0 := blk_frozen F3.out 0; have c1 := (blk_cell F3.out 1).trans rfl; have zc1 := blk_frozen F3.out 1
  refine one_ (i := 6) (N := none) #[true, true, true, true, true, true, true, false, false, false] rfl rfl (by kernel_rfl) (by decide) (fun K hK => ?_)
  rw [if_pos (by rfl)]
  go_simp
  clear c0 zc0 c1 zc1
  have HB13 := Aside0.mk (below_set (j := 1) (v := .int .i64 x1) (below_set (j := 0) (v := .string t1) (HB12.out) G3.out) G3.out)
  have I1 := Aside0.mk (blk_far (p := ⟨g3, 1, none⟩) (blk_far (p := ⟨g3, 0, none⟩) (F1.out) n1_3 (.string t1)) n1_3 (.int .i64 x1))
  have I2 := Aside0.mk (blk_far (p := ⟨g3, 1, none⟩) (blk_far (p := ⟨g3, 0, none⟩) (F2.out) n2_3 (.string t1)) n2_3 (.int .i64 x1))
  have I3 := Aside0.mk (blk_put (cs' := #[.string t1, .int .i64 x1]) (blk_put (cs' := #[.string t1, .int .i64 0]) (F3.out) 0 (.string t1) rfl) 1 (.int .i64 x1) rfl)
  have I4 := Aside0.mk (blk_far (p := ⟨g3, 1, none⟩) (blk_far (p := ⟨g3, 0, none⟩) (F4.out) n4_3 (.string t1)) n4_3 (.int .i64 x1))
  have I5 := Aside0.mk (blk_far (p := ⟨g3, 1, none⟩) (blk_far (p := ⟨g3, 0, none⟩) (F5.out) n5_3 (.string t1)) n5_3 (.int .i64 x1))
  have I6 := Aside0.mk (blk_far (p := ⟨g3, 1, none⟩) (blk_far (p := ⟨g3, 0, none⟩) (F6.out) n6_3 (.string t1)) n6_3 (.int .i64 x1))
  have IQ1 := Aside0.mk (Kd.V_far (p := ⟨g3, 1, none⟩) (Kd.V_far (p := ⟨g3, 0, none⟩) (FQ1.out) (fun k_ hk_ => by have h1_ : w10.heap.size ≤ k_ := hk_; have := GL3.out; show k_ ≠ g3; omega) (.string t1)) (fun k_ hk_ => by have h1_ : w10.heap.size ≤ k_ := hk_; have := GL3.out; show k_ ≠ g3; omega) (.int .i64 x1))
  have IQ2 := Aside0.mk (Kd.V_far (p := ⟨g3, 1, none⟩) (Kd.V_far (p := ⟨g3, 0, none⟩) (FQ2.out) (fun k_ hk_ => by have h1_ : w10.heap.size ≤ k_ := hk_; have := GL3.out; show k_ ≠ g3; omega) (.string t1)) (fun k_ hk_ => by have h1_ : w10.heap.size ≤ k_ := hk_; have := GL3.out; show k_ ≠ g3; omega) (.int .i64 x1))
  have IQ3 := Aside0.mk (Kd.V_far (p := ⟨g3, 1, none⟩) (Kd.V_far (p := ⟨g3, 0, none⟩) (FQ3.out) (fun k_ hk_ => by have h1_ : w10.heap.size ≤ k_ := hk_; have := GL3.out; show k_ ≠ g3; omega) (.string t1)) (fun k_ hk_ => by have h1_ : w10.heap.size ≤ k_ := hk_; have := GL3.out; show k_ ≠ g3; omega) (.int .i64 x1))
  have IQ4 := Aside0.mk (Kd.V_far (p := ⟨g3, 1, none⟩) (Kd.V_far (p := ⟨g3, 0, none⟩) (FQ4.out) (fun k_ hk_ => by have h1_ : w10.heap.size ≤ k_ := hk_; have := GL3.out; show k_ ≠ g3; omega) (.string t1)) (fun k_ hk_ => by have h1_ : w10.heap.size ≤ k_ := hk_; have := GL3.out; show k_ ≠ g3; omega) (.int .i64 x1))
  refine hK.out _ _ ⟨(blk_cell I1.out 0).trans rfl, (blk_cell I1.out 1).trans rfl, (blk_cell I2.out 0).trans rfl, (blk_cell I2.out 1).trans rfl⟩ (fun hHeld => ?_)
  clear hK K hHeld
  generalize ((w12.setCell ⟨g3, 0, none⟩ (.string t1)).setCell ⟨g3, 1, none⟩ (.int .i64 x1)) = w13 at *
  clear HB12 F1 F2 F3 F4 F5 F6 FQ1 FQ2 FQ3 FQ4
  have c0 := (blk_cell I4.out 0).trans rfl; have zc0 := blk_frozen I4.out 0; have c1 := (blk_cell I4.out 1).trans rfl; have zc1 := blk_frozen I4.out 1
  refine last_ (i := 7) (N := none) #[true, true, true, true, true, true, true, true, false, false] rfl rfl (by kernel_rfl) (by decide) (fun K hK => ?_)
  rw [if_pos (by rfl)]
  go_simp
  refine hK.out _ _ ?_
  clear hK K
  clear c0 zc0 c1 zc1
  have HB14 := Aside0.mk (below_set (j := 1) (v := .int .i64 x2) (below_set (j := 0) (v := .string t2) (HB13.out) G4.out) G4.out)
  have J1 := Aside0.mk (blk_far (p := ⟨g4, 1, none⟩) (blk_far (p := ⟨g4, 0, none⟩) (I1.out) n1_4 (.string t2)) n1_4 (.int .i64 x2))
  have J2 := Aside0.mk (blk_far (p := ⟨g4, 1, none⟩) (blk_far (p := ⟨g4, 0, none⟩) (I2.out) n2_4 (.string t2)) n2_4 (.int .i64 x2))
  have J3 := Aside0.mk (blk_far (p := ⟨g4, 1, none⟩) (blk_far (p := ⟨g4, 0, none⟩) (I3.out) n3_4 (.string t2)) n3_4 (.int .i64 x2))
  have J4 := Aside0.mk (blk_put (cs' := #[.string t2, .int .i64 x2]) (blk_put (cs' := #[.string t2, .int .i64 0]) (I4.out) 0 (.string t2) rfl) 1 (.int .i64 x2) rfl)
  have J5 := Aside0.mk (blk_far (p := ⟨g4, 1, none⟩) (blk_far (p := ⟨g4, 0, none⟩) (I5.out) n5_4 (.string t2)) n5_4 (.int .i64 x2))
  have J6 := Aside0.mk (blk_far (p := ⟨g4, 1, none⟩) (blk_far (p := ⟨g4, 0, none⟩) (I6.out) n6_4 (.string t2)) n6_4 (.int .i64 x2))
  have JQ1 := Aside0.mk (Kd.V_far (p := ⟨g4, 1, none⟩) (Kd.V_far (p := ⟨g4, 0, none⟩) (IQ1.out) (fun k_ hk_ => by have h1_ : w10.heap.size ≤ k_ := hk_; have := GL4.out; show k_ ≠ g4; omega) (.string t2)) (fun k_ hk_ => by have h1_ : w10.heap.size ≤ k_ := hk_; have := GL4.out; show k_ ≠ g4; omega) (.int .i64 x2))
  have JQ2 := Aside0.mk (Kd.V_far (p := ⟨g4, 1, none⟩) (Kd.V_far (p := ⟨g4, 0, none⟩) (IQ2.out) (fun k_ hk_ => by have h1_ : w10.heap.size ≤ k_ := hk_; have := GL4.out; show k_ ≠ g4; omega) (.string t2)) (fun k_ hk_ => by have h1_ : w10.heap.size ≤ k_ := hk_; have := GL4.out; show k_ ≠ g4; omega) (.int .i64 x2))
  have JQ3 := Aside0.mk (Kd.V_far (p := ⟨g4, 1, none⟩) (Kd.V_far (p := ⟨g4, 0, none⟩) (IQ3.out) (fun k_ hk_ => by have h1_ : w10.heap.size ≤ k_ := hk_; have := GL4.out; show k_ ≠ g4; omega) (.string t2)) (fun k_ hk_ => by have h1_ : w10.heap.size ≤ k_ := hk_; have := GL4.out; show k_ ≠ g4; omega) (.int .i64 x2))
  have JQ4 := Aside0.mk (Kd.V_far (p := ⟨g4, 1, none⟩) (Kd.V_far (p := ⟨g4, 0, none⟩) (IQ4.out) (fun k_ hk_ => by have h1_ : w10.heap.size ≤ k_ := hk_; have := GL4.out; show k_ ≠ g4; omega) (.string t2)) (fun k_ hk_ => by have h1_ : w10.heap.size ≤ k_ := hk_; have := GL4.out; show k_ ≠ g4; omega) (.int .i64 x2))
  generalize ((w13.setCell ⟨g4, 0, none⟩ (.string t2)).setCell ⟨g4, 1, none⟩ (.int .i64 x2)) = w14 at *
  clear HB13 I1 I2 I3 I4 I5 I6 IQ1 IQ2 IQ3 IQ4
  have c0 := (blk_cell J5.out 0).trans rfl; have zc0 := blk_frozen J5.out 0; have c1 := (blk_cell J5.out 1).trans rfl; have zc1 := blk_frozen J5.out 1; have c2 := (blk_cell J5.out 2).trans rfl; have zc2 := blk_frozen J5.out 2
  refine last_ (i := 8) (N := none) #[true, true, true, true, true, true, true, true, true, false] rfl rfl (by kernel_rfl) (by decide) (fun K hK => ?_)
  rw [if_pos (by rfl)]
  go_simp
  refine hK.out _ _ ?_
  clear hK K
  clear c0 zc0 c1 zc1 c2 zc2
  have HB15 := Aside0.mk (below_set (j := 2) (v := .slice A2 d1.length k2') (below_set (j := 1) (v := .slice A1 n1.length k1') (below_set (j := 0) (v := .bool b1) (HB14.out) G5.out) G5.out) G5.out)
  have L1 := Aside0.mk (blk_far (p := ⟨g5, 2, none⟩) (blk_far (p := ⟨g5, 1, none⟩) (blk_far (p := ⟨g5, 0, none⟩) (J1.out) n1_5 (.bool b1)) n1_5 (.slice A1 n1.length k1')) n1_5 (.slice A2 d1.length k2'))
  have L2 := Aside0.mk (blk_far (p := ⟨g5, 2, none⟩) (blk_far (p := ⟨g5, 1, none⟩) (blk_far (p := ⟨g5, 0, none⟩) (J2.out) n2_5 (.bool b1)) n2_5 (.slice A1 n1.length k1')) n2_5 (.slice A2 d1.length k2'))
  have L3 := Aside0.mk (blk_far (p := ⟨g5, 2, none⟩) (blk_far (p := ⟨g5, 1, none⟩) (blk_far (p := ⟨g5, 0, none⟩) (J3.out) n3_5 (.bool b1)) n3_5 (.slice A1 n1.length k1')) n3_5 (.slice A2 d1.length k2'))
  have L4 := Aside0.mk (blk_far (p := ⟨g5, 2, none⟩) (blk_far (p := ⟨g5, 1, none⟩) (blk_far (p := ⟨g5, 0, none⟩) (J4.out) n4_5 (.bool b1)) n4_5 (.slice A1 n1.length k1')) n4_5 (.slice A2 d1.length k2'))
  have L5 := Aside0.mk (blk_put (cs' := #[.bool b1, .slice A1 n1.length k1', .slice A2 d1.length k2']) (blk_put (cs' := #[.bool b1, .slice A1 n1.length k1', .slice none 0 0]) (blk_put (cs' := #[.bool b1, .slice none 0 0, .slice none 0 0]) (J5.out) 0 (.bool b1) rfl) 1 (.slice A1 n1.length k1') rfl) 2 (.slice A2 d1.length k2') rfl)
  have L6 := Aside0.mk (blk_far (p := ⟨g5, 2, none⟩) (blk_far (p := ⟨g5, 1, none⟩) (blk_far (p := ⟨g5, 0, none⟩) (J6.out) n6_5 (.bool b1)) n6_5 (.slice A1 n1.length k1')) n6_5 (.slice A2 d1.length k2'))
  have LQ1 := Aside0.mk (Kd.V_far (p := ⟨g5, 2, none⟩) (Kd.V_far (p := ⟨g5, 1, none⟩) (Kd.V_far (p := ⟨g5, 0, none⟩) (JQ1.out) (fun k_ hk_ => by have h1_ : w10.heap.size ≤ k_ := hk_; have := GL5.out; show k_ ≠ g5; omega) (.bool b1)) (fun k_ hk_ => by have h1_ : w10.heap.size ≤ k_ := hk_; have := GL5.out; show k_ ≠ g5; omega) (.slice A1 n1.length k1')) (fun k_ hk_ => by have h1_ : w10.heap.size ≤ k_ := hk_; have := GL5.out; show k_ ≠ g5; omega) (.slice A2 d1.length k2'))
  have LQ2 := Aside0.mk (Kd.V_far (p := ⟨g5, 2, none⟩) (Kd.V_far (p := ⟨g5, 1, none⟩) (Kd.V_far (p := ⟨g5, 0, none⟩) (JQ2.out) (fun k_ hk_ => by have h1_ : w10.heap.size ≤ k_ := hk_; have := GL5.out; show k_ ≠ g5; omega) (.bool b1)) (fun k_ hk_ => by have h1_ : w10.heap.size ≤ k_ := hk_; have := GL5.out; show k_ ≠ g5; omega) (.slice A1 n1.length k1')) (fun k_ hk_ => by have h1_ : w10.heap.size ≤ k_ := hk_; have := GL5.out; show k_ ≠ g5; omega) (.slice A2 d1.length k2'))
  have LQ3 := Aside0.mk (Kd.V_far (p := ⟨g5, 2, none⟩) (Kd.V_far (p := ⟨g5, 1, none⟩) (Kd.V_far (p := ⟨g5, 0, none⟩) (JQ3.out) (fun k_ hk_ => by have h1_ : w10.heap.size ≤ k_ := hk_; have := GL5.out; show k_ ≠ g5; omega) (.bool b1)) (fun k_ hk_ => by have h1_ : w10.heap.size ≤ k_ := hk_; have := GL5.out; show k_ ≠ g5; omega) (.slice A1 n1.length k1')) (fun k_ hk_ => by have h1_ : w10.heap.size ≤ k_ := hk_; have := GL5.out; show k_ ≠ g5; omega) (.slice A2 d1.length k2'))
  have LQ4 := Aside0.mk (Kd.V_far (p := ⟨g5, 2, none⟩) (Kd.V_far (p := ⟨g5, 1, none⟩) (Kd.V_far (p := ⟨g5, 0, none⟩) (JQ4.out) (fun k_ hk_ => by have h1_ : w10.heap.size ≤ k_ := hk_; have := GL5.out; show k_ ≠ g5; omega) (.bool b1)) (fun k_ hk_ => by have h1_ : w10.heap.size ≤ k_ := hk_; have := GL5.out; show k_ ≠ g5; omega) (.slice A1 n1.length k1')) (fun k_ hk_ => by have h1_ : w10.heap.size ≤ k_ := hk_; have := GL5.out; show k_ ≠ g5; omega) (.slice A2 d1.length k2'))
  generalize (((w14.setCell ⟨g5, 0, none⟩ (.bool b1)).setCell ⟨g5, 1, none⟩ (.slice A1 n1.length k1')).setCell ⟨g5, 2, none⟩ (.slice A2 d1.length k2')) = w15 at *
  clear HB14 J1 J2 J3 J4 J5 J6 JQ1 JQ2 JQ3 JQ4
  have c0 := (blk_cell L6.out 0).trans rfl; have zc0 := blk_frozen L6.out 0; have c1 := (blk_cell L6.out 1).trans rfl; have zc1 := blk_frozen L6.out 1; have c2 := (blk_cell L6.out 2).trans rfl; have zc2 := blk_frozen L6.out 2
  refine last_ (i := 9) (N := none) #[true, true, true, true, true, true, true, true, true, true] rfl rfl (by kernel_rfl) (by decide) (fun K hK => ?_)
  rw [if_pos (by rfl)]
  go_simp
  refine hK.out _ _ ?_
  clear hK K
  clear c0 zc0 c1 zc1 c2 zc2
  have HB16 := Aside0.mk (below_set (j := 2) (v := .slice A4 d2.length k4') (below_set (j := 1) (v := .slice A3 n2.length k3') (below_set (j := 0) (v := .bool b2) (HB15.out) G6.out) G6.out) G6.out)
  have M1 := Aside0.mk (blk_far (p := ⟨g6, 2, none⟩) (blk_far (p := ⟨g6, 1, none⟩) (blk_far (p := ⟨g6, 0, none⟩) (L1.out) n1_6 (.bool b2)) n1_6 (.slice A3 n2.length k3')) n1_6 (.slice A4 d2.length k4'))
  have M2 := Aside0.mk (blk_far (p := ⟨g6, 2, none⟩) (blk_far (p := ⟨g6, 1, none⟩) (blk_far (p := ⟨g6, 0, none⟩) (L2.out) n2_6 (.bool b2)) n2_6 (.slice A3 n2.length k3')) n2_6 (.slice A4 d2.length k4'))
  have M3 := Aside0.mk (blk_far (p := ⟨g6, 2, none⟩) (blk_far (p := ⟨g6, 1, none⟩) (blk_far (p := ⟨g6, 0, none⟩) (L3.out) n3_6 (.bool b2)) n3_6 (.slice A3 n2.length k3')) n3_6 (.slice A4 d2.length k4'))
  have M4 := Aside0.mk (blk_far (p := ⟨g6, 2, none⟩) (blk_far (p := ⟨g6, 1, none⟩) (blk_far (p := ⟨g6, 0, none⟩) (L4.out) n4_6 (.bool b2)) n4_6 (.slice A3 n2.length k3')) n4_6 (.slice A4 d2.length k4'))
  have M5 := Aside0.mk (blk_far (p := ⟨g6, 2, none⟩) (blk_far (p := ⟨g6, 1, none⟩) (blk_far (p := ⟨g6, 0, none⟩) (L5.out) n5_6 (.bool b2)) n5_6 (.slice A3 n2.length k3')) n5_6 (.slice A4 d2.length k4'))
  have M6 := Aside0.mk (blk_put (cs' := #[.bool b2, .slice A3 n2.length k3', .slice A4 d2.length k4']) (blk_put (cs' := #[.bool b2, .slice A3 n2.length k3', .slice none 0 0]) (blk_put (cs' := #[.bool b2, .slice none 0 0, .slice none 0 0]) (L6.out) 0 (.bool b2) rfl) 1 (.slice A3 n2.length k3') rfl) 2 (.slice A4 d2.length k4') rfl)
  have MQ1 := Aside0.mk (Kd.V_far (p := ⟨g6, 2, none⟩) (Kd.V_far (p := ⟨g6, 1, none⟩) (Kd.V_far (p := ⟨g6, 0, none⟩) (LQ1.out) (fun k_ hk_ => by have h1_ : w10.heap.size ≤ k_ := hk_; have := GL6.out; show k_ ≠ g6; omega) (.bool b2)) (fun k_ hk_ => by have h1_ : w10.heap.size ≤ k_ := hk_; have := GL6.out; show k_ ≠ g6; omega) (.slice A3 n2.length k3')) (fun k_ hk_ => by have h1_ : w10.heap.size ≤ k_ := hk_; have := GL6.out; show k_ ≠ g6; omega) (.slice A4 d2.length k4'))
  have MQ2 := Aside0.mk (Kd.V_far (p := ⟨g6, 2, none⟩) (Kd.V_far (p := ⟨g6, 1, none⟩) (Kd.V_far (p := ⟨g6, 0, none⟩) (LQ2.out) (fun k_ hk_ => by have h1_ : w10.heap.size ≤ k_ := hk_; have := GL6.out; show k_ ≠ g6; omega) (.bool b2)) (fun k_ hk_ => by have h1_ : w10.heap.size ≤ k_ := hk_; have := GL6.out; show k_ ≠ g6; omega) (.slice A3 n2.length k3')) (fun k_ hk_ => by have h1_ : w10.heap.size ≤ k_ := hk_; have := GL6.out; show k_ ≠ g6; omega) (.slice A4 d2.length k4'))
  have MQ3 := Aside0.mk (Kd.V_far (p := ⟨g6, 2, none⟩) (Kd.V_far (p := ⟨g6, 1, none⟩) (Kd.V_far (p := ⟨g6, 0, none⟩) (LQ3.out) (fun k_ hk_ => by have h1_ : w10.heap.size ≤ k_ := hk_; have := GL6.out; show k_ ≠ g6; omega) (.bool b2)) (fun k_ hk_ => by have h1_ : w10.heap.size ≤ k_ := hk_; have := GL6.out; show k_ ≠ g6; omega) (.slice A3 n2.length k3')) (fun k_ hk_ => by have h1_ : w10.heap.size ≤ k_ := hk_; have := GL6.out; show k_ ≠ g6; omega) (.slice A4 d2.length k4'))
  have MQ4 := Aside0.mk (Kd.V_far (p := ⟨g6, 2, none⟩) (Kd.V_far (p := ⟨g6, 1, none⟩) (Kd.V_far (p := ⟨g6, 0, none⟩) (LQ4.out) (fun k_ hk_ => by have h1_ : w10.heap.size ≤ k_ := hk_; have := GL6.out; show k_ ≠ g6; omega) (.bool b2)) (fun k_ hk_ => by have h1_ : w10.heap.size ≤ k_ := hk_; have := GL6.out; show k_ ≠ g6; omega) (.slice A3 n2.length k3')) (fun k_ hk_ => by have h1_ : w10.heap.size ≤ k_ := hk_; have := GL6.out; show k_ ≠ g6; omega) (.slice A4 d2.length k4'))
  generalize (((w15.setCell ⟨g6, 0, none⟩ (.bool b2)).setCell ⟨g6, 1, none⟩ (.slice A3 n2.length k3')).setCell ⟨g6, 2, none⟩ (.slice A4 d2.length k4')) = w16 at *
  clear HB15 L1 L2 L3 L4 L5 L6 LQ1 LQ2 LQ3 LQ4
  refine done_ (by kernel_rfl) ?_
  have p0 := (blk_cell M3.out 0).trans rfl; have zp0 := blk_frozen M3.out 0; have p1 := (blk_cell M3.out 1).trans rfl; have zp1 := blk_frozen M3.out 1
  have q0 := (blk_cell M4.out 0).trans rfl; have zq0 := blk_frozen M4.out 0; have q1 := (blk_cell M4.out 1).trans rfl; have zq1 := blk_frozen M4.out 1
  have r0 := (blk_cell M5.out 0).trans rfl; have zr0 := blk_frozen M5.out 0; have r1 := (blk_cell M5.out 1).trans rfl; have zr1 := blk_frozen M5.out 1; have r2 := (blk_cell M5.out 2).trans rfl; have zr2 := blk_frozen M5.out 2
  have v0 := (blk_cell M6.out 0).trans rfl; have zv0 := blk_frozen M6.out 0; have v1 := (blk_cell M6.out 1).trans rfl; have zv1 := blk_frozen M6.out 1; have v2 := (blk_cell M6.out 2).trans rfl; have zv2 := blk_frozen M6.out 2
  go_wp2_with fail
  exact bodyPost_ret (v := .tuple #[datD t1 x1, datD t2 x2, .agg #[.bool b1, .slice A1 n1.length k1', .slice A2 d1.length k2'], .agg #[.bool b2, .slice A3 n2.length k3', .slice A4 d2.length k4']]) (by simp [results, Tryz.results5, go_sem, p0, p1, q0, q1, r0, r1, r2, v0, v1, v2]) rfl
    ⟨A1, A2, A3, A4, k1', k2', k3', k4', rfl, ⟨(Kd.V_reads' MQ1.out).2.1, (Kd.V_reads' MQ2.out).2.1, (Kd.V_reads' MQ3.out).2.1, (Kd.V_reads' MQ4.out).2.1⟩, Kd.V_mono MQ1.out (fun k_ hk_ => Nat.le_trans HN10.out hk_), Kd.V_mono MQ2.out (fun k_ hk_ => Nat.le_trans HN10.out hk_), Kd.V_mono MQ3.out (fun k_ hk_ => Nat.le_trans HN10.out hk_), Kd.V_mono MQ4.out (fun k_ hk_ => Nat.le_trans HN10.out hk_), HB16.out⟩
end Go.Proofs.YtghabdpbacgicaaGreatDoor.G
