/-
  THE WALK of the law of DecToBinary and DecFromBinary.
-/
import Derived.Test.YtghabdpbacgicaaDoorGToB
import Derived.Test.YtghabdpbacgicaaDoorGFrB
import Derived.Test.YtghabdpbacgicaaDoorSZ
import Derived.Test.YtghabdpbacgicaaDoorSOfD
import Derived.Test.YtghabdpbacgicaaDoorSWor
import Derived.Outline
namespace Go.Proofs.YtghabdpbacgicaaDoor.G
open Go.RowKit Go.Proofs.YtghabdpbacgicaaDoorW.PrintWords Go.Proofs.YtghabdpbacgicaaDoorW.PrintLast Go.Proofs.YtghabdpbacgicaaDoorW.PrintMore Go.Proofs.YtghabdpbacgicaaDoor.S
set_option linter.unusedVariables false
set_option linter.unusedSimpArgs false

theorem lawBin_long (s : ByteArray) (e : Int) (w : World) (h : laws_zzFits1.f s e = some false) :
    Calls Tryd.prog 3 #[datD s e] w fun e' w' => e' = .returned (.bool true) ∧ Below w.heap.size w w' := by
  have HF := Aside0.mk (fun w0 => laws_zzFits1.calls s e false w0 h)
  have HB := Aside0.mk (Below.refl w.heap.size w)
  clear h
  go_enter Tryd.func3, Tryd.ntmps3
  go_wp2_with (((with_reducible refine gate_dst (N := 1) rfl ?_); refine box_event ?hg (N := 1) ?hd (cs := #[.string s, .int .i64 e]) (t := 23) ?hr ?_; (case hd => rfl); (case hg => rfl); (case hr => first | (go_simp; done) | (go_simp; rfl)); intro g1 hgq w1 hbx hb; have B1 := Aside0.mk hbx; have gq_g1 := Aside0.mk hgq; clear hbx hgq); have HB1 := Aside0.mk (below_step HB.out hb); have c0 := (blk_cell B1.out 0).trans rfl; have zc0 := blk_frozen B1.out 0; have c1 := (blk_cell B1.out 1).trans rfl; have zc1 := blk_frozen B1.out 1; clear hb HB)
  refine (HF.out _).mono ?_
  rintro e' w2 ⟨rfl, hb⟩
  have HB2 := Aside0.mk (below_step HB1.out hb)
  go_wp2_with fail
  go_ret
  exact ⟨rfl, HB2.out⟩
theorem lawBin_no (k : Nat) (s : ByteArray) (e : Int) (r1 : Bool) (r2 : List Int) (r3 : Int) (r4 : Bool) (w : World) (h : laws_zzFits1.f s e = some true) (ho : spec_OfDec.f k s e = some (r1, r2, r3, r4))
    (hd : r4 = true → ∃ k2 D, spec_Nat_Digits.f k2 r2 = some D ∧ 300 < D) :
    Calls Tryd.prog 3 #[datD s e] w fun e' w' => e' = .returned (.bool true) ∧ Below w.heap.size w w' := by
  have HF := Aside0.mk (fun w0 => laws_zzFits1.calls s e true w0 h)
  have HO := Aside0.mk (fun w0 => spec_OfDec.calls k s e r1 r2 r3 r4 w0 ho)
  have HB := Aside0.mk (Below.refl w.heap.size w)
  have HD := Aside0.mk hd
  clear h ho hd
  go_enter Tryd.func3, Tryd.ntmps3
  go_wp2_with (((with_reducible refine gate_dst (N := 1) rfl ?_); refine box_event ?hg (N := 1) ?hd (cs := #[.string s, .int .i64 e]) (t := 23) ?hr ?_; (case hd => rfl); (case hg => rfl); (case hr => first | (go_simp; done) | (go_simp; rfl)); intro g1 hgq w1 hbx hb; have B1 := Aside0.mk hbx; have gq_g1 := Aside0.mk hgq; clear hbx hgq); have HB1 := Aside0.mk (below_step HB.out hb); have c0 := (blk_cell B1.out 0).trans rfl; have zc0 := blk_frozen B1.out 0; have c1 := (blk_cell B1.out 1).trans rfl; have zc1 := blk_frozen B1.out 1; clear hb HB)
  refine (HF.out _).mono ?_
  rintro e' w2 ⟨rfl, hb⟩
  have HB2 := Aside0.mk (below_step HB1.out hb)
  have B2 := Aside0.mk (blk_below B1.out hb)
  clear hb HB1 B1 c0 c1 zc0 zc1
  have c0 := (blk_cell B2.out 0).trans rfl; have zc0 := blk_frozen B2.out 0; have c1 := (blk_cell B2.out 1).trans rfl; have zc1 := blk_frozen B2.out 1
  go_wp2_with fail
  refine (HO.out _).mono ?_
  rintro e' w3 ⟨v, rfl, hV, hb⟩
  obtain ⟨A, c, ev⟩ := Kd.V_slice hV
  subst ev
  have HB3 := Aside0.mk (below_step HB2.out hb)
  have HC := Aside0.mk (Kd.V_reads' hV)
  clear hb hV HB2 B2 c0 c1 zc0 zc1
  cases r4 with
  | false =>
    go_wp2_with (((with_reducible refine gate_dst (N := 3) rfl ?_); refine box_event ?hg (N := 3) ?hd (cs := #[.bool false, .slice none 0 0, .int .i64 0]) (t := 30) ?hr ?_; (case hd => rfl); (case hg => rfl); (case hr => first | (go_simp; done) | (go_simp; rfl)); intro g2 hgq w4 hbx hb; have B4 := Aside0.mk hbx; have gq_g2 := Aside0.mk hgq; clear hbx hgq); have q0 := (blk_cell B4.out 0).trans rfl; have zq0 := blk_frozen B4.out 0; have q1 := (blk_cell B4.out 1).trans rfl; have zq1 := blk_frozen B4.out 1; have q2 := (blk_cell B4.out 2).trans rfl; have zq2 := blk_frozen B4.out 2; have HB4 := Aside0.mk (below_step HB3.out hb); have G2 := Aside0.mk (show w.heap.size ≤ g2 by rw [gq_g2.out]; exact HB3.out.size); clear hb HB3)
    go_ret
    exact ⟨rfl, by repeat (first | (with_reducible first | exact HB4.out | apply below_alloc | apply pw_below_drewN | apply below_drew1 | refine below_set ?_ G2.out | refine below_set ?_ (Nat.le_refl _)) | exact HB4.out)⟩
  | true =>
    obtain ⟨k2, D, hD, hD3⟩ := HD.out rfl
    have HDi := Aside0.mk (fun w0 (hb : Below w3.heap.size w3 w0) => spec_Nat_Digits.calls k2 A c r2 D w0 (Kd.C_below HC.out.2.2 hb) HC.out.2.1 hD)
    have hd3 : decide (300 < D) = true := decide_eq_true hD3
    clear hD hD3 HD
    go_wp2_with (((with_reducible refine gate_dst (N := 3) rfl ?_); refine box_event ?hg (N := 3) ?hd (cs := #[.bool false, .slice none 0 0, .int .i64 0]) (t := 30) ?hr ?_; (case hd => rfl); (case hg => rfl); (case hr => first | (go_simp; done) | (go_simp; rfl)); intro g2 hgq w4 hbx hb; have B4 := Aside0.mk hbx; have gq_g2 := Aside0.mk hgq; clear hbx hgq); have q0 := (blk_cell B4.out 0).trans rfl; have zq0 := blk_frozen B4.out 0; have q1 := (blk_cell B4.out 1).trans rfl; have zq1 := blk_frozen B4.out 1; have q2 := (blk_cell B4.out 2).trans rfl; have zq2 := blk_frozen B4.out 2; have HB4 := Aside0.mk (below_step HB3.out hb); have G2 := Aside0.mk (show w.heap.size ≤ g2 by rw [gq_g2.out]; exact HB3.out.size); have H4 := Aside0.mk hb; have E4 := Aside0.mk (show w3.heap.size ≤ g2 by rw [gq_g2.out]; exact Nat.le_refl _); clear hb HB3)
    have hB7 := below_set (j := 2) (v := .int .i64 r3) (below_set (j := 1) (v := .slice A r2.length c) (below_set (j := 0) (v := .bool r1) HB4.out G2.out) G2.out) G2.out
    refine (HDi.out _ (below_set (below_set (below_set H4.out E4.out) E4.out) E4.out)).mono ?_
    rintro e' w5 ⟨rfl, hb⟩
    have HB5 := Aside0.mk (below_step hB7 hb)
    clear hb hB7 HB4 B4 q0 q1 q2 zq0 zq1 zq2 HDi
    go_wp2_with fail
    go_ret
    exact ⟨rfl, HB5.out⟩
set_option maxHeartbeats 1000000 in
theorem lawBin_yes (k k2 k3 : Nat) (s : ByteArray) (e : Int) (r1 : Bool) (r2 : List Int) (r3 : Int) (D : Int) (M : List Int) (r : ByteArray) (e2 : Int) (w : World) (h : laws_zzFits1.f s e = some true) (ho : spec_OfDec.f k s e = some (r1, r2, r3, true))
    (hd : spec_Nat_Digits.f k2 r2 = some D) (hd3 : D ≤ 300)
    (hT : ∀ w0, Calls Tryd.prog 7 #[datD s e] w0 fun e' w' => ∃ gR, e' = .returned (.tuple #[.slice (some ⟨gR, 0, none⟩) M.length M.length, .int .i64 0]) ∧ w'.heap[gR]? = some (.cells (u8s M).toArray 5 (0, 0)) ∧ Below w0.heap.size w0 w')
    (hF : ∀ w0 gR, w0.heap[gR]? = some (.cells (u8s M).toArray 5 (0, 0)) → (∃ o, w0.heap[1]? = some o ∧ w0.cell? ⟨1, 0, none⟩ = some (.int .i64 10000)) → Calls Tryd.prog 8 #[.slice (some ⟨gR, 0, none⟩) M.length M.length] w0 fun e' w' => e' = .returned (.tuple #[datD r e2, .int .i64 0]) ∧ Below w0.heap.size w0 w')
    (hW : spec_Worth.f k3 r e2 r1 r2 r3 = some true) (hv : ∃ o, w.heap[1]? = some o ∧ w.cell? ⟨1, 0, none⟩ = some (.int .i64 10000)) :
    Calls Tryd.prog 3 #[datD s e] w fun e' w' => e' = .returned (.bool true) ∧ Below w.heap.size w w' := by
  have HF := Aside0.mk (fun w0 => laws_zzFits1.calls s e true w0 h)
  have HO := Aside0.mk (fun w0 => spec_OfDec.calls k s e r1 r2 r3 true w0 ho)
  have HB := Aside0.mk (Below.refl w.heap.size w)
  have HT := Aside0.mk hT
  have HFr := Aside0.mk hF
  have HVw := Aside0.mk (fun w1 (hb : Below w.heap.size w w1) => show ∃ o, w1.heap[1]? = some o ∧ w1.cell? ⟨1, 0, none⟩ = some (.int .i64 10000) from hv.elim fun o ho => ⟨o, blk_below ho.1 hb, (hb.cell (p := ⟨1, 0, none⟩) (blk_lt ho.1)).trans ho.2⟩)
  have HDf := Aside0.mk hd
  have HWf := Aside0.mk hW
  have hd4 : decide (300 < D) = false := decide_eq_false (by omega)
  clear h ho hd hT hF hv hW hd3
  go_enter Tryd.func3, Tryd.ntmps3
  go_wp2_with (((with_reducible refine gate_dst (N := 1) rfl ?_); refine box_event ?hg (N := 1) ?hd (cs := #[.string s, .int .i64 e]) (t := 23) ?hr ?_; (case hd => rfl); (case hg => rfl); (case hr => first | (go_simp; done) | (go_simp; rfl)); intro g1 hgq w1 hbx hb; have B1 := Aside0.mk hbx; have gq_g1 := Aside0.mk hgq; clear hbx hgq); have HB1 := Aside0.mk (below_step HB.out hb); have c0 := (blk_cell B1.out 0).trans rfl; have zc0 := blk_frozen B1.out 0; have c1 := (blk_cell B1.out 1).trans rfl; have zc1 := blk_frozen B1.out 1; clear hb HB)
  refine (HF.out _).mono ?_
  rintro e' w2 ⟨rfl, hb⟩
  have HB2 := Aside0.mk (below_step HB1.out hb)
  have B2 := Aside0.mk (blk_below B1.out hb)
  clear hb HB1 B1 c0 c1 zc0 zc1
  have c0 := (blk_cell B2.out 0).trans rfl; have zc0 := blk_frozen B2.out 0; have c1 := (blk_cell B2.out 1).trans rfl; have zc1 := blk_frozen B2.out 1
  go_wp2_with fail
  refine (HO.out _).mono ?_
  rintro e' w3 ⟨v, rfl, hV, hb⟩
  obtain ⟨A, c, ev⟩ := Kd.V_slice hV
  subst ev
  have HB3 := Aside0.mk (below_step HB2.out hb)
  have B3 := Aside0.mk (blk_below B2.out hb)
  have HC := Aside0.mk (Kd.V_reads' hV).2.2
  have HCc := Aside0.mk (Kd.V_reads' hV).2.1
  have HDi := Aside0.mk (fun w0 (hb : Below w3.heap.size w3 w0) => spec_Nat_Digits.calls k2 A c r2 D w0 (Kd.C_below HC.out hb) HCc.out HDf.out)
  have HWo := Aside0.mk (fun w0 (hb : Below w3.heap.size w3 w0) => spec_Worth.calls k3 r e2 r1 A c r2 r3 true w0 (Kd.C_below HC.out hb) HCc.out HWf.out)
  clear hb hV HB2 B2 c0 c1 zc0 zc1 HO HF HDf HWf
  go_wp2_with (((with_reducible refine gate_dst (N := 3) rfl ?_); refine box_event ?hg (N := 3) ?hd (cs := #[.bool false, .slice none 0 0, .int .i64 0]) (t := 30) ?hr ?_; (case hd => rfl); (case hg => rfl); (case hr => first | (go_simp; done) | (go_simp; rfl)); intro g2 hgq w4 hbx hb; have B4 := Aside0.mk hbx; have gq_g2 := Aside0.mk hgq; clear hbx hgq); have q0 := (blk_cell B4.out 0).trans rfl; have zq0 := blk_frozen B4.out 0; have q1 := (blk_cell B4.out 1).trans rfl; have zq1 := blk_frozen B4.out 1; have q2 := (blk_cell B4.out 2).trans rfl; have zq2 := blk_frozen B4.out 2; have HB4 := Aside0.mk (below_step HB3.out hb); have C4 := Aside0.mk (blk_below B3.out hb); have G2 := Aside0.mk (show w.heap.size ≤ g2 by rw [gq_g2.out]; exact HB3.out.size); have H4 := Aside0.mk hb; have E4 := Aside0.mk (show w3.heap.size ≤ g2 by rw [gq_g2.out]; exact Nat.le_refl _); have m1 : g1 ≠ g2 := (by have e1 := blk_lt B3.out; have e2 := E4.out; omega); clear hb HB3 B3)
  have hB7 := below_set (j := 2) (v := .int .i64 r3) (below_set (j := 1) (v := .slice A r2.length c) (below_set (j := 0) (v := .bool r1) HB4.out G2.out) G2.out) G2.out
  have hH7 := below_set (j := 2) (v := .int .i64 r3) (below_set (j := 1) (v := .slice A r2.length c) (below_set (j := 0) (v := .bool r1) H4.out E4.out) E4.out) E4.out
  have hX7 := blk_put (cs' := #[.bool r1, .slice A r2.length c, .int .i64 r3]) (blk_put (cs' := #[.bool r1, .slice A r2.length c, .int .i64 0]) (blk_put (cs' := #[.bool r1, .slice none 0 0, .int .i64 0]) B4.out 0 (.bool r1) rfl) 1 (.slice A r2.length c) rfl) 2 (.int .i64 r3) rfl
  have hC7 := blk_far (p := ⟨g2, 2, none⟩) (blk_far (p := ⟨g2, 1, none⟩) (blk_far (p := ⟨g2, 0, none⟩) C4.out m1 (.bool r1)) m1 (.slice A r2.length c)) m1 (.int .i64 r3)
  refine (HDi.out _ hH7).mono ?_
  rintro e' w5 ⟨rfl, hb⟩
  have HB5 := Aside0.mk (below_step hB7 hb)
  have H5 := Aside0.mk (below_step hH7 hb)
  have X5 := Aside0.mk (blk_below hX7 hb)
  have C5 := Aside0.mk (blk_below hC7 hb)
  clear hb hB7 hH7 hX7 hC7 HB4 B4 H4 C4 q0 q1 q2 zq0 zq1 zq2 HDi
  have c0 := (blk_cell C5.out 0).trans rfl; have zc0 := blk_frozen C5.out 0; have c1 := (blk_cell C5.out 1).trans rfl; have zc1 := blk_frozen C5.out 1
  go_wp2_with fail
  refine (HT.out _).mono ?_
  rintro e' w6 ⟨gR, rfl, hR, hb⟩
  have HB6 := Aside0.mk (below_step HB5.out hb)
  have H6 := Aside0.mk (below_step H5.out hb)
  have X6 := Aside0.mk (blk_below X5.out hb)
  have R6 := Aside0.mk hR
  clear hb hR HB5 H5 X5 C5 c0 c1 zc0 zc1 HT
  go_wp2_with fail
  refine (HFr.out _ gR R6.out (HVw.out _ HB6.out)).mono ?_
  rintro e' w7 ⟨rfl, hb⟩
  have HB7 := Aside0.mk (below_step HB6.out hb)
  have H7 := Aside0.mk (below_step H6.out hb)
  have X7 := Aside0.mk (blk_below X6.out hb)
  clear hb HB6 H6 X6 R6 HFr HVw
  go_wp2_with (((with_reducible refine gate_dst (N := 7) rfl ?_); refine box_event ?hg (N := 7) ?hd (cs := #[.string ⟨#[]⟩, .int .i64 0]) (t := 23) ?hr ?_; (case hd => rfl); (case hg => rfl); (case hr => first | (go_simp; done) | (go_simp; rfl)); intro g3 hgq w8 hbx hb; have B8 := Aside0.mk hbx; have gq_g3 := Aside0.mk hgq; clear hbx hgq); have X8 := Aside0.mk (blk_below X7.out hb); have m2 : g2 ≠ g3 := (by have e1 := blk_lt X7.out; have e2 := gq_g3.out; omega); have m3 := m2.symm; have d0 := (blk_cell B8.out 0).trans rfl; have zd0 := blk_frozen B8.out 0; have d1 := (blk_cell B8.out 1).trans rfl; have zd1 := blk_frozen B8.out 1; have q0 := (blk_cell X8.out 0).trans rfl; have zq0 := blk_frozen X8.out 0; have q1 := (blk_cell X8.out 1).trans rfl; have zq1 := blk_frozen X8.out 1; have q2 := (blk_cell X8.out 2).trans rfl; have zq2 := blk_frozen X8.out 2; have HB8 := Aside0.mk (below_step HB7.out hb); have H8 := Aside0.mk (below_step H7.out hb); have G3 := Aside0.mk (show w.heap.size ≤ g3 by rw [gq_g3.out]; exact HB7.out.size); have E8 := Aside0.mk (show w3.heap.size ≤ g3 by rw [gq_g3.out]; exact H7.out.size); clear hb HB7 H7 X7)
  refine (HWo.out _ (below_set (below_set H8.out E8.out) E8.out)).mono ?_
  rintro e' w9 ⟨rfl, hb⟩
  have HB9 := Aside0.mk (below_step (below_set (below_set HB8.out G3.out) G3.out) hb)
  go_wp2_with fail
  go_ret
  exact ⟨rfl, HB9.out⟩
end Go.Proofs.YtghabdpbacgicaaDoor.G
