/-
  CONTRACTS: UnmarshalBinary.
-/
import Derived.Test.YtghabdpbacgicaaDoorGFromB
namespace Go.Proofs.YtghabdpbacgicaaDoor.G
open Go.RowKit Go.Proofs.YtghabdpbacgicaaDoorW.PrintWords Go.Proofs.YtghabdpbacgicaaDoorW.PrintLast Go.Proofs.YtghabdpbacgicaaDoorW.PrintMore Go.Proofs.YtghabdpbacgicaaDoor.S
set_option linter.unusedVariables false
set_option linter.unusedSimpArgs false

set_option maxRecDepth 100000 in
theorem unmarshal_is (k : Nat) (ws : World) (g4 gR : Nat) (b : Bool) (a0 a1 a2 a3 sb : Int) (T l : List Int) (e : Int) (w : World) (h4 : w.heap[g4]? = some (.cells #[.pointer none, .int .i32 0] 45 (0, 0))) (hR : w.heap[gR]? = some (.cells (u8s (a0 :: a1 :: a2 :: a3 :: sb :: T)).toArray 5 (0, 0))) (hne : gR ≠ g4)
    (hv : ∃ o, w.heap[1]? = some o ∧ w.cell? ⟨1, 0, none⟩ = some (.int .i64 10000)) (hv4 : 1 ≠ g4)
    (hl : T.length ≤ 9000) (hs : sb = if b then 3 else 2) (hb : Below ws.heap.size ws w) (hbg : ws.heap.size ≤ g4) (h : bigall_nat_setBytes.f k [] T = some l) (he : IntKind.i32.wrap (ub4 a0 a1 a2 a3) = e) (he0 : -400 ≤ e) (he1 : e ≤ 400) :
    Calls Tryd.prog 17 #[.pointer (some ⟨g4, 0, none⟩), .slice (some ⟨gR, 0, none⟩) (T.length + 5) (T.length + 5)] w fun e' w' => e' = .returned .nilIface ∧ ∃ g, w'.heap[g4]? = some (.cells #[.pointer (some ⟨g, 0, none⟩), .int .i32 e] 45 (0, 0)) ∧ IntAt w' w.heap.size g b l ∧ Below ws.heap.size ws w' := by
  obtain ⟨ov, hv0, hv1⟩ := hv
  have HV0 := Aside0.mk hv0
  have HB := Aside0.mk hb
  have HG := Aside0.mk hbg
  have B0 := Aside0.mk h4
  have R0 := Aside0.mk hR
  have HN := Aside0.mk hne
  have HD := Aside0.mk (fun ws g w1 hg hR hne hb hbg => gobDecode_is k ws g gR b a0 a1 a2 a3 sb T l w1 hg hR hne (by omega) hs hb hbg h)
  have HE := Aside0.mk (And.intro he0 he1)
  have HU := Aside0.mk (fun w1 hR => uint32_is gR (T.length + 5) a0 a1 a2 a3 (sb :: T) w1 hR (by omega))
  have hw : wrap64 e = e := by unfold wrap64; omega
  have HWS := Aside0.mk hb.size
  have hg1 : decide (10000 < wrap64 e) = false := by rw [hw]; exact decide_eq_false (by omega)
  have hg2 : decide (wrap64 e < -10000) = false := by rw [hw]; exact decide_eq_false (by omega)
  clear hw
  obtain ⟨n, hn⟩ : ∃ n, T.length = n := ⟨_, rfl⟩
  have HNn := Aside0.mk hn
  rw [hn] at HD HU ⊢
  clear hv0 h4 hR hne hb hbg h hs hl hn he0 he1
  go_enter Tryd.func17, Tryd.ntmps17
  go_wp2_with fail
  go_region_held3 (fun _ => True) (exact trivial) (first | (go_at_call 30; refine (HU.out _ (blk_drew R0.out)).mono ?_; rintro e' w2 ⟨rfl, hb⟩))
  have HB2 := Aside0.mk (below_step (below_drew HB.out) hb)
  have B2 := Aside0.mk (blk_below (blk_drew B0.out) hb)
  have R2 := Aside0.mk (blk_below (blk_drew R0.out) hb)
  have v2 := (hb.cell (p := ⟨1, 0, none⟩) (blk_lt HV0.out)).trans hv1
  have V2 := Aside0.mk v2
  have HW2 := Aside0.mk (show w.heap.size ≤ w2.heap.size from hb.size)
  have c0 := (blk_cell B2.out 0).trans rfl; have zc0 := blk_frozen B2.out 0; have c1 := (blk_cell B2.out 1).trans rfl; have zc1 := blk_frozen B2.out 1
  clear hb hv1 HU HB
  go_wp2_with (((with_reducible refine gate_dst (N := 33) rfl ?_); refine box_event ?hg (N := 33) ?hd (cs := #[.bool false, .slice none 0 0]) (t := 73) ?hr ?_; (case hd => rfl); (case hg => rfl); (case hr => first | (go_simp; done) | (go_simp; rfl)); intro g5 hgq w5 hbx hb; have B5 := Aside0.mk hbx; have gq_g5 := Aside0.mk hgq; clear hbx hgq); have B4 := Aside0.mk (blk_below (blk_put (cs' := #[.pointer none, .int .i32 e]) B2.out 1 (.int .i32 e) rfl) hb); have R4 := Aside0.mk (blk_below (blk_far (p := ⟨g4, 1, none⟩) R2.out HN.out (.int .i32 e)) hb); have HB5 := Aside0.mk (below_step (below_set (j := 1) (v := .int .i32 e) HB2.out HG.out) hb); clear c0 c1 zc0 zc1; have c0 := (blk_cell B4.out 0).trans rfl; have zc0 := blk_frozen B4.out 0; have c1 := (blk_cell B4.out 1).trans rfl; have zc1 := blk_frozen B4.out 1; have m1 : g5 ≠ g4 := (by have e1 := blk_lt B2.out; have e2 := gq_g5.out; simp at e2; omega); have m2 := m1.symm; have HS5 := Aside0.mk hb.size; clear hb v2)
  have B6 := Aside0.mk (blk_drew (blk_put (cs' := #[.pointer (some ⟨g5, 0, none⟩), .int .i32 e]) B4.out 0 (.pointer (some ⟨g5, 0, none⟩)) rfl))
  have R6 := Aside0.mk (blk_drew (blk_far (p := ⟨g4, 0, none⟩) R4.out HN.out (.pointer (some ⟨g5, 0, none⟩))))
  have X6 := Aside0.mk (blk_drew (blk_far (p := ⟨g4, 0, none⟩) B5.out m1 (.pointer (some ⟨g5, 0, none⟩))))
  have HB6 := Aside0.mk (below_drew (below_set (j := 0) (v := .pointer (some ⟨g5, 0, none⟩)) HB5.out HG.out))
  have d0 := (blk_cell B6.out 0).trans rfl
  have G5 := Aside0.mk (show w.heap.size ≤ g5 by have e1 := HW2.out; have e2 := gq_g5.out; simp at e2; omega)
  have hr5 : gR ≠ g5 := by have e1 := blk_lt R0.out; have e2 := G5.out; omega
  have hw5 : ws.heap.size ≤ g5 := Nat.le_trans HWS.out G5.out
  go_region_held3 (fun w' => w'.cell? ⟨g4, 0, none⟩ = some (.pointer (some ⟨g5, 0, none⟩))) (first | exact d0 | go_keep | exact kp) (first | (go_at_call 31; refine (HD.out ws g5 _ X6.out R6.out hr5 HB6.out hw5).mono ?_; rintro e' w7 ⟨rfl, hI, hb, hk⟩; have B7 := Aside0.mk ((hk g4 (blk_lt B6.out) m2).trans B6.out); have kp := (blk_cell B7.out 0).trans rfl))
  have HI := Aside0.mk hI
  have HB7 := Aside0.mk hb
  clear hI hb hk kp d0
  go_wp2_with fail
  have hsz : w.heap.size ≤ (w5.setCell ⟨g4, 0, none⟩ (.pointer (some ⟨g5, 0, none⟩))).drew.heap.size := by
    have e1 := HW2.out
    have e2 := HS5.out
    show _ ≤ (w5.setCell ⟨g4, 0, none⟩ (.pointer (some ⟨g5, 0, none⟩))).heap.size
    simp at e2 ⊢
    omega
  exact bodyPost_ret (v := .nilIface) (by simp [results, Tryd.results17, go_sem]) rfl ⟨rfl, g5, B7.out, HI.out.lower hsz, HB7.out⟩
end Go.Proofs.YtghabdpbacgicaaDoor.G
