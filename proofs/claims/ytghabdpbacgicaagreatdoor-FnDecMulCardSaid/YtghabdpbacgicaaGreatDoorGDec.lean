/-
  CONTRACTS: a decimal as data (dec), and DecFromBinary.
-/
import Derived.Test.YtghabdpbacgicaaGreatDoorGMade
import Derived.Test.YtghabdpbacgicaaGreatDoorGDi
import Derived.Defers
import Derived.Recover
namespace Go.Proofs.YtghabdpbacgicaaGreatDoor.G
open Go.RowKit Go.Proofs.YtghabdpbacgicaaGreatDoorW.PrintWords Go.Proofs.YtghabdpbacgicaaGreatDoorW.PrintLast Go.Proofs.YtghabdpbacgicaaGreatDoorW.PrintMore Go.Proofs.YtghabdpbacgicaaGreatDoor.S
set_option linter.unusedVariables false
set_option linter.unusedSimpArgs false

theorem keep2 {w w1 : World} {a b : Addr} {u v : Value} (hb : Below w.heap.size w w1) (h : w.cell? a = some u ∧ w.cell? b = some v) : w1.cell? a = some u ∧ w1.cell? b = some v :=
  ⟨(hb.cell (World.block_lt_of_cell? w a h.1)).trans h.1, (hb.cell (World.block_lt_of_cell? w b h.2)).trans h.2⟩
set_option maxRecDepth 100000 in
theorem dec_is (k bs g : Nat) (b : Bool) (l0 l : List Int) (r : ByteArray) (e : Int) (w : World) (hI : IntAt w bs g b l) (hsg : decide (sgnI b l < 0) = decide (0 < l0.length)) (h : impl_digits.f k l0 l = some r) (he0 : -400 ≤ e) (he1 : e ≤ 400) :
    Calls Tryz.prog 13 #[decP g e] w fun e' w' => e' = .returned (datD r e) ∧ Below w.heap.size w w' := by
  have HB := Aside0.mk (Below.refl w.heap.size w)
  have HI := Aside0.mk (fun w1 (hb : Below w.heap.size w w1) => impl_digits.calls k bs g b l0 l r w1 (hI.below hb) hsg h)
  have HX := Aside0.mk (show IntKind.i64.wrap e = e by simp [IntKind.wrap, IntKind.bits, IntKind.signed]; omega)
  have HW := Aside0.mk (And.intro he0 he1)
  clear hI hsg h he0 he1
  go_enter Tryz.func13, Tryz.ntmps13
  go_wp2_with (first | (((with_reducible refine gate_dst (N := 1) rfl ?_); refine box_event ?hg (N := 1) ?hd (cs := #[.pointer (some ⟨g, 0, none⟩), .int .i32 e]) (t := 42) ?hr ?_; (case hd => rfl); (case hg => rfl); (case hr => first | (go_simp; done) | (go_simp; rfl)); intro g1 hgq w1 hbx hb; have B1 := Aside0.mk hbx; have gq_g1 := Aside0.mk hgq; clear hbx hgq); have HB1 := Aside0.mk (below_step HB.out hb); have c0 := (blk_cell B1.out 0).trans rfl; have zc0 := blk_frozen B1.out 0; have c1 := (blk_cell B1.out 1).trans rfl; have zc1 := blk_frozen B1.out 1; clear hb HB) | (((with_reducible refine gate_dst (N := 2) rfl ?_); refine box_event ?hg (N := 2) ?hd (cs := #[.string ⟨#[]⟩, .int .i64 0]) (t := 23) ?hr ?_; (case hd => rfl); (case hg => rfl); (case hr => first | (go_simp; done) | (go_simp; rfl)); intro g2 hgq w2 hbx hb; have B2 := Aside0.mk hbx; have gq_g2 := Aside0.mk hgq; clear hbx hgq); have HB2 := Aside0.mk (below_step HB1.out hb); have P2 := Aside0.mk (blk_below B1.out hb); clear c0 c1 zc0 zc1; have c0 := (blk_cell P2.out 0).trans rfl; have zc0 := blk_frozen P2.out 0; have c1 := (blk_cell P2.out 1).trans rfl; have zc1 := blk_frozen P2.out 1; have G2 := Aside0.mk (show w.heap.size ≤ g2 by rw [gq_g2.out]; exact HB1.out.size); have n1 : g2 ≠ g1 := (by have e1 := blk_lt B1.out; have e2 := gq_g2.out; omega); have n2 := n1.symm; clear hb HB1 B1))
  go_region_held3 (fun w' => w'.cell? ⟨g1, 0, none⟩ = some (.pointer (some ⟨g, 0, none⟩)) ∧ w'.cell? ⟨g1, 1, none⟩ = some (.int .i32 e)) (first | exact ⟨c0, c1⟩ | go_keep | (refine keep2 hb6 ?_; assumption) | (refine keep2 hb5 ?_; assumption) | (refine keep2 hb4 ?_; assumption))
    (first | (go_at_call 25; refine (zzValue_is g e _).mono ?_; rintro e4 w4 ⟨rfl, hb4⟩; have HB4 := Aside0.mk (below_step (below_drew HB2.out) hb4); have B4 := Aside0.mk (blk_below (blk_drew B2.out) hb4)) | (go_at_call 24; refine (HI.out _ HB4.out).mono ?_; rintro e5 w5 ⟨rfl, hb5⟩; have HB5 := Aside0.mk (below_step HB4.out hb5); have B5 := Aside0.mk (blk_below B4.out hb5)) | (go_at_call 26; refine (exponent_is g e _).mono ?_; rintro e6 w6 ⟨rfl, hb6⟩; have HB6 := Aside0.mk (below_step HB5.out hb6); have B6 := Aside0.mk (blk_below B5.out hb6); have t0 := (blk_cell B6.out 0).trans rfl; have zt0 := blk_frozen B6.out 0; have t1 := (blk_cell B6.out 1).trans rfl; have zt1 := blk_frozen B6.out 1))
  go_wp2
  have hB := below_set (j := 1) (v := .int .i64 e) (below_set (j := 0) (v := .string r) HB6.out G2.out) G2.out
  rw [HX.out]
  exact bodyPost_ret (v := datD r e) (by simp [results, Tryz.results13, go_sem, t0, t1]) rfl ⟨rfl, hB⟩
end Go.Proofs.YtghabdpbacgicaaGreatDoor.G
