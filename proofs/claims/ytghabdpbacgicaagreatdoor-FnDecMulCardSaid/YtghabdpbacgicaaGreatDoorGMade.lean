/-
  CONTRACTS: a decimal out of its parts.
-/
import Derived.Test.YtghabdpbacgicaaGreatDoorGInt
import Derived.Outline
namespace Go.Proofs.YtghabdpbacgicaaGreatDoor.G
open Go.RowKit Go.Proofs.YtghabdpbacgicaaGreatDoorW.PrintWords Go.Proofs.YtghabdpbacgicaaGreatDoorW.PrintLast Go.Proofs.YtghabdpbacgicaaGreatDoorW.PrintMore Go.Proofs.YtghabdpbacgicaaGreatDoor.S
set_option linter.unusedVariables false
set_option linter.unusedSimpArgs false

/-- A decimal of the package: its number, its exponent. -/
abbrev decP (g : Nat) (e : Int) : Value := .agg #[.pointer (some ⟨g, 0, none⟩), .int .i32 e]
/-- A decimal as data. -/
abbrev datD (s : ByteArray) (e : Int) : Value := .agg #[.string s, .int .i64 e]
theorem zzMake_is (g : Nat) (e : Int) (w : World) : Calls Tryz.prog 23 #[.pointer (some ⟨g, 0, none⟩), .int .i32 e] w fun e' w' => e' = .returned (decP g e) ∧ Below w.heap.size w w' := by
  have HB := Aside0.mk (Below.refl w.heap.size w)
  go_enter Tryz.func23, Tryz.ntmps23
  go_wp2_with (((with_reducible refine gate_dst (N := 4) rfl ?_); refine box_event ?hg (N := 4) ?hd (cs := #[.pointer none, .int .i32 0]) (t := 42) ?hr ?_; (case hd => rfl); (case hg => rfl); (case hr => first | (go_simp; done) | (go_simp; rfl)); intro g1 hgq w1 hbx hb; have B1 := Aside0.mk hbx; have gq_g1 := Aside0.mk hgq; clear hbx hgq); have HB1 := Aside0.mk (below_step HB.out hb); have G1 := Aside0.mk (show w.heap.size ≤ g1 by rw [gq_g1.out]; exact Nat.le_refl _); have c0 := (blk_cell B1.out 0).trans rfl; have zc0 := blk_frozen B1.out 0; have c1 := (blk_cell B1.out 1).trans rfl; have zc1 := blk_frozen B1.out 1; clear hb HB)
  exact bodyPost_ret (v := decP g e) (by simp [results, Tryz.results23, go_sem, c0, c1]) rfl ⟨rfl, by repeat (first | (with_reducible first | exact HB1.out | apply below_alloc | apply pw_below_drewN | apply below_drew1 | refine below_set ?_ G1.out | refine below_set ?_ (Nat.le_refl _)) | exact HB1.out)⟩
theorem places_is (e : Int) (w : World) (h0 : -400 ≤ e) (h1 : e ≤ 400) : Calls Tryz.prog 22 #[.int .i64 e] w fun e' w' => e' = .returned (.bool true) ∧ Below w.heap.size w w' :=
  (impl_places.calls e true w (by unfold impl_places.f; rw [if_pos (by omega)]; simp [h1])).mono (fun e w' h => ⟨h.1, h.2.below⟩)
theorem getValue_is (g : Nat) (e : Int) (w : World) : Calls Tryz.prog 28 #[decP g e] w fun e' w' => e' = .returned (.pointer (some ⟨g, 0, none⟩)) ∧ Below w.heap.size w w' := by
  have HB := Aside0.mk (Below.refl w.heap.size w)
  go_enter Tryz.func28, Tryz.ntmps28
  go_wp2_with (((with_reducible refine gate_dst (N := 1) rfl ?_); refine box_event ?hg (N := 1) ?hd (cs := #[.pointer (some ⟨g, 0, none⟩), .int .i32 e]) (t := 42) ?hr ?_; (case hd => rfl); (case hg => rfl); (case hr => first | (go_simp; done) | (go_simp; rfl)); intro g1 hgq w1 hbx hb; have B1 := Aside0.mk hbx; have gq_g1 := Aside0.mk hgq; clear hbx hgq); have HB1 := Aside0.mk (below_step HB.out hb); have c0 := (blk_cell B1.out 0).trans rfl; have zc0 := blk_frozen B1.out 0; have c1 := (blk_cell B1.out 1).trans rfl; have zc1 := blk_frozen B1.out 1; clear hb HB)
  exact bodyPost_ret (v := .pointer (some ⟨g, 0, none⟩)) (by simp [results, Tryz.results28, go_sem]) rfl ⟨rfl, HB1.out⟩
theorem zzValue_is (g : Nat) (e : Int) (w : World) : Calls Tryz.prog 25 #[decP g e] w fun e' w' => e' = .returned (.pointer (some ⟨g, 0, none⟩)) ∧ Below w.heap.size w w' := by
  have HB := Aside0.mk (Below.refl w.heap.size w)
  go_enter Tryz.func25, Tryz.ntmps25
  go_wp2_with (((with_reducible refine gate_dst (N := 1) rfl ?_); refine box_event ?hg (N := 1) ?hd (cs := #[.pointer (some ⟨g, 0, none⟩), .int .i32 e]) (t := 42) ?hr ?_; (case hd => rfl); (case hg => rfl); (case hr => first | (go_simp; done) | (go_simp; rfl)); intro g1 hgq w1 hbx hb; have B1 := Aside0.mk hbx; have gq_g1 := Aside0.mk hgq; clear hbx hgq); have HB1 := Aside0.mk (below_step HB.out hb); have c0 := (blk_cell B1.out 0).trans rfl; have zc0 := blk_frozen B1.out 0; have c1 := (blk_cell B1.out 1).trans rfl; have zc1 := blk_frozen B1.out 1; clear hb HB)
  refine (getValue_is g e _).mono ?_
  rintro e' w2 ⟨rfl, hb⟩
  have HB2 := Aside0.mk (below_step HB1.out hb)
  clear hb HB1 B1 c0 c1 zc0 zc1
  go_wp2_with fail
  exact bodyPost_ret (v := .pointer (some ⟨g, 0, none⟩)) (by simp [results, Tryz.results25, go_sem]) rfl ⟨rfl, HB2.out⟩
theorem exponent_is (g : Nat) (e : Int) (w : World) : Calls Tryz.prog 26 #[decP g e] w fun e' w' => e' = .returned (.int .i32 e) ∧ Below w.heap.size w w' := by
  have HB := Aside0.mk (Below.refl w.heap.size w)
  go_enter Tryz.func26, Tryz.ntmps26
  go_wp2_with (((with_reducible refine gate_dst (N := 1) rfl ?_); refine box_event ?hg (N := 1) ?hd (cs := #[.pointer (some ⟨g, 0, none⟩), .int .i32 e]) (t := 42) ?hr ?_; (case hd => rfl); (case hg => rfl); (case hr => first | (go_simp; done) | (go_simp; rfl)); intro g1 hgq w1 hbx hb; have B1 := Aside0.mk hbx; have gq_g1 := Aside0.mk hgq; clear hbx hgq); have HB1 := Aside0.mk (below_step HB.out hb); have c0 := (blk_cell B1.out 0).trans rfl; have zc0 := blk_frozen B1.out 0; have c1 := (blk_cell B1.out 1).trans rfl; have zc1 := blk_frozen B1.out 1; clear hb HB)
  exact bodyPost_ret (v := .int .i32 e) (by simp [results, Tryz.results26, go_sem]) rfl ⟨rfl, HB1.out⟩
/-- A decimal of digits, of what 'whole' makes of them. -/
theorem made_ge (s : ByteArray) (e : Int) (b : Bool) (l : List Int) (w : World) (h0 : -400 ≤ e) (h1 : e ≤ 400)
    (hw : ∀ w0, Below w.heap.size w w0 → Calls Tryz.prog 21 #[.string s] w0 fun e' w' => ∃ g, e' = .returned (.tuple #[.pointer (some ⟨g, 0, none⟩), .bool true]) ∧ w0.heap.size ≤ g ∧ IntAt w' w0.heap.size g b l ∧ Below w0.heap.size w0 w') :
    Calls Tryz.prog 12 #[datD s e] w fun e' w' => ∃ g, e' = .returned (.tuple #[decP g e, .bool true]) ∧ w.heap.size ≤ g ∧ IntAt w' w.heap.size g b l ∧ Below w.heap.size w w' := by
  have HW := Aside0.mk hw
  have HB := Aside0.mk (Below.refl w.heap.size w)
  have h32 : IntKind.i32.wrap e = e := by simp [IntKind.wrap, IntKind.bits, IntKind.signed]; omega
  have H0 := Aside0.mk h0
  have H1 := Aside0.mk h1
  clear hw h0 h1
  go_enter Tryz.func12, Tryz.ntmps12
  go_wp2_with (first | (((with_reducible refine gate_dst (N := 1) rfl ?_); refine box_event ?hg (N := 1) ?hd (cs := #[.string s, .int .i64 e]) (t := 23) ?hr ?_; (case hd => rfl); (case hg => rfl); (case hr => first | (go_simp; done) | (go_simp; rfl)); intro g1 hgq w1 hbx hb; have B1 := Aside0.mk hbx; have gq_g1 := Aside0.mk hgq; clear hbx hgq); have HB1 := Aside0.mk (below_step HB.out hb); clear hb HB) | (((with_reducible refine gate_dst (N := 2) rfl ?_); refine box_event ?hg (N := 2) ?hd (cs := #[.pointer none, .int .i32 0]) (t := 42) ?hr ?_; (case hd => rfl); (case hg => rfl); (case hr => first | (go_simp; done) | (go_simp; rfl)); intro g2 hgq w2 hbx hb; have B2 := Aside0.mk hbx; have gq_g2 := Aside0.mk hgq; clear hbx hgq); have HB2 := Aside0.mk (below_step HB1.out hb); have P2 := Aside0.mk (blk_below B1.out hb); have c0 := (blk_cell P2.out 0).trans rfl; have zc0 := blk_frozen P2.out 0; have c1 := (blk_cell P2.out 1).trans rfl; have zc1 := blk_frozen P2.out 1; have G2 := Aside0.mk (show w.heap.size ≤ g2 by rw [gq_g2.out]; exact HB1.out.size); have n1 : g1 ≠ g2 := (by have e1 := blk_lt B1.out; have e2 := gq_g2.out; omega); clear hb HB1 B1))
  refine (HW.out _ HB2.out).mono ?_
  rintro e' w3 ⟨g, rfl, hg, hI, hb⟩
  have HB3 := Aside0.mk (below_step HB2.out hb)
  have P3 := Aside0.mk (blk_below P2.out hb)
  have B3 := Aside0.mk (blk_below B2.out hb)
  have HI := Aside0.mk hI
  have HG := Aside0.mk hg
  have HG2 := Aside0.mk (blk_lt B2.out)
  have HS2 := Aside0.mk HB2.out.size
  clear hb HB2 P2 B2 HW hg hI c0 c1 zc0 zc1
  have c0 := (blk_cell P3.out 0).trans rfl; have zc0 := blk_frozen P3.out 0; have c1 := (blk_cell P3.out 1).trans rfl; have zc1 := blk_frozen P3.out 1
  go_wp2_with fail
  refine (places_is e _ H0.out H1.out).mono ?_
  rintro e' w4 ⟨rfl, hb⟩
  have HB4 := Aside0.mk (below_step HB3.out hb)
  have P4 := Aside0.mk (blk_below P3.out hb)
  have B4 := Aside0.mk (blk_below B3.out hb)
  have HI4 := Aside0.mk (HI.out.below hb)
  clear hb HB3 P3 B3 HI c0 c1 zc0 zc1
  have c0 := (blk_cell P4.out 0).trans rfl; have zc0 := blk_frozen P4.out 0; have c1 := (blk_cell P4.out 1).trans rfl; have zc1 := blk_frozen P4.out 1
  go_wp2_with fail
  refine (zzMake_is g e _).mono ?_
  rintro e' w5 ⟨rfl, hb⟩
  have HB5 := Aside0.mk (below_step HB4.out hb)
  have B5 := Aside0.mk (blk_below B4.out hb)
  have HI5 := Aside0.mk (HI4.out.below hb)
  clear hb HB4 P4 B4 HI4 c0 c1 zc0 zc1
  have c0 := (blk_cell B5.out 0).trans rfl; have zc0 := blk_frozen B5.out 0; have c1 := (blk_cell B5.out 1).trans rfl; have zc1 := blk_frozen B5.out 1
  go_wp2_with fail
  have hI6 := (HI5.out.far (p := ⟨g2, 0, none⟩) (by have := HG.out; have := HG2.out; show g ≠ g2; omega) HG2.out (.pointer (some ⟨g, 0, none⟩))).far (p := ⟨g2, 1, none⟩) (by have := HG.out; have := HG2.out; show g ≠ g2; omega) HG2.out (.int .i32 e)
  have hB := below_set (j := 1) (v := .int .i32 e) (below_set (j := 0) (v := .pointer (some ⟨g, 0, none⟩)) HB5.out G2.out) G2.out
  exact bodyPost_ret (v := .tuple #[decP g e, .bool true]) (by simp [results, Tryz.results12, go_sem, c0, c1]) rfl ⟨g, rfl, Nat.le_trans HS2.out HG.out, hI6.lower HS2.out, hB⟩
theorem made_is (s : ByteArray) (e : Int) (b : Bool) (l : List Int) (w : World) (h0 : -400 ≤ e) (h1 : e ≤ 400)
    (hw : ∀ w0, Below w.heap.size w w0 → Calls Tryz.prog 21 #[.string s] w0 fun e' w' => ∃ g, e' = .returned (.tuple #[.pointer (some ⟨g, 0, none⟩), .bool true]) ∧ w0.heap.size ≤ g ∧ IntAt w' w0.heap.size g b l ∧ Below w0.heap.size w0 w') :
    Calls Tryz.prog 12 #[datD s e] w fun e' w' => ∃ g, e' = .returned (.tuple #[decP g e, .bool true]) ∧ IntAt w' w.heap.size g b l ∧ Below w.heap.size w w' :=
  (made_ge s e b l w h0 h1 hw).mono fun _ _ ⟨g, h1, _, h2⟩ => ⟨g, h1, h2⟩
end Go.Proofs.YtghabdpbacgicaaGreatDoor.G
