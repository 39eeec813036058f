/-
  CONTRACTS: Int.Mul; the product of two decimals (Decimal.Mul).
-/
import Derived.Test.YtghabdpbacgicaaGreatDoorGIm
import Derived.Test.YtghabdpbacgicaaGreatDoorGMade
namespace Go.Proofs.YtghabdpbacgicaaGreatDoor.G
open Go.RowKit Go.Proofs.YtghabdpbacgicaaGreatDoorW.PrintWords Go.Proofs.YtghabdpbacgicaaGreatDoorW.PrintLast Go.Proofs.YtghabdpbacgicaaGreatDoorW.PrintMore Go.Proofs.YtghabdpbacgicaaGreatDoor.S
set_option linter.unusedVariables false
set_option linter.unusedSimpArgs false

/-- The product's sign: 0 has none. -/
def sgM (b1 b2 : Bool) (n : Nat) : Bool := decide (0 < (L64.lim n).length) && (b1 != b2)
set_option maxRecDepth 100000 in
theorem intMulz_is (ws : World) (bx by' gz gx gy : Nat) (b1 b2 : Bool) (a b : Nat) (w : World) (hz : w.heap[gz]? = some (.cells #[.bool false, .slice none 0 0] 65 (0, 0))) (hs : Below ws.heap.size ws w) (hg : ws.heap.size ≤ gz)
    (hX : IntAt ws bx gx b1 (L64.lim a)) (hY : IntAt ws by' gy b2 (L64.lim b)) (hne : gx ≠ gy) (ha : (L64.lim a).length < 40) (hb : (L64.lim b).length < 40) (hv : Thr w) :
    Calls Tryz.prog 27 #[.pointer (some ⟨gz, 0, none⟩), .pointer (some ⟨gx, 0, none⟩), .pointer (some ⟨gy, 0, none⟩)] w fun e w' => e = .returned (.pointer (some ⟨gz, 0, none⟩)) ∧ IntAt w' ws.heap.size gz (sgM b1 b2 (a * b)) (L64.lim (a * b)) ∧ Below ws.heap.size ws w' := by
  have HQ := Aside0.mk (intMul_is ws bx by' gz gx gy b1 b2 a b w hz hs hg hX hY hne ha hb hv)
  unfold sgM
  clear hz hs hg hX hY hne ha hb hv
  generalize (decide (0 < (L64.lim (a * b)).length) && (b1 != b2)) = t at *
  generalize L64.lim (a * b) = l at *
  go_enter Tryz.func27, Tryz.ntmps27
  go_wp2_with fail
  refine HQ.out.mono ?_
  rintro e w' ⟨rfl, hI, hb⟩
  have HI := Aside0.mk hI
  have HB := Aside0.mk hb
  clear hI hb
  go_wp2_with fail
  go_ret
  exact ⟨rfl, HI.out, HB.out⟩
set_option maxRecDepth 100000 in
set_option maxHeartbeats 1000000 in
theorem decMul_is (bx by' gx gy : Nat) (b1 b2 : Bool) (a b : Nat) (e1 e2 : Int) (w : World) (hX : IntAt w bx gx b1 (L64.lim a)) (hY : IntAt w by' gy b2 (L64.lim b)) (hne : gx ≠ gy) (ha : (L64.lim a).length < 40) (hb : (L64.lim b).length < 40) (hv : Thr w)
    (h10 : -400 ≤ e1) (h11 : e1 ≤ 400) (h20 : -400 ≤ e2) (h21 : e2 ≤ 400) :
    Calls Tryz.prog 14 #[decP gx e1, decP gy e2] w fun e' w' => ∃ gz, e' = .returned (decP gz (e1 + e2)) ∧ IntAt w' w.heap.size gz (sgM b1 b2 (a * b)) (L64.lim (a * b)) ∧ Below w.heap.size w w' := by
  have HB := Aside0.mk (Below.refl w.heap.size w)
  have HQ := Aside0.mk (fun w4 gz w5 (hw : Below w.heap.size w w4) hz hs hg => intMulz_is w4 bx by' gz gx gy b1 b2 a b w5 hz hs hg (hX.below hw) (hY.below hw) hne ha hb ((hv.below hw).below hs))
  obtain ⟨E, hE⟩ : ∃ E : Int, e1 + e2 = E := ⟨_, rfl⟩
  have hx1 : IntKind.i64.wrap e1 = e1 := by simp [IntKind.wrap, IntKind.bits, IntKind.signed]; omega
  have hx2 : IntKind.i64.wrap e2 = e2 := by simp [IntKind.wrap, IntKind.bits, IntKind.signed]; omega
  have hx1' : wrap64 e1 = e1 := by unfold wrap64; omega
  have hx2' : wrap64 e2 = e2 := by unfold wrap64; omega
  have hx3 : wrap64 (e1 + e2) = E := by unfold wrap64; omega
  have hx4 : decide (2147483647 < E) = false := decide_eq_false (by omega)
  have hx5 : decide (E < -2147483648) = false := decide_eq_false (by omega)
  have H32 := Aside0.mk (show IntKind.i32.wrap E = E by simp [IntKind.wrap, IntKind.bits, IntKind.signed]; omega)
  rw [hE]
  clear hX hY hne ha hb hv h10 h11 h20 h21 hE
  generalize sgM b1 b2 (a * b) = t at *
  generalize L64.lim (a * b) = l at *
  go_enter Tryz.func14, Tryz.ntmps14
  go_wp2_with (first | (((with_reducible refine gate_dst (N := 2) rfl ?_); refine box_event ?hg (N := 2) ?hd (cs := #[.pointer (some ⟨gx, 0, none⟩), .int .i32 e1]) (t := 42) ?hr ?_; (case hd => rfl); (case hg => rfl); (case hr => first | (go_simp; done) | (go_simp; rfl)); intro g1 hgq w1 hbx hb; have B1 := Aside0.mk hbx; have gq_g1 := Aside0.mk hgq; clear hbx hgq); have HB1 := Aside0.mk (below_step HB.out hb); have c0 := (blk_cell B1.out 0).trans rfl; have zc0 := blk_frozen B1.out 0; have c1 := (blk_cell B1.out 1).trans rfl; have zc1 := blk_frozen B1.out 1; clear hb HB) | (((with_reducible refine gate_dst (N := 3) rfl ?_); refine box_event ?hg (N := 3) ?hd (cs := #[.pointer (some ⟨gy, 0, none⟩), .int .i32 e2]) (t := 42) ?hr ?_; (case hd => rfl); (case hg => rfl); (case hr => first | (go_simp; done) | (go_simp; rfl)); intro g2 hgq w2 hbx hb; have B2 := Aside0.mk hbx; have gq_g2 := Aside0.mk hgq; clear hbx hgq); have HB2 := Aside0.mk (below_step HB1.out hb); have P2 := Aside0.mk (blk_below B1.out hb); clear c0 c1 zc0 zc1; have c0 := (blk_cell P2.out 0).trans rfl; have zc0 := blk_frozen P2.out 0; have c1 := (blk_cell P2.out 1).trans rfl; have zc1 := blk_frozen P2.out 1; have q0 := (blk_cell B2.out 0).trans rfl; have zq0 := blk_frozen B2.out 0; have q1 := (blk_cell B2.out 1).trans rfl; have zq1 := blk_frozen B2.out 1; clear hb HB1 B1) | (((with_reducible refine gate_dst (N := 4) rfl ?_); refine box_event ?hg (N := 4) ?hd (cs := #[.pointer none, .int .i32 0]) (t := 42) ?hr ?_; (case hd => rfl); (case hg => rfl); (case hr => first | (go_simp; done) | (go_simp; rfl)); intro g3 hgq w4 hbx hb; have B3 := Aside0.mk hbx; have gq_g3 := Aside0.mk hgq; clear hbx hgq); have HB4 := Aside0.mk (below_step HB2.out hb); have B1 := Aside0.mk (blk_below P2.out hb); have Q2 := Aside0.mk (blk_below B2.out hb); clear B2; have B2 := Aside0.mk Q2.out; clear c0 c1 zc0 zc1 q0 q1 zq0 zq1; have c0 := (blk_cell B1.out 0).trans rfl; have zc0 := blk_frozen B1.out 0; have c1 := (blk_cell B1.out 1).trans rfl; have zc1 := blk_frozen B1.out 1; have q0 := (blk_cell B2.out 0).trans rfl; have zq0 := blk_frozen B2.out 0; have q1 := (blk_cell B2.out 1).trans rfl; have zq1 := blk_frozen B2.out 1; have G3 := Aside0.mk (show w.heap.size ≤ g3 by rw [gq_g3.out]; exact HB2.out.size); clear hb HB2 P2 Q2))
  clear c0 c1 zc0 zc1 q0 q1 zq0 zq1
  have SK := Aside0.mk (fun (w' : World) (hb : Below w4.heap.size w4 w') => (show (fun w' => w'.cell? ⟨g1, 0, none⟩ = some (.pointer (some ⟨gx, 0, none⟩)) ∧ w'.cell? ⟨g1, 1, none⟩ = some (.int .i32 e1) ∧ w'.cell? ⟨g2, 0, none⟩ = some (.pointer (some ⟨gy, 0, none⟩)) ∧ w'.cell? ⟨g2, 1, none⟩ = some (.int .i32 e2)) w' from ⟨(blk_cell (blk_below B1.out hb) 0).trans rfl, (blk_cell (blk_below B1.out hb) 1).trans rfl, (blk_cell (blk_below B2.out hb) 0).trans rfl, (blk_cell (blk_below B2.out hb) 1).trans rfl⟩))
  refine start_ (n := 7) (S := fun w' => w'.cell? ⟨g1, 0, none⟩ = some (.pointer (some ⟨gx, 0, none⟩)) ∧ w'.cell? ⟨g1, 1, none⟩ = some (.int .i32 e1) ∧ w'.cell? ⟨g2, 0, none⟩ = some (.pointer (some ⟨gy, 0, none⟩)) ∧ w'.cell? ⟨g2, 1, none⟩ = some (.int .i32 e2)) (ds := []) #[false, false, false, false, false, false, false] (by kernel_rfl) rfl rfl (SK.out _ (below_drew (Below.refl _ _))) (fun hHeld => ?_)
  refine take_ (i := 1) (N := some 22) (v := ?_) (a' := ?_) #[false, true, false, false, false, false, false] rfl rfl (by kernel_rfl) (fun _ _ _ h => h) (Or.inl ⟨by rfl, ?_⟩) hHeld ?_ ?_
  rotate_left
  · (rintro w' ⟨s0, s1, s2, s3⟩; go_simp; (try with_reducible rfl))
  rotate_left
  · simp only [Act.put, List.setIfInBounds_toArray, List.set_cons_zero, List.set_cons_succ, i64_w, i32_w]; rfl
  refine take_ (i := 3) (N := some 24) (v := ?_) (a' := ?_) #[false, true, false, true, false, false, false] rfl rfl (by kernel_rfl) (fun _ _ _ h => h) (Or.inl ⟨by rfl, ?_⟩) hHeld ?_ ?_
  rotate_left
  · (rintro w' ⟨s0, s1, s2, s3⟩; go_simp; (try with_reducible rfl))
  rotate_left
  · simp only [Act.put, List.setIfInBounds_toArray, List.set_cons_zero, List.set_cons_succ, i64_w, i32_w]; rfl
  refine join_ (σ := Nat) 2 #[true, true, true, true, true, false, false] (fun g => [(21, .pointer (some ⟨g, 0, none⟩)), (23, .pointer (some ⟨gx, 0, none⟩)), (25, .pointer (some ⟨gy, 0, none⟩))]) (fun g w' => w'.heap[g]? = some (.cells #[.bool false, .slice none 0 0] 65 (0, 0)) ∧ w4.heap.size ≤ g ∧ Below w4.heap.size w4 w') ?cont ?ways
  case ways =>
    intro hj
    have hh0 : Below w4.heap.size w4 w4.drew := below_drew (Below.refl _ _)
    refine two_ (i := 0) (j := 2) (Ni := some 21) (Nj := some 23) #[true, true, false, true, false, false, false] #[false, true, true, true, false, false, false] rfl rfl rfl rfl (by kernel_rfl) (by decide) (by decide) (fun K hK => ?_) (fun K hK => ?_)
    · refine box_step ?hg (N := 21) ?hd (cs := #[.bool false, .slice none 0 0]) (t := 65) ?hr ?_; (case hd => rfl); (case hg => rfl); (case hr => first | (go_simp; done) | (go_simp; rfl))
      intro gz hgq wa1 hbx hb
      have hh1 := below_step hh0 hb
      have hz1 := hbx
      have hgz1 : w4.heap.size ≤ gz := by rw [hgq]; exact (hh0).size
      clear hbx hgq hb
      refine hK.out _ _ (SK.out _ hh1) (fun hHeld => ?_)
      clear hK K
      refine norm_ (a' := ?_) ?_ ?_
      rotate_left
      · show Act.put _ (some 21) _ = _
        simp only [Act.put, List.setIfInBounds_toArray, List.set_cons_zero, List.set_cons_succ, i64_w, i32_w]; rfl
      refine one_ (i := 2) (N := some 23) #[true, true, true, true, false, false, false] rfl rfl (by kernel_rfl) (by decide) (fun K hK => ?_)
      refine goes_ Tryz.func28 (by kernel_rfl) rfl #[decP gx e1] (by rfl) rfl rfl (by (try simp only [List.map_toArray, List.map_cons, List.map_nil]); first | done | rfl) ?_
      refine (getValue_is gx e1 _).mono ?_
      rintro e' wa2 ⟨rfl, hb⟩
      refine ⟨_, rfl, ?_⟩
      have hh2 := below_step hh1 hb
      have hz2 := blk_below hz1 hb
      clear hb
      refine hK.out _ _ (SK.out _ hh2) (fun hHeld => ?_)
      clear hK K
      refine norm_ (a' := ?_) ?_ ?_
      rotate_left
      · show Act.put _ (some 23) _ = _
        simp only [Act.put, List.setIfInBounds_toArray, List.set_cons_zero, List.set_cons_succ, i64_w, i32_w]; rfl
      refine one_ (i := 4) (N := some 25) #[true, true, true, true, true, false, false] rfl rfl (by kernel_rfl) (by decide) (fun K hK => ?_)
      refine goes_ Tryz.func28 (by kernel_rfl) rfl #[decP gy e2] (by rfl) rfl rfl (by (try simp only [List.map_toArray, List.map_cons, List.map_nil]); first | done | rfl) ?_
      refine (getValue_is gy e2 _).mono ?_
      rintro e' wa3 ⟨rfl, hb⟩
      refine ⟨_, rfl, ?_⟩
      have hh3 := below_step hh2 hb
      have hz3 := blk_below hz2 hb
      clear hb
      refine hK.out _ _ (SK.out _ hh3) (fun hHeld => ?_)
      clear hK K
      refine norm_ (a' := ?_) ?_ ?_
      rotate_left
      · show Act.put _ (some 25) _ = _
        simp only [Act.put, List.setIfInBounds_toArray, List.set_cons_zero, List.set_cons_succ, i64_w, i32_w]; rfl
      exact norm_ (by simp only [putAll, Act.put, List.setIfInBounds_toArray, List.set_cons_zero, List.set_cons_succ, i64_w, i32_w]) (hj gz _ ⟨hz3, hgz1, hh3⟩)
    · refine goes_ Tryz.func28 (by kernel_rfl) rfl #[decP gx e1] (by rfl) rfl rfl (by (try simp only [List.map_toArray, List.map_cons, List.map_nil]); first | done | rfl) ?_
      refine (getValue_is gx e1 _).mono ?_
      rintro e' wa4 ⟨rfl, hb⟩
      refine ⟨_, rfl, ?_⟩
      have hh4 := below_step hh0 hb
      clear hb
      refine hK.out _ _ (SK.out _ hh4) (fun hHeld => ?_)
      clear hK K
      refine norm_ (a' := ?_) ?_ ?_
      rotate_left
      · show Act.put _ (some 23) _ = _
        simp only [Act.put, List.setIfInBounds_toArray, List.set_cons_zero, List.set_cons_succ, i64_w, i32_w]; rfl
      refine two_ (i := 0) (j := 4) (Ni := some 21) (Nj := some 25) #[true, true, true, true, false, false, false] #[false, true, true, true, true, false, false] rfl rfl rfl rfl (by kernel_rfl) (by decide) (by decide) (fun K hK => ?_) (fun K hK => ?_)
      · refine box_step ?hg (N := 21) ?hd (cs := #[.bool false, .slice none 0 0]) (t := 65) ?hr ?_; (case hd => rfl); (case hg => rfl); (case hr => first | (go_simp; done) | (go_simp; rfl))
        intro gz hgq wa5 hbx hb
        have hh5 := below_step hh4 hb
        have hz5 := hbx
        have hgz5 : w4.heap.size ≤ gz := by rw [hgq]; exact (hh4).size
        clear hbx hgq hb
        refine hK.out _ _ (SK.out _ hh5) (fun hHeld => ?_)
        clear hK K
        refine norm_ (a' := ?_) ?_ ?_
        rotate_left
        · show Act.put _ (some 21) _ = _
          simp only [Act.put, List.setIfInBounds_toArray, List.set_cons_zero, List.set_cons_succ, i64_w, i32_w]; rfl
        refine one_ (i := 4) (N := some 25) #[true, true, true, true, true, false, false] rfl rfl (by kernel_rfl) (by decide) (fun K hK => ?_)
        refine goes_ Tryz.func28 (by kernel_rfl) rfl #[decP gy e2] (by rfl) rfl rfl (by (try simp only [List.map_toArray, List.map_cons, List.map_nil]); first | done | rfl) ?_
        refine (getValue_is gy e2 _).mono ?_
        rintro e' wa6 ⟨rfl, hb⟩
        refine ⟨_, rfl, ?_⟩
        have hh6 := below_step hh5 hb
        have hz6 := blk_below hz5 hb
        clear hb
        refine hK.out _ _ (SK.out _ hh6) (fun hHeld => ?_)
        clear hK K
        refine norm_ (a' := ?_) ?_ ?_
        rotate_left
        · show Act.put _ (some 25) _ = _
          simp only [Act.put, List.setIfInBounds_toArray, List.set_cons_zero, List.set_cons_succ, i64_w, i32_w]; rfl
        exact norm_ (by simp only [putAll, Act.put, List.setIfInBounds_toArray, List.set_cons_zero, List.set_cons_succ, i64_w, i32_w]) (hj gz _ ⟨hz6, hgz5, hh6⟩)
      · refine goes_ Tryz.func28 (by kernel_rfl) rfl #[decP gy e2] (by rfl) rfl rfl (by (try simp only [List.map_toArray, List.map_cons, List.map_nil]); first | done | rfl) ?_
        refine (getValue_is gy e2 _).mono ?_
        rintro e' wa7 ⟨rfl, hb⟩
        refine ⟨_, rfl, ?_⟩
        have hh7 := below_step hh4 hb
        clear hb
        refine hK.out _ _ (SK.out _ hh7) (fun hHeld => ?_)
        clear hK K
        refine norm_ (a' := ?_) ?_ ?_
        rotate_left
        · show Act.put _ (some 25) _ = _
          simp only [Act.put, List.setIfInBounds_toArray, List.set_cons_zero, List.set_cons_succ, i64_w, i32_w]; rfl
        refine one_ (i := 0) (N := some 21) #[true, true, true, true, true, false, false] rfl rfl (by kernel_rfl) (by decide) (fun K hK => ?_)
        refine box_step ?hg (N := 21) ?hd (cs := #[.bool false, .slice none 0 0]) (t := 65) ?hr ?_; (case hd => rfl); (case hg => rfl); (case hr => first | (go_simp; done) | (go_simp; rfl))
        intro gz hgq wa8 hbx hb
        have hh8 := below_step hh7 hb
        have hz8 := hbx
        have hgz8 : w4.heap.size ≤ gz := by rw [hgq]; exact (hh7).size
        clear hbx hgq hb
        refine hK.out _ _ (SK.out _ hh8) (fun hHeld => ?_)
        clear hK K
        refine norm_ (a' := ?_) ?_ ?_
        rotate_left
        · show Act.put _ (some 21) _ = _
          simp only [Act.put, List.setIfInBounds_toArray, List.set_cons_zero, List.set_cons_succ, i64_w, i32_w]; rfl
        exact norm_ (by simp only [putAll, Act.put, List.setIfInBounds_toArray, List.set_cons_zero, List.set_cons_succ, i64_w, i32_w]) (hj gz _ ⟨hz8, hgz8, hh8⟩)
  case cont =>
    rintro gz w5 ⟨hz, hgz, hh⟩
    refine norm_ (a' := ?_) ?_ ?_
    rotate_left
    · show putAll _ _ = _
      simp only [putAll, Act.put, List.setIfInBounds_toArray, List.set_cons_zero, List.set_cons_succ, i64_w, i32_w]; rfl
    refine one_ (i := 5) (N := some 26) #[true, true, true, true, true, true, false] rfl rfl (by kernel_rfl) (by decide) (fun K hK => ?_)
    refine goes_ Tryz.func27 (by kernel_rfl) rfl #[.pointer (some ⟨gz, 0, none⟩), .pointer (some ⟨gx, 0, none⟩), .pointer (some ⟨gy, 0, none⟩)] (by rfl) rfl rfl (by (try simp only [List.map_toArray, List.map_cons, List.map_nil]); first | done | rfl) ?_
    refine (HQ.out w4 gz w5 HB4.out hz hh hgz).mono ?_
    rintro e' w6 ⟨rfl, hI, hb⟩
    refine ⟨_, rfl, ?_⟩
    have HI := Aside0.mk hI
    have HB6 := Aside0.mk hb
    have HGz := Aside0.mk hgz
    clear hI hz hgz hh
    refine hK.out _ _ (SK.out _ hb) (fun hHeld => ?_)
    clear hK K hb
    refine norm_ (a' := ?_) ?_ ?_
    rotate_left
    · show Act.put _ (some 26) _ = _
      simp only [Act.put, List.setIfInBounds_toArray, List.set_cons_zero, List.set_cons_succ, i64_w, i32_w]; rfl
    refine pure_ (i := 6) (N := some 6) (v := ?_) (a' := ?_) #[true, true, true, true, true, true, true] rfl rfl (by kernel_rfl) (fun _ _ _ h => h) (Or.inl ⟨by rfl, ?_⟩) ?_ ?_
    rotate_left
    · (intro w'; go_simp; (try with_reducible rfl))
    rotate_left
    · simp only [Act.put, List.setIfInBounds_toArray, List.set_cons_zero, List.set_cons_succ, i64_w, i32_w]; rfl
    refine done_ (by kernel_rfl) ?_
    have HB7 := Aside0.mk (below_step HB4.out HB6.out)
    have B7 := Aside0.mk (blk_below B3.out HB6.out)
    have B3o := Aside0.mk B3.out
    have HSz := Aside0.mk HB4.out.size
    clear HB4 SK HB6 B1 B2 B3
    have f0 := (blk_cell B7.out 0).trans rfl; have zf0 := blk_frozen B7.out 0; have f1 := (blk_cell B7.out 1).trans rfl; have zf1 := blk_frozen B7.out 1
    have h32 := H32.out
    have hl3 := blk_lt B3o.out
    have HF := Aside0.mk (show IntAt ((w6.setCell ⟨g3, 0, none⟩ (.pointer (some ⟨gz, 0, none⟩))).setCell ⟨g3, 1, none⟩ (.int .i32 E)) w.heap.size gz t l from ((HI.out.far (p := ⟨g3, 0, none⟩) (by have := HGz.out; show gz ≠ g3; omega) hl3 _).far (p := ⟨g3, 1, none⟩) (by have := HGz.out; show gz ≠ g3; omega) hl3 _).lower HSz.out)
    clear hl3 HI B3o HSz
    go_wp2_with fail
    exact bodyPost_ret (v := decP gz E) (by simp [results, Tryz.results14, go_sem, f0, f1, zf0, zf1]) rfl ⟨gz, rfl, HF.out, by repeat (first | (with_reducible first | exact HB7.out | apply below_alloc | apply pw_below_drewN | apply below_drew1 | refine below_set ?_ G3.out | refine below_set ?_ (Nat.le_refl _)) | exact HB7.out)⟩
end Go.Proofs.YtghabdpbacgicaaGreatDoor.G
