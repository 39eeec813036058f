/-
  CONTRACTS: the product of two numbers with sign (Int.mul, Int.Mul).
-/
import Derived.Test.YtghabdpbacgicaaGreatDoorGNx
import Derived.Test.YtghabdpbacgicaaGreatDoorGInt
import Derived.LaidEqlPtr
namespace Go.Proofs.YtghabdpbacgicaaGreatDoor.G
open Go.RowKit Go.Proofs.YtghabdpbacgicaaGreatDoorW.PrintWords Go.Proofs.YtghabdpbacgicaaGreatDoorW.PrintLast Go.Proofs.YtghabdpbacgicaaGreatDoorW.PrintMore Go.Proofs.YtghabdpbacgicaaGreatDoor.S
set_option linter.unusedVariables false
set_option linter.unusedSimpArgs false

/-- The package's threshold, as the row lists it. -/
def Thr (w : World) : Prop := ∃ o, w.heap[2]? = some o ∧ w.cell? ⟨2, 0, none⟩ = some (.int .i64 40)
theorem Thr.below {w w1 : World} (h : Thr w) (hb : Below w.heap.size w w1) : Thr w1 := h.elim fun o ho => ⟨o, blk_below ho.1 hb, (hb.cell (p := ⟨2, 0, none⟩) (blk_lt ho.1)).trans ho.2⟩
set_option maxRecDepth 100000 in
set_option maxHeartbeats 1000000 in
theorem intMul_is (ws : World) (bx by' gz gx gy : Nat) (b1 b2 : Bool) (a b : Nat) (w : World) (hz : w.heap[gz]? = some (.cells #[.bool false, .slice none 0 0] 65 (0, 0))) (hs : Below ws.heap.size ws w) (hg : ws.heap.size ≤ gz)
    (hX : IntAt ws bx gx b1 (L64.lim a)) (hY : IntAt ws by' gy b2 (L64.lim b)) (hne : gx ≠ gy) (ha : (L64.lim a).length < 40) (hb : (L64.lim b).length < 40) (hv : Thr w) :
    Calls Tryz.prog 41 #[.pointer (some ⟨gz, 0, none⟩), .pointer none, .pointer (some ⟨gx, 0, none⟩), .pointer (some ⟨gy, 0, none⟩)] w fun e w' => e = .returned (.tuple #[]) ∧ IntAt w' ws.heap.size gz (decide (0 < (L64.lim (a * b)).length) && (b1 != b2)) (L64.lim (a * b)) ∧ Below ws.heap.size ws w' := by
  have HZ := Aside0.mk hz
  have HS := Aside0.mk hs
  have HG := Aside0.mk hg
  have HGz := Aside0.mk (blk_lt hz)
  obtain ⟨A1, c1, hB1, hV1⟩ := hX
  obtain ⟨A2, c2, hB2, hV2⟩ := hY
  have hgx := blk_lt hB1
  have hgy := blk_lt hB2
  have BX := Aside0.mk (blk_below hB1 hs)
  have BY := Aside0.mk (blk_below hB2 hs)
  have HC1 := Aside0.mk (Kd.V_reads' hV1).2.2
  have HC2 := Aside0.mk (Kd.V_reads' hV2).2.2
  have HQ := Aside0.mk (natMul_is A1 A2 c1 c2 a b w.drew (Kd.C_below HC1.out (below_drew hs)) (Kd.C_below HC2.out (below_drew hs)) ha hb (hv.below (below_drew (Below.refl _ _))))
  have hn1 : gx ≠ gz := by omega
  have hn2 : gy ≠ gz := by omega
  have hn3 := hn1.symm
  have hn4 := hn2.symm
  have hn5 := hne.symm
  have hq : (binOp .eql 40 (.pointer (some ⟨gx, 0, none⟩)) (.pointer (some ⟨gy, 0, none⟩))).run Tryz.prog w = .ok (.bool false) w := by
    obtain ⟨j, hj, hj2⟩ : ∃ j, Tryz.prog.info? 65 = some j ∧ j.size ≠ 0 := by
      have h1 : (Tryz.prog.info? 65).map (·.size) = some 2 := by kernel_rfl
      obtain ⟨j, hj, hj2⟩ := Option.map_eq_some_iff.1 h1
      exact ⟨j, hj, by omega⟩
    exact run_eql_ptr_other w Tryz.underlying40 hj hj2 (fun h => hne (congrArg Addr.block h)) BX.out BY.out
  clear hz hs hg hB1 hV1 hB2 hV2 hgx hgy ha hb hv
  obtain ⟨x, hx⟩ : ∃ x, L64.lim a = x := ⟨_, rfl⟩
  obtain ⟨y, hy⟩ : ∃ y, L64.lim b = y := ⟨_, rfl⟩
  rw [hx] at BX HC1 HQ
  rw [hy] at BY HC2 HQ
  clear hx hy
  obtain ⟨l, hl⟩ : ∃ l, L64.lim (a * b) = l := ⟨_, rfl⟩
  unfold NatAt at HQ
  rw [hl] at HQ ⊢
  clear hl
  have z0 := (blk_cell HZ.out 0).trans rfl; have zz0 := blk_frozen HZ.out 0; have z1 := (blk_cell HZ.out 1).trans rfl; have zz1 := blk_frozen HZ.out 1
  have x0 := (blk_cell BX.out 0).trans rfl; have zx0 := blk_frozen BX.out 0; have x1 := (blk_cell BX.out 1).trans rfl; have zx1 := blk_frozen BX.out 1
  have y0 := (blk_cell BY.out 0).trans rfl; have zy0 := blk_frozen BY.out 0; have y1 := (blk_cell BY.out 1).trans rfl; have zy1 := blk_frozen BY.out 1
  have d1 : w.drew.cell? ⟨gz, 1, none⟩ = some (.slice none 0 0) := z1
  have d2 : w.drew.cell? ⟨gx, 1, none⟩ = some (.slice A1 x.length c1) := x1
  have d3 : w.drew.cell? ⟨gy, 1, none⟩ = some (.slice A2 y.length c2) := y1
  go_enter Tryz.func41, Tryz.ntmps41
  go_wp2_with fail
  clear hq z0 zz0 x0 zx0 y0 zy0 z1 zz1 x1 zx1 y1 zy1
  refine start_ (n := 18) (S := fun w' => w'.cell? ⟨gz, 1, none⟩ = some (.slice none 0 0) ∧ w'.cell? ⟨gx, 1, none⟩ = some (.slice A1 x.length c1) ∧ w'.cell? ⟨gy, 1, none⟩ = some (.slice A2 y.length c2)) (ds := [17]) #[false, false, false, false, false, false, false, false, false, false, false, false, false, false, false, false, false, false] (by kernel_rfl) rfl rfl ⟨d1, d2, d3⟩ (fun hHeld => ?_)
  refine pure_ (i := 0) (N := some 27) (v := ?_) (a' := ?_) #[true, false, false, false, false, false, false, false, false, false, false, false, false, false, false, false, false, false] rfl rfl (by kernel_rfl) (fun _ _ _ h => h) (Or.inl ⟨by rfl, ?_⟩) ?_ ?_
  rotate_left
  · (intro w'; go_simp; (try with_reducible rfl))
  rotate_left
  · simp only [Act.put, List.setIfInBounds_toArray, List.set_cons_zero, List.set_cons_succ, i64_w, i32_w]; rfl
  refine pure_ (i := 1) (N := some 28) (v := ?_) (a' := ?_) #[true, true, false, false, false, false, false, false, false, false, false, false, false, false, false, false, false, false] rfl rfl (by kernel_rfl) (fun _ _ _ h => h) (Or.inl ⟨by rfl, ?_⟩) ?_ ?_
  rotate_left
  · (intro w'; go_simp; (try with_reducible rfl))
  rotate_left
  · simp only [Act.put, List.setIfInBounds_toArray, List.set_cons_zero, List.set_cons_succ, i64_w, i32_w]; rfl
  refine pure_ (i := 2) (N := some 29) (v := ?_) (a' := ?_) #[true, true, true, false, false, false, false, false, false, false, false, false, false, false, false, false, false, false] rfl rfl (by kernel_rfl) (fun _ _ _ h => h) (Or.inl ⟨by rfl, ?_⟩) ?_ ?_
  rotate_left
  · (intro w'; go_simp; (try with_reducible rfl))
  rotate_left
  · simp only [Act.put, List.setIfInBounds_toArray, List.set_cons_zero, List.set_cons_succ, i64_w, i32_w]; rfl
  refine pure_ (i := 3) (N := some 30) (v := ?_) (a' := ?_) #[true, true, true, true, false, false, false, false, false, false, false, false, false, false, false, false, false, false] rfl rfl (by kernel_rfl) (fun _ _ _ h => h) (Or.inl ⟨by rfl, ?_⟩) ?_ ?_
  rotate_left
  · (intro w'; go_simp; (try with_reducible rfl))
  rotate_left
  · simp only [Act.put, List.setIfInBounds_toArray, List.set_cons_zero, List.set_cons_succ, i64_w, i32_w]; rfl
  refine take_ (i := 4) (N := some 31) (v := ?_) (a' := ?_) #[true, true, true, true, true, false, false, false, false, false, false, false, false, false, false, false, false, false] rfl rfl (by kernel_rfl) (fun _ _ _ h => h) (Or.inl ⟨by rfl, ?_⟩) hHeld ?_ ?_
  rotate_left
  · (rintro w' ⟨s0, s1, s2⟩; go_simp; (try with_reducible rfl))
  rotate_left
  · simp only [Act.put, List.setIfInBounds_toArray, List.set_cons_zero, List.set_cons_succ, i64_w, i32_w]; rfl
  refine pure_ (i := 5) (N := some 32) (v := ?_) (a' := ?_) #[true, true, true, true, true, true, false, false, false, false, false, false, false, false, false, false, false, false] rfl rfl (by kernel_rfl) (fun _ _ _ h => h) (Or.inl ⟨by rfl, ?_⟩) ?_ ?_
  rotate_left
  · (intro w'; go_simp; (try with_reducible rfl))
  rotate_left
  · simp only [Act.put, List.setIfInBounds_toArray, List.set_cons_zero, List.set_cons_succ, i64_w, i32_w]; rfl
  refine pure_ (i := 6) (N := some 33) (v := ?_) (a' := ?_) #[true, true, true, true, true, true, true, false, false, false, false, false, false, false, false, false, false, false] rfl rfl (by kernel_rfl) (fun _ _ _ h => h) (Or.inl ⟨by rfl, ?_⟩) ?_ ?_
  rotate_left
  · (intro w'; go_simp; (try with_reducible rfl))
  rotate_left
  · simp only [Act.put, List.setIfInBounds_toArray, List.set_cons_zero, List.set_cons_succ, i64_w, i32_w]; rfl
  refine pure_ (i := 7) (N := some 34) (v := ?_) (a' := ?_) #[true, true, true, true, true, true, true, true, false, false, false, false, false, false, false, false, false, false] rfl rfl (by kernel_rfl) (fun _ _ _ h => h) (Or.inl ⟨by rfl, ?_⟩) ?_ ?_
  rotate_left
  · (intro w'; go_simp; (try with_reducible rfl))
  rotate_left
  · simp only [Act.put, List.setIfInBounds_toArray, List.set_cons_zero, List.set_cons_succ, i64_w, i32_w]; rfl
  refine pure_ (i := 8) (N := some 35) (v := ?_) (a' := ?_) #[true, true, true, true, true, true, true, true, true, false, false, false, false, false, false, false, false, false] rfl rfl (by kernel_rfl) (fun _ _ _ h => h) (Or.inl ⟨by rfl, ?_⟩) ?_ ?_
  rotate_left
  · (intro w'; go_simp; (try with_reducible rfl))
  rotate_left
  · simp only [Act.put, List.setIfInBounds_toArray, List.set_cons_zero, List.set_cons_succ, i64_w, i32_w]; rfl
  refine take_ (i := 9) (N := some 36) (v := ?_) (a' := ?_) #[true, true, true, true, true, true, true, true, true, true, false, false, false, false, false, false, false, false] rfl rfl (by kernel_rfl) (fun _ _ _ h => h) (Or.inl ⟨by rfl, ?_⟩) hHeld ?_ ?_
  rotate_left
  · (rintro w' ⟨s0, s1, s2⟩; go_simp; (try with_reducible rfl))
  rotate_left
  · simp only [Act.put, List.setIfInBounds_toArray, List.set_cons_zero, List.set_cons_succ, i64_w, i32_w]; rfl
  refine pure_ (i := 10) (N := some 37) (v := ?_) (a' := ?_) #[true, true, true, true, true, true, true, true, true, true, true, false, false, false, false, false, false, false] rfl rfl (by kernel_rfl) (fun _ _ _ h => h) (Or.inl ⟨by rfl, ?_⟩) ?_ ?_
  rotate_left
  · (intro w'; go_simp; (try with_reducible rfl))
  rotate_left
  · simp only [Act.put, List.setIfInBounds_toArray, List.set_cons_zero, List.set_cons_succ, i64_w, i32_w]; rfl
  refine pure_ (i := 11) (N := some 38) (v := ?_) (a' := ?_) #[true, true, true, true, true, true, true, true, true, true, true, true, false, false, false, false, false, false] rfl rfl (by kernel_rfl) (fun _ _ _ h => h) (Or.inl ⟨by rfl, ?_⟩) ?_ ?_
  rotate_left
  · (intro w'; go_simp; (try with_reducible rfl))
  rotate_left
  · simp only [Act.put, List.setIfInBounds_toArray, List.set_cons_zero, List.set_cons_succ, i64_w, i32_w]; rfl
  refine pure_ (i := 12) (N := some 39) (v := ?_) (a' := ?_) #[true, true, true, true, true, true, true, true, true, true, true, true, true, false, false, false, false, false] rfl rfl (by kernel_rfl) (fun _ _ _ h => h) (Or.inl ⟨by rfl, ?_⟩) ?_ ?_
  rotate_left
  · (intro w'; go_simp; (try with_reducible rfl))
  rotate_left
  · simp only [Act.put, List.setIfInBounds_toArray, List.set_cons_zero, List.set_cons_succ, i64_w, i32_w]; rfl
  refine take_ (i := 13) (N := some 40) (v := ?_) (a' := ?_) #[true, true, true, true, true, true, true, true, true, true, true, true, true, true, false, false, false, false] rfl rfl (by kernel_rfl) (fun _ _ _ h => h) (Or.inl ⟨by rfl, ?_⟩) hHeld ?_ ?_
  rotate_left
  · (rintro w' ⟨s0, s1, s2⟩; go_simp; (try with_reducible rfl))
  rotate_left
  · simp only [Act.put, List.setIfInBounds_toArray, List.set_cons_zero, List.set_cons_succ, i64_w, i32_w]; rfl
  refine one_ (i := 14) (N := some 41) #[true, true, true, true, true, true, true, true, true, true, true, true, true, true, true, false, false, false] rfl rfl (by kernel_rfl) (by decide) (fun K hK => ?_)
  refine goes_ Tryz.func49 (by kernel_rfl) rfl #[.slice none 0 0, .pointer none, .slice A1 x.length c1, .slice A2 y.length c2] (by rfl) rfl rfl (by (try simp only [List.map_toArray, List.map_cons, List.map_nil]); first | done | rfl) ?_
  refine HQ.out.mono ?_
  rintro e w2 ⟨v0, rfl, hN, hb⟩
  refine ⟨_, rfl, ?_⟩
  obtain ⟨A', c', rfl, hV⟩ := hN
  have HV := Aside0.mk hV
  have HB2 := Aside0.mk (below_step (below_drew HS.out) hb)
  have Z2 := Aside0.mk (blk_below (blk_drew HZ.out) hb)
  have X2 := Aside0.mk (blk_below (blk_drew BX.out) hb)
  have Y2 := Aside0.mk (blk_below (blk_drew BY.out) hb)
  have HK := Aside0.mk hb.size
  refine hK.out _ _ ⟨(blk_cell Z2.out 1).trans rfl, (blk_cell X2.out 1).trans rfl, (blk_cell Y2.out 1).trans rfl⟩ (fun hHeld => ?_)
  clear hK K hV hb d1 d2 d3 HQ
  refine norm_ (a' := ?_) ?_ ?_
  rotate_left
  · show Act.put _ (some 41) _ = _
    simp only [Act.put, List.setIfInBounds_toArray, List.set_cons_zero, List.set_cons_succ, i64_w, i32_w]; rfl
  refine pure_ (i := 15) (N := some 42) (v := ?_) (a' := ?_) #[true, true, true, true, true, true, true, true, true, true, true, true, true, true, true, true, false, false] rfl rfl (by kernel_rfl) (fun _ _ _ h => h) (Or.inl ⟨by rfl, ?_⟩) ?_ ?_
  rotate_left
  · (intro w'; go_simp; (try with_reducible rfl))
  rotate_left
  · simp only [Act.put, List.setIfInBounds_toArray, List.set_cons_zero, List.set_cons_succ, i64_w, i32_w]; rfl
  refine pure_ (i := 16) (N := some 43) (v := ?_) (a' := ?_) #[true, true, true, true, true, true, true, true, true, true, true, true, true, true, true, true, true, false] rfl rfl (by kernel_rfl) (fun _ _ _ h => h) (Or.inl ⟨by rfl, ?_⟩) ?_ ?_
  rotate_left
  · (intro w'; go_simp; (try with_reducible rfl))
  rotate_left
  · simp only [Act.put, List.setIfInBounds_toArray, List.set_cons_zero, List.set_cons_succ, i64_w, i32_w]; rfl
  have f0 := (blk_cell Z2.out 0).trans rfl; have zf0 := blk_frozen Z2.out 0; have f1 := (blk_cell Z2.out 1).trans rfl; have zf1 := blk_frozen Z2.out 1
  refine last_ (i := 17) (N := none) #[true, true, true, true, true, true, true, true, true, true, true, true, true, true, true, true, true, true] rfl rfl (by kernel_rfl) (by decide) (fun K hK => ?_)
  rw [if_pos (by rfl)]
  go_simp
  refine hK.out _ _ ?_
  clear hK K f0 f1 zf0 zf1 hHeld
  refine done_ (by kernel_rfl) ?_
  have Z3 := Aside0.mk (blk_put (cs' := #[.bool false, .slice A' l.length c']) Z2.out 1 (.slice A' l.length c') rfl)
  have X3 := Aside0.mk (blk_far (p := ⟨gz, 1, none⟩) X2.out hn1 (.slice A' l.length c'))
  have Y3 := Aside0.mk (blk_far (p := ⟨gz, 1, none⟩) Y2.out hn2 (.slice A' l.length c'))
  have HB3 := Aside0.mk (below_set (j := 1) (v := .slice A' l.length c') HB2.out HG.out)
  have HV3 := Aside0.mk (Kd.V_far (p := ⟨gz, 1, none⟩) HV.out (fun k hk => by have h1 : w.heap.size ≤ k := hk; have := HGz.out; show k ≠ gz; omega) (.slice A' l.length c'))
  generalize w2.setCell ⟨gz, 1, none⟩ (.slice A' l.length c') = w3 at *
  have Z4 := Aside0.mk (blk_drew Z3.out)
  have d1 : w3.drew.cell? ⟨gz, 1, none⟩ = some (.slice A' l.length c') := (blk_cell Z4.out 1).trans rfl
  have d2 : w3.drew.cell? ⟨gx, 0, none⟩ = some (.bool b1) := (blk_cell (blk_drew X3.out) 0).trans rfl
  have d3 : w3.drew.cell? ⟨gy, 0, none⟩ = some (.bool b2) := (blk_cell (blk_drew Y3.out) 0).trans rfl
  have fin : ∀ t : Bool, IntAt (w3.drew.setCell ⟨gz, 0, none⟩ (.bool t)) ws.heap.size gz t l ∧ Below ws.heap.size ws (w3.drew.setCell ⟨gz, 0, none⟩ (.bool t)) := fun t => ⟨⟨A', c', blk_put (cs' := #[.bool t, .slice A' l.length c']) Z4.out 0 (.bool t) rfl, Kd.V_mono (Kd.V_far (p := ⟨gz, 0, none⟩) (Kd.V_drew HV3.out) (fun k hk => by have h1 : w.heap.size ≤ k := hk; have := HGz.out; show k ≠ gz; omega) (.bool t)) (fun k hk => by have h1 : w.heap.size ≤ k := hk; have := HGz.out; have := HS.out.size; exact ⟨by omega, by omega⟩)⟩, below_set (below_drew HB3.out) HG.out⟩
  have FIN := Aside0.mk fin
  clear fin
  go_wp2_with fail
  by_cases h0 : 0 < l.length
  · have h1 : decide (0 < (l.length : Int)) = true := decide_eq_true (by omega)
    have h2 : decide (0 < l.length) = true := decide_eq_true h0
    refine start_ (n := 21) (S := fun w' => w'.cell? ⟨gz, 1, none⟩ = some (.slice A' l.length c') ∧ w'.cell? ⟨gx, 0, none⟩ = some (.bool b1) ∧ w'.cell? ⟨gy, 0, none⟩ = some (.bool b2)) (ds := [20]) #[false, false, false, false, false, false, false, false, false, false, false, false, false, false, false, false, false, false, false, false, false] (by kernel_rfl) rfl rfl ⟨d1, d2, d3⟩ (fun hHeld => ?_)
    refine pure_ (i := 0) (N := some 44) (v := ?_) (a' := ?_) #[true, false, false, false, false, false, false, false, false, false, false, false, false, false, false, false, false, false, false, false, false] rfl rfl (by kernel_rfl) (fun _ _ _ h => h) (Or.inl ⟨by rfl, ?_⟩) ?_ ?_
    rotate_left
    · (intro w'; go_simp; (try with_reducible rfl))
    rotate_left
    · simp only [Act.put, List.setIfInBounds_toArray, List.set_cons_zero, List.set_cons_succ, i64_w, i32_w]; rfl
    refine pure_ (i := 1) (N := some 45) (v := ?_) (a' := ?_) #[true, true, false, false, false, false, false, false, false, false, false, false, false, false, false, false, false, false, false, false, false] rfl rfl (by kernel_rfl) (fun _ _ _ h => h) (Or.inl ⟨by rfl, ?_⟩) ?_ ?_
    rotate_left
    · (intro w'; go_simp; (try with_reducible rfl))
    rotate_left
    · simp only [Act.put, List.setIfInBounds_toArray, List.set_cons_zero, List.set_cons_succ, i64_w, i32_w]; rfl
    refine pure_ (i := 2) (N := some 46) (v := ?_) (a' := ?_) #[true, true, true, false, false, false, false, false, false, false, false, false, false, false, false, false, false, false, false, false, false] rfl rfl (by kernel_rfl) (fun _ _ _ h => h) (Or.inl ⟨by rfl, ?_⟩) ?_ ?_
    rotate_left
    · (intro w'; go_simp; (try with_reducible rfl))
    rotate_left
    · simp only [Act.put, List.setIfInBounds_toArray, List.set_cons_zero, List.set_cons_succ, i64_w, i32_w]; rfl
    refine pure_ (i := 3) (N := some 47) (v := ?_) (a' := ?_) #[true, true, true, true, false, false, false, false, false, false, false, false, false, false, false, false, false, false, false, false, false] rfl rfl (by kernel_rfl) (fun _ _ _ h => h) (Or.inl ⟨by rfl, ?_⟩) ?_ ?_
    rotate_left
    · (intro w'; go_simp; (try with_reducible rfl))
    rotate_left
    · simp only [Act.put, List.setIfInBounds_toArray, List.set_cons_zero, List.set_cons_succ, i64_w, i32_w]; rfl
    refine take_ (i := 4) (N := some 48) (v := ?_) (a' := ?_) #[true, true, true, true, true, false, false, false, false, false, false, false, false, false, false, false, false, false, false, false, false] rfl rfl (by kernel_rfl) (fun _ _ _ h => h) (Or.inl ⟨by rfl, ?_⟩) hHeld ?_ ?_
    rotate_left
    · (rintro w' ⟨s0, s1, s2⟩; go_simp; (try with_reducible rfl))
    rotate_left
    · simp only [Act.put, List.setIfInBounds_toArray, List.set_cons_zero, List.set_cons_succ, i64_w, i32_w]; rfl
    refine pure_ (i := 5) (N := some 49) (v := ?_) (a' := ?_) #[true, true, true, true, true, true, false, false, false, false, false, false, false, false, false, false, false, false, false, false, false] rfl rfl (by kernel_rfl) (fun _ _ _ h => h) (Or.inl ⟨by rfl, ?_⟩) ?_ ?_
    rotate_left
    · (intro w'; go_simp; (try with_reducible rfl))
    rotate_left
    · simp only [Act.put, List.setIfInBounds_toArray, List.set_cons_zero, List.set_cons_succ, i64_w, i32_w]; rfl
    refine pure_ (i := 6) (N := some 50) (v := ?_) (a' := ?_) #[true, true, true, true, true, true, true, false, false, false, false, false, false, false, false, false, false, false, false, false, false] rfl rfl (by kernel_rfl) (fun _ _ _ h => h) (Or.inl ⟨by rfl, ?_⟩) ?_ ?_
    rotate_left
    · (intro w'; go_simp; (try with_reducible rfl))
    rotate_left
    · simp only [Act.put, List.setIfInBounds_toArray, List.set_cons_zero, List.set_cons_succ, i64_w, i32_w]; rfl
    refine pure_ (i := 7) (N := some 51) (v := ?_) (a' := ?_) #[true, true, true, true, true, true, true, true, false, false, false, false, false, false, false, false, false, false, false, false, false] rfl rfl (by kernel_rfl) (fun _ _ _ h => h) (Or.inl ⟨by rfl, ?_⟩) ?_ ?_
    rotate_left
    · (intro w'; go_simp; (try with_reducible rfl))
    rotate_left
    · simp only [Act.put, List.setIfInBounds_toArray, List.set_cons_zero, List.set_cons_succ, i64_w, i32_w]; rfl
    refine pure_ (i := 8) (N := some 52) (v := ?_) (a' := ?_) #[true, true, true, true, true, true, true, true, true, false, false, false, false, false, false, false, false, false, false, false, false] rfl rfl (by kernel_rfl) (fun _ _ _ h => h) (Or.inl ⟨by rfl, ?_⟩) ?_ ?_
    rotate_left
    · (intro w'; go_simp; (try with_reducible rfl))
    rotate_left
    · simp only [Act.put, List.setIfInBounds_toArray, List.set_cons_zero, List.set_cons_succ, i64_w, i32_w]; rfl
    refine pure_ (i := 9) (N := some 53) (v := ?_) (a' := ?_) #[true, true, true, true, true, true, true, true, true, true, false, false, false, false, false, false, false, false, false, false, false] rfl rfl (by kernel_rfl) (fun _ _ _ h => h) (Or.inl ⟨by rfl, ?_⟩) ?_ ?_
    rotate_left
    · (intro w'; go_simp; (try with_reducible rfl))
    rotate_left
    · simp only [Act.put, List.setIfInBounds_toArray, List.set_cons_zero, List.set_cons_succ, i64_w, i32_w]; rfl
    refine pure_ (i := 10) (N := some 54) (v := ?_) (a' := ?_) #[true, true, true, true, true, true, true, true, true, true, true, false, false, false, false, false, false, false, false, false, false] rfl rfl (by kernel_rfl) (fun _ _ _ h => h) (Or.inl ⟨by rfl, ?_⟩) ?_ ?_
    rotate_left
    · (intro w'; go_simp; (try with_reducible rfl))
    rotate_left
    · simp only [Act.put, List.setIfInBounds_toArray, List.set_cons_zero, List.set_cons_succ, i64_w, i32_w]; rfl
    refine take_ (i := 11) (N := some 55) (v := ?_) (a' := ?_) #[true, true, true, true, true, true, true, true, true, true, true, true, false, false, false, false, false, false, false, false, false] rfl rfl (by kernel_rfl) (fun _ _ _ h => h) (Or.inl ⟨by rfl, ?_⟩) hHeld ?_ ?_
    rotate_left
    · (rintro w' ⟨s0, s1, s2⟩; go_simp; (try with_reducible rfl))
    rotate_left
    · simp only [Act.put, List.setIfInBounds_toArray, List.set_cons_zero, List.set_cons_succ, i64_w, i32_w]; rfl
    refine pure_ (i := 12) (N := some 56) (v := ?_) (a' := ?_) #[true, true, true, true, true, true, true, true, true, true, true, true, true, false, false, false, false, false, false, false, false] rfl rfl (by kernel_rfl) (fun _ _ _ h => h) (Or.inl ⟨by rfl, ?_⟩) ?_ ?_
    rotate_left
    · (intro w'; go_simp; (try with_reducible rfl))
    rotate_left
    · simp only [Act.put, List.setIfInBounds_toArray, List.set_cons_zero, List.set_cons_succ, i64_w, i32_w]; rfl
    refine pure_ (i := 13) (N := some 57) (v := ?_) (a' := ?_) #[true, true, true, true, true, true, true, true, true, true, true, true, true, true, false, false, false, false, false, false, false] rfl rfl (by kernel_rfl) (fun _ _ _ h => h) (Or.inl ⟨by rfl, ?_⟩) ?_ ?_
    rotate_left
    · (intro w'; go_simp; (try with_reducible rfl))
    rotate_left
    · simp only [Act.put, List.setIfInBounds_toArray, List.set_cons_zero, List.set_cons_succ, i64_w, i32_w]; rfl
    refine pure_ (i := 14) (N := some 58) (v := ?_) (a' := ?_) #[true, true, true, true, true, true, true, true, true, true, true, true, true, true, true, false, false, false, false, false, false] rfl rfl (by kernel_rfl) (fun _ _ _ h => h) (Or.inl ⟨by rfl, ?_⟩) ?_ ?_
    rotate_left
    · (intro w'; go_simp; (try with_reducible rfl))
    rotate_left
    · simp only [Act.put, List.setIfInBounds_toArray, List.set_cons_zero, List.set_cons_succ, i64_w, i32_w]; rfl
    refine take_ (i := 15) (N := some 59) (v := ?_) (a' := ?_) #[true, true, true, true, true, true, true, true, true, true, true, true, true, true, true, true, false, false, false, false, false] rfl rfl (by kernel_rfl) (fun _ _ _ h => h) (Or.inl ⟨by rfl, ?_⟩) hHeld ?_ ?_
    rotate_left
    · (rintro w' ⟨s0, s1, s2⟩; go_simp; (try with_reducible rfl))
    rotate_left
    · simp only [Act.put, List.setIfInBounds_toArray, List.set_cons_zero, List.set_cons_succ, i64_w, i32_w]; rfl
    refine pure_ (i := 16) (N := some 60) (v := ?_) (a' := ?_) #[true, true, true, true, true, true, true, true, true, true, true, true, true, true, true, true, true, false, false, false, false] rfl rfl (by kernel_rfl) (fun _ _ _ h => h) (Or.inl ⟨by rfl, ?_⟩) ?_ ?_
    rotate_left
    · (intro w'; go_simp; (try with_reducible rfl))
    rotate_left
    · simp only [Act.put, List.setIfInBounds_toArray, List.set_cons_zero, List.set_cons_succ, i64_w, i32_w]; rfl
    refine pure_ (i := 17) (N := some 61) (v := ?_) (a' := ?_) #[true, true, true, true, true, true, true, true, true, true, true, true, true, true, true, true, true, true, false, false, false] rfl rfl (by kernel_rfl) (fun _ _ _ h => h) (Or.inl ⟨by rfl, ?_⟩) ?_ ?_
    rotate_left
    · (intro w'; go_simp; (try with_reducible rfl))
    rotate_left
    · simp only [Act.put, List.setIfInBounds_toArray, List.set_cons_zero, List.set_cons_succ, i64_w, i32_w]; rfl
    refine pure_ (i := 18) (N := some 62) (v := ?_) (a' := ?_) #[true, true, true, true, true, true, true, true, true, true, true, true, true, true, true, true, true, true, true, false, false] rfl rfl (by kernel_rfl) (fun _ _ _ h => h) (Or.inl ⟨by rfl, ?_⟩) ?_ ?_
    rotate_left
    · (intro w'; go_simp; (try with_reducible rfl))
    rotate_left
    · simp only [Act.put, List.setIfInBounds_toArray, List.set_cons_zero, List.set_cons_succ, i64_w, i32_w]; rfl
    refine pure_ (i := 19) (N := some 63) (v := ?_) (a' := ?_) #[true, true, true, true, true, true, true, true, true, true, true, true, true, true, true, true, true, true, true, true, false] rfl rfl (by kernel_rfl) (fun _ _ _ h => h) (Or.inl ⟨by rfl, ?_⟩) ?_ ?_
    rotate_left
    · (intro w'; go_simp; (try with_reducible rfl))
    rotate_left
    · simp only [Act.put, List.setIfInBounds_toArray, List.set_cons_zero, List.set_cons_succ, i64_w, i32_w]; rfl
    have f0 := (blk_cell Z4.out 0).trans rfl; have zf0 := blk_frozen Z4.out 0; have f1 := (blk_cell Z4.out 1).trans rfl; have zf1 := blk_frozen Z4.out 1
    refine last_ (i := 20) (N := none) #[true, true, true, true, true, true, true, true, true, true, true, true, true, true, true, true, true, true, true, true, true] rfl rfl (by kernel_rfl) (by decide) (fun K hK => ?_)
    rw [if_pos (by rfl)]
    go_simp
    refine hK.out _ _ ?_
    clear hK K
    refine done_ (by kernel_rfl) ?_
    refine bodyPost_end (results_none rfl _ _ _) rfl ⟨rfl, ?_⟩
    rw [h2, Bool.true_and]
    exact FIN.out _
  · have h1 : decide (0 < (l.length : Int)) = false := decide_eq_false (by omega)
    have h2 : decide (0 < l.length) = false := decide_eq_false h0
    refine start_ (n := 21) (S := fun w' => w'.cell? ⟨gz, 1, none⟩ = some (.slice A' l.length c') ∧ w'.cell? ⟨gx, 0, none⟩ = some (.bool b1) ∧ w'.cell? ⟨gy, 0, none⟩ = some (.bool b2)) (ds := [20]) #[false, false, false, false, false, false, false, false, false, false, false, false, false, false, false, false, false, false, false, false, false] (by kernel_rfl) rfl rfl ⟨d1, d2, d3⟩ (fun hHeld => ?_)
    refine pure_ (i := 0) (N := some 44) (v := ?_) (a' := ?_) #[true, false, false, false, false, false, false, false, false, false, false, false, false, false, false, false, false, false, false, false, false] rfl rfl (by kernel_rfl) (fun _ _ _ h => h) (Or.inl ⟨by rfl, ?_⟩) ?_ ?_
    rotate_left
    · (intro w'; go_simp; (try with_reducible rfl))
    rotate_left
    · simp only [Act.put, List.setIfInBounds_toArray, List.set_cons_zero, List.set_cons_succ, i64_w, i32_w]; rfl
    refine pure_ (i := 1) (N := some 45) (v := ?_) (a' := ?_) #[true, true, false, false, false, false, false, false, false, false, false, false, false, false, false, false, false, false, false, false, false] rfl rfl (by kernel_rfl) (fun _ _ _ h => h) (Or.inl ⟨by rfl, ?_⟩) ?_ ?_
    rotate_left
    · (intro w'; go_simp; (try with_reducible rfl))
    rotate_left
    · simp only [Act.put, List.setIfInBounds_toArray, List.set_cons_zero, List.set_cons_succ, i64_w, i32_w]; rfl
    refine pure_ (i := 2) (N := some 46) (v := ?_) (a' := ?_) #[true, true, true, false, false, false, false, false, false, false, false, false, false, false, false, false, false, false, false, false, false] rfl rfl (by kernel_rfl) (fun _ _ _ h => h) (Or.inl ⟨by rfl, ?_⟩) ?_ ?_
    rotate_left
    · (intro w'; go_simp; (try with_reducible rfl))
    rotate_left
    · simp only [Act.put, List.setIfInBounds_toArray, List.set_cons_zero, List.set_cons_succ, i64_w, i32_w]; rfl
    refine pure_ (i := 3) (N := some 47) (v := ?_) (a' := ?_) #[true, true, true, true, false, false, false, false, false, false, false, false, false, false, false, false, false, false, false, false, false] rfl rfl (by kernel_rfl) (fun _ _ _ h => h) (Or.inl ⟨by rfl, ?_⟩) ?_ ?_
    rotate_left
    · (intro w'; go_simp; (try with_reducible rfl))
    rotate_left
    · simp only [Act.put, List.setIfInBounds_toArray, List.set_cons_zero, List.set_cons_succ, i64_w, i32_w]; rfl
    refine take_ (i := 4) (N := some 48) (v := ?_) (a' := ?_) #[true, true, true, true, true, false, false, false, false, false, false, false, false, false, false, false, false, false, false, false, false] rfl rfl (by kernel_rfl) (fun _ _ _ h => h) (Or.inl ⟨by rfl, ?_⟩) hHeld ?_ ?_
    rotate_left
    · (rintro w' ⟨s0, s1, s2⟩; go_simp; (try with_reducible rfl))
    rotate_left
    · simp only [Act.put, List.setIfInBounds_toArray, List.set_cons_zero, List.set_cons_succ, i64_w, i32_w]; rfl
    refine pure_ (i := 5) (N := some 49) (v := ?_) (a' := ?_) #[true, true, true, true, true, true, false, false, false, false, false, false, false, false, false, false, false, false, false, false, false] rfl rfl (by kernel_rfl) (fun _ _ _ h => h) (Or.inl ⟨by rfl, ?_⟩) ?_ ?_
    rotate_left
    · (intro w'; go_simp; (try with_reducible rfl))
    rotate_left
    · simp only [Act.put, List.setIfInBounds_toArray, List.set_cons_zero, List.set_cons_succ, i64_w, i32_w]; rfl
    refine pure_ (i := 6) (N := some 50) (v := ?_) (a' := ?_) #[true, true, true, true, true, true, true, false, false, false, false, false, false, false, false, false, false, false, false, false, false] rfl rfl (by kernel_rfl) (fun _ _ _ h => h) (Or.inl ⟨by rfl, ?_⟩) ?_ ?_
    rotate_left
    · (intro w'; go_simp; (try with_reducible rfl))
    rotate_left
    · simp only [Act.put, List.setIfInBounds_toArray, List.set_cons_zero, List.set_cons_succ, i64_w, i32_w]; rfl
    refine pure_ (i := 7) (N := some 51) (v := ?_) (a' := ?_) #[true, true, true, true, true, true, true, true, false, false, false, false, false, false, false, false, false, false, false, false, false] rfl rfl (by kernel_rfl) (fun _ _ _ h => h) (Or.inl ⟨by rfl, ?_⟩) ?_ ?_
    rotate_left
    · (intro w'; go_simp; (try with_reducible rfl))
    rotate_left
    · simp only [Act.put, List.setIfInBounds_toArray, List.set_cons_zero, List.set_cons_succ, i64_w, i32_w]; rfl
    refine pure_ (i := 8) (N := some 52) (v := undef) (a' := ?_) #[true, true, true, true, true, true, true, true, true, false, false, false, false, false, false, false, false, false, false, false, false] rfl rfl (by kernel_rfl) (fun _ _ _ h => h) (Or.inr ⟨by rfl, rfl⟩) ?_ ?_
    rotate_left
    · simp only [Act.put, List.setIfInBounds_toArray, List.set_cons_zero, List.set_cons_succ, i64_w, i32_w]; rfl
    refine pure_ (i := 9) (N := some 53) (v := undef) (a' := ?_) #[true, true, true, true, true, true, true, true, true, true, false, false, false, false, false, false, false, false, false, false, false] rfl rfl (by kernel_rfl) (fun _ _ _ h => h) (Or.inr ⟨by rfl, rfl⟩) ?_ ?_
    rotate_left
    · simp only [Act.put, List.setIfInBounds_toArray, List.set_cons_zero, List.set_cons_succ, i64_w, i32_w]; rfl
    refine pure_ (i := 10) (N := some 54) (v := undef) (a' := ?_) #[true, true, true, true, true, true, true, true, true, true, true, false, false, false, false, false, false, false, false, false, false] rfl rfl (by kernel_rfl) (fun _ _ _ h => h) (Or.inr ⟨by rfl, rfl⟩) ?_ ?_
    rotate_left
    · simp only [Act.put, List.setIfInBounds_toArray, List.set_cons_zero, List.set_cons_succ, i64_w, i32_w]; rfl
    refine pure_ (i := 11) (N := some 55) (v := undef) (a' := ?_) #[true, true, true, true, true, true, true, true, true, true, true, true, false, false, false, false, false, false, false, false, false] rfl rfl (by kernel_rfl) (fun _ _ _ h => h) (Or.inr ⟨by rfl, rfl⟩) ?_ ?_
    rotate_left
    · simp only [Act.put, List.setIfInBounds_toArray, List.set_cons_zero, List.set_cons_succ, i64_w, i32_w]; rfl
    refine pure_ (i := 12) (N := some 56) (v := undef) (a' := ?_) #[true, true, true, true, true, true, true, true, true, true, true, true, true, false, false, false, false, false, false, false, false] rfl rfl (by kernel_rfl) (fun _ _ _ h => h) (Or.inr ⟨by rfl, rfl⟩) ?_ ?_
    rotate_left
    · simp only [Act.put, List.setIfInBounds_toArray, List.set_cons_zero, List.set_cons_succ, i64_w, i32_w]; rfl
    refine pure_ (i := 13) (N := some 57) (v := undef) (a' := ?_) #[true, true, true, true, true, true, true, true, true, true, true, true, true, true, false, false, false, false, false, false, false] rfl rfl (by kernel_rfl) (fun _ _ _ h => h) (Or.inr ⟨by rfl, rfl⟩) ?_ ?_
    rotate_left
    · simp only [Act.put, List.setIfInBounds_toArray, List.set_cons_zero, List.set_cons_succ, i64_w, i32_w]; rfl
    refine pure_ (i := 14) (N := some 58) (v := undef) (a' := ?_) #[true, true, true, true, true, true, true, true, true, true, true, true, true, true, true, false, false, false, false, false, false] rfl rfl (by kernel_rfl) (fun _ _ _ h => h) (Or.inr ⟨by rfl, rfl⟩) ?_ ?_
    rotate_left
    · simp only [Act.put, List.setIfInBounds_toArray, List.set_cons_zero, List.set_cons_succ, i64_w, i32_w]; rfl
    refine pure_ (i := 15) (N := some 59) (v := undef) (a' := ?_) #[true, true, true, true, true, true, true, true, true, true, true, true, true, true, true, true, false, false, false, false, false] rfl rfl (by kernel_rfl) (fun _ _ _ h => h) (Or.inr ⟨by rfl, rfl⟩) ?_ ?_
    rotate_left
    · simp only [Act.put, List.setIfInBounds_toArray, List.set_cons_zero, List.set_cons_succ, i64_w, i32_w]; rfl
    refine pure_ (i := 16) (N := some 60) (v := undef) (a' := ?_) #[true, true, true, true, true, true, true, true, true, true, true, true, true, true, true, true, true, false, false, false, false] rfl rfl (by kernel_rfl) (fun _ _ _ h => h) (Or.inr ⟨by rfl, rfl⟩) ?_ ?_
    rotate_left
    · simp only [Act.put, List.setIfInBounds_toArray, List.set_cons_zero, List.set_cons_succ, i64_w, i32_w]; rfl
    refine pure_ (i := 17) (N := some 61) (v := ?_) (a' := ?_) #[true, true, true, true, true, true, true, true, true, true, true, true, true, true, true, true, true, true, false, false, false] rfl rfl (by kernel_rfl) (fun _ _ _ h => h) (Or.inl ⟨by rfl, ?_⟩) ?_ ?_
    rotate_left
    · (intro w'; go_simp; (try with_reducible rfl))
    rotate_left
    · simp only [Act.put, List.setIfInBounds_toArray, List.set_cons_zero, List.set_cons_succ, i64_w, i32_w]; rfl
    refine pure_ (i := 18) (N := some 62) (v := ?_) (a' := ?_) #[true, true, true, true, true, true, true, true, true, true, true, true, true, true, true, true, true, true, true, false, false] rfl rfl (by kernel_rfl) (fun _ _ _ h => h) (Or.inl ⟨by rfl, ?_⟩) ?_ ?_
    rotate_left
    · (intro w'; go_simp; (try with_reducible rfl))
    rotate_left
    · simp only [Act.put, List.setIfInBounds_toArray, List.set_cons_zero, List.set_cons_succ, i64_w, i32_w]; rfl
    refine pure_ (i := 19) (N := some 63) (v := ?_) (a' := ?_) #[true, true, true, true, true, true, true, true, true, true, true, true, true, true, true, true, true, true, true, true, false] rfl rfl (by kernel_rfl) (fun _ _ _ h => h) (Or.inl ⟨by rfl, ?_⟩) ?_ ?_
    rotate_left
    · (intro w'; go_simp; (try with_reducible rfl))
    rotate_left
    · simp only [Act.put, List.setIfInBounds_toArray, List.set_cons_zero, List.set_cons_succ, i64_w, i32_w]; rfl
    have f0 := (blk_cell Z4.out 0).trans rfl; have zf0 := blk_frozen Z4.out 0; have f1 := (blk_cell Z4.out 1).trans rfl; have zf1 := blk_frozen Z4.out 1
    refine last_ (i := 20) (N := none) #[true, true, true, true, true, true, true, true, true, true, true, true, true, true, true, true, true, true, true, true, true] rfl rfl (by kernel_rfl) (by decide) (fun K hK => ?_)
    rw [if_pos (by rfl)]
    go_simp
    refine hK.out _ _ ?_
    clear hK K
    refine done_ (by kernel_rfl) ?_
    refine bodyPost_end (results_none rfl _ _ _) rfl ⟨rfl, ?_⟩
    rw [h2, Bool.false_and]
    exact FIN.out _
end Go.Proofs.YtghabdpbacgicaaGreatDoor.G
