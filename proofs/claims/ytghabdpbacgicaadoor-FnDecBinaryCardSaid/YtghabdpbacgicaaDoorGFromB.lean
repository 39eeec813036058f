/-
  CONTRACTS: bytes read back as a decimal (Uint32, GobDecode, UnmarshalBinary).
-/
import Derived.Test.YtghabdpbacgicaaDoorGMar
import Derived.Test.YtghabdpbacgicaaDoorGSB
namespace Go.Proofs.YtghabdpbacgicaaDoor.G
open Go.RowKit Go.Proofs.YtghabdpbacgicaaDoorW.PrintWords Go.Proofs.YtghabdpbacgicaaDoorW.PrintLast Go.Proofs.YtghabdpbacgicaaDoorW.PrintMore Go.Proofs.YtghabdpbacgicaaDoor.S
set_option linter.unusedVariables false
set_option linter.unusedSimpArgs false

/-- Four letters as a number. -/
def ub4 (a b c d : Int) : Int := Go.bits .or .u32 (Go.bits .or .u32 (Go.bits .or .u32 (d % 4294967296) (c % 4294967296 * 256 % 4294967296)) (b % 4294967296 * 65536 % 4294967296)) (a % 4294967296 * 16777216 % 4294967296)
set_option maxRecDepth 100000 in
theorem uint32_is (gR cap : Nat) (a b c d : Int) (l : List Int) (w : World) (hB : w.heap[gR]? = some (.cells (u8s (a :: b :: c :: d :: l)).toArray 5 (0, 0))) (hc : 4 ≤ cap) :
    Calls Tryd.prog 30 #[.agg #[], .slice (some ⟨gR, 0, none⟩) 4 cap] w fun e w' => e = .returned (.int .u32 (ub4 a b c d)) ∧ Below w.heap.size w w' := by
  have HB := Aside0.mk (Below.refl w.heap.size w)
  have B1 := Aside0.mk (blk_alloc hB (.cells #[] 65))
  have c0 := (blk_cell B1.out 0).trans rfl; have zc0 := blk_frozen B1.out 0; have c1 := (blk_cell B1.out 1).trans rfl; have zc1 := blk_frozen B1.out 1; have c2 := (blk_cell B1.out 2).trans rfl; have zc2 := blk_frozen B1.out 2; have c3 := (blk_cell B1.out 3).trans rfl; have zc3 := blk_frozen B1.out 3
  clear hB
  go_enter Tryd.func30, Tryd.ntmps30
  go_wp2
  repeat (go_quiet (fail); try go_wp2)
  exact bodyPost_ret (v := .int .u32 (ub4 a b c d)) (by simp [results, Tryd.results30, go_sem, ub4]) rfl ⟨rfl, pw_below_drewN (below_alloc HB.out _) _⟩
/-- The letters behind the first j ones, in whatever world holds the row. -/
theorem row_C {w : World} {gR : Nat} {M : List Int} (j : Nat) (hB : w.heap[gR]? = some (.cells (u8s M).toArray 5 (0, 0))) (hl : M.length ≤ maxLen) : Kd.C (Kd.int .u8) w (some ⟨gR, j, none⟩) (M.drop j).length (M.drop j) := by
  have hr := R_row .u8 5 gR gR M.length (u8s M).toArray M w (fun k => k = gR) hB (Nat.le_refl _) (Nat.le_refl _) hl (by simp) (List.take_of_length_le (by simp)) rfl
  have h := C_drop j (Kd.R_reads' hr).2.2
  rw [Nat.zero_add] at h
  exact h
theorem C_nil (w : World) (A : Option Addr) : Kd.C (Kd.int .u8) w A 0 [] := ⟨rfl, by simp, fun hp => absurd hp (Nat.lt_irrefl _)⟩
theorem keepB {w w1 : World} {g : Nat} {u v : Value} (hb : Below w.heap.size w w1) (h : w.heap[g]? = some (.cells #[u, v] 73 (0, 0))) : w1.cell? ⟨g, 1, none⟩ = some v := (blk_cell (blk_below h hb) 1).trans rfl
set_option maxRecDepth 100000 in
theorem gobDecode_is (k : Nat) (ws : World) (g gR : Nat) (b : Bool) (a0 a1 a2 a3 sb : Int) (T l : List Int) (w : World) (hg : w.heap[g]? = some (.cells #[.bool false, .slice none 0 0] 73 (0, 0))) (hR : w.heap[gR]? = some (.cells (u8s (a0 :: a1 :: a2 :: a3 :: sb :: T)).toArray 5 (0, 0))) (hne : gR ≠ g)
    (hl : T.length ≤ 10000) (hs : sb = if b then 3 else 2) (hb : Below ws.heap.size ws w) (hbg : ws.heap.size ≤ g) (h : bigall_nat_setBytes.f k [] T = some l) :
    Calls Tryd.prog 31 #[.pointer (some ⟨g, 0, none⟩), .slice (some ⟨gR, 4, none⟩) (T.length + 1) (T.length + 1)] w fun e w' => e = .returned .nilIface ∧ IntAt w' w.heap.size g b l ∧ Below ws.heap.size ws w' ∧ (∀ j, j < w.heap.size → j ≠ g → w'.heap[j]? = w.heap[j]?) := by
  have HR := Aside0.mk hR
  have HN := Aside0.mk hne
  obtain ⟨i06, hi06, _, hsz6, _⟩ := info_parts tinfo_u8
  obtain ⟨A5, hcut, hA5, hC5⟩ := print_drop_of (P := Tryd.prog) (Value.int .u8) 0 34 5 .i64 Tryd.underlying34 hi06 hsz6 (some ⟨gR, 4, none⟩) (T.length + 1) (sb :: T) 1 (by omega) (by rw [List.length_cons]; omega) (by simp)
  have HT := Aside0.mk (fun (w1 : World) (hR : w1.heap[gR]? = some (.cells (u8s (a0 :: a1 :: a2 :: a3 :: sb :: T)).toArray 5 (0, 0))) => Kd.C_of_reads (h1 := fun _ => rfl) (hA5 _ (Kd.reads_of_C (row_C 4 hR (by unfold maxLen; simp; omega)))))
  replace hcut : ∀ W : World, (Instr.slice 34 (.slice (some ⟨gR, 4, none⟩) (T.length + 1) (T.length + 1)) (some (.int .i64 1)) none none).run Tryd.prog W = .ok (.slice A5 T.length T.length) W := fun W => (hcut W).trans (by simp)
  clear hA5 hC5 hi06 hsz6
  have HF := Aside0.mk h
  have HB := Aside0.mk hb
  have HG := Aside0.mk hbg
  have B1 := Aside0.mk hg
  have e0 := (blk_cell hR 4).trans rfl
  have ez := blk_frozen hR 4
  have c0 := (blk_cell B1.out 0).trans rfl; have zc0 := blk_frozen B1.out 0; have c1 := (blk_cell B1.out 1).trans rfl; have zc1 := blk_frozen B1.out 1
  clear hg hR hne h hb hbg hl
  obtain ⟨n, hn⟩ : ∃ n, T.length = n := ⟨_, rfl⟩
  have HNn := Aside0.mk hn
  rw [hn] at hcut ⊢
  clear hn
  go_enter Tryd.func31, Tryd.ntmps31
  cases b with
  | true =>
    subst hs
    have hand : Go.bits .and .u8 3 1 = 1 := by decide
    have hC : Kd.C (Kd.int .u8) (w.setCell ⟨g, 0, none⟩ (.bool true)).drew A5 T.length T := HT.out _ (blk_drew (blk_far (p := ⟨g, 0, none⟩) HR.out HN.out (.bool true)))
    have HCall := Aside0.mk (bigall_nat_setBytes.calls k [] A5 T.length T l _ hC (Nat.le_refl _) HF.out)
    rw [HNn.out] at HCall
    have B2 := Aside0.mk (blk_put (cs' := #[.bool true, .slice none 0 0]) B1.out 0 (.bool true) rfl)
    have HK := Aside0.mk (fun j (h : j ≠ g) => heap_setCell_other w ⟨g, 0, none⟩ j (.bool true) h)
    have HB2 := Aside0.mk (below_drew (below_set (j := 0) (v := .bool true) HB.out HG.out))
    go_wp2_with fail
    have d1 := (blk_cell (blk_drew B2.out) 1).trans rfl
    clear c0 c1 hC
    refine start_ (n := 11) (S := fun w' => w'.cell? ⟨g, 1, none⟩ = some (.slice none 0 0)) (ds := [10]) #[false, false, false, false, false, false, false, false, false, false, false] (by kernel_rfl) rfl rfl d1 (fun hHeld => ?_)
    refine pure_ (i := 0) (N := some 25) (v := ?_) (a' := ?_) #[true, false, false, false, false, false, false, false, false, false, false] rfl rfl (by kernel_rfl) (fun _ _ _ h => h) (Or.inl ⟨by rfl, ?_⟩) ?_ ?_
    rotate_left
    · (intro w'; go_simp; (try with_reducible rfl))
    rotate_left
    · simp only [Act.put, List.setIfInBounds_toArray, List.set_cons_zero, List.set_cons_succ, i64_w, i32_w]; rfl
    refine pure_ (i := 1) (N := some 26) (v := ?_) (a' := ?_) #[true, true, false, false, false, false, false, false, false, false, false] rfl rfl (by kernel_rfl) (fun _ _ _ h => h) (Or.inl ⟨by rfl, ?_⟩) ?_ ?_
    rotate_left
    · (intro w'; go_simp; (try with_reducible rfl))
    rotate_left
    · simp only [Act.put, List.setIfInBounds_toArray, List.set_cons_zero, List.set_cons_succ, i64_w, i32_w]; rfl
    refine pure_ (i := 2) (N := some 27) (v := ?_) (a' := ?_) #[true, true, true, false, false, false, false, false, false, false, false] rfl rfl (by kernel_rfl) (fun _ _ _ h => h) (Or.inl ⟨by rfl, ?_⟩) ?_ ?_
    rotate_left
    · (intro w'; go_simp; (try with_reducible rfl))
    rotate_left
    · simp only [Act.put, List.setIfInBounds_toArray, List.set_cons_zero, List.set_cons_succ, i64_w, i32_w]; rfl
    refine pure_ (i := 3) (N := some 28) (v := ?_) (a' := ?_) #[true, true, true, true, false, false, false, false, false, false, false] rfl rfl (by kernel_rfl) (fun _ _ _ h => h) (Or.inl ⟨by rfl, ?_⟩) ?_ ?_
    rotate_left
    · (intro w'; go_simp; (try with_reducible rfl))
    rotate_left
    · simp only [Act.put, List.setIfInBounds_toArray, List.set_cons_zero, List.set_cons_succ, i64_w, i32_w]; rfl
    refine take_ (i := 4) (N := some 29) (v := ?_) (a' := ?_) #[true, true, true, true, true, false, false, false, false, false, false] rfl rfl (by kernel_rfl) (fun _ _ _ h => h) (Or.inl ⟨by rfl, ?_⟩) hHeld ?_ ?_
    rotate_left
    · (rintro w' s0; go_simp; (try with_reducible rfl))
    rotate_left
    · simp only [Act.put, List.setIfInBounds_toArray, List.set_cons_zero, List.set_cons_succ, i64_w, i32_w]; rfl
    refine pure_ (i := 5) (N := some 30) (v := ?_) (a' := ?_) #[true, true, true, true, true, true, false, false, false, false, false] rfl rfl (by kernel_rfl) (fun _ _ _ h => h) (Or.inl ⟨by rfl, ?_⟩) ?_ ?_
    rotate_left
    · (intro w'; go_simp; (try with_reducible rfl))
    rotate_left
    · simp only [Act.put, List.setIfInBounds_toArray, List.set_cons_zero, List.set_cons_succ, i64_w, i32_w]; rfl
    refine pure_ (i := 6) (N := some 31) (v := ?_) (a' := ?_) #[true, true, true, true, true, true, true, false, false, false, false] rfl rfl (by kernel_rfl) (fun _ _ _ h => h) (Or.inl ⟨by rfl, ?_⟩) ?_ ?_
    rotate_left
    · (intro w'; go_simp; (try with_reducible rfl))
    rotate_left
    · simp only [Act.put, List.setIfInBounds_toArray, List.set_cons_zero, List.set_cons_succ, i64_w, i32_w]; rfl
    refine one_ (i := 7) (N := some 32) #[true, true, true, true, true, true, true, true, false, false, false] rfl rfl (by kernel_rfl) (by decide) (fun K hK => ?_)
    refine goes_ Tryd.func42 (by kernel_rfl) rfl #[.slice none 0 0, .slice A5 n n] (by rfl) rfl rfl (by (try simp only [List.map_toArray, List.map_cons, List.map_nil]); first | done | rfl) ?_
    refine HCall.out.mono ?_
    rintro e w2 ⟨v0, rfl, hV, hb⟩
    obtain ⟨A', c', ev⟩ := Kd.V_slice hV
    subst ev
    refine ⟨_, rfl, ?_⟩
    have B3 := Aside0.mk (blk_below (blk_drew B2.out) hb)
    have HV := Aside0.mk hV
    have HBs := Aside0.mk hb
    refine hK.out _ _ ((blk_cell B3.out 1).trans rfl) (fun hHeld => ?_)
    clear hK K hV hb d1
    refine norm_ (a' := ?_) ?_ ?_
    rotate_left
    · show Act.put _ (some 32) _ = _
      simp only [Act.put, List.setIfInBounds_toArray, List.set_cons_zero, List.set_cons_succ, i64_w, i32_w]; rfl
    refine pure_ (i := 8) (N := some 33) (v := ?_) (a' := ?_) #[true, true, true, true, true, true, true, true, true, false, false] rfl rfl (by kernel_rfl) (fun _ _ _ h => h) (Or.inl ⟨by rfl, ?_⟩) ?_ ?_
    rotate_left
    · (intro w'; go_simp; (try with_reducible rfl))
    rotate_left
    · simp only [Act.put, List.setIfInBounds_toArray, List.set_cons_zero, List.set_cons_succ, i64_w, i32_w]; rfl
    refine pure_ (i := 9) (N := some 34) (v := ?_) (a' := ?_) #[true, true, true, true, true, true, true, true, true, true, false] rfl rfl (by kernel_rfl) (fun _ _ _ h => h) (Or.inl ⟨by rfl, ?_⟩) ?_ ?_
    rotate_left
    · (intro w'; go_simp; (try with_reducible rfl))
    rotate_left
    · simp only [Act.put, List.setIfInBounds_toArray, List.set_cons_zero, List.set_cons_succ, i64_w, i32_w]; rfl
    have f0 := (blk_cell B3.out 0).trans rfl; have zf0 := blk_frozen B3.out 0; have f1 := (blk_cell B3.out 1).trans rfl; have zf1 := blk_frozen B3.out 1
    refine last_ (i := 10) (N := none) #[true, true, true, true, true, true, true, true, true, true, true] rfl rfl (by kernel_rfl) (by decide) (fun K hK => ?_)
    rw [if_pos (by rfl)]
    go_simp
    refine hK.out _ _ ?_
    clear hK K
    refine done_ (by kernel_rfl) ?_
    go_wp2_with fail
    have hsz : (w.setCell ⟨g, 0, none⟩ (.bool true)).drew.heap.size = w.heap.size := by show (w.setCell ⟨g, 0, none⟩ (.bool true)).heap.size = _; simp
    have hgl := blk_lt B1.out
    refine bodyPost_ret (v := .nilIface) (by simp [results, Tryd.results31, go_sem]) rfl ⟨rfl, ⟨A', c', ?_, ?_⟩, ?_, fun j hj hjg => ?_⟩
    · exact blk_put B3.out 1 _ rfl
    · exact Kd.V_mono (Kd.V_lower (Kd.V_far (p := ⟨g, 1, none⟩) HV.out (fun k hk => by rw [hsz] at hk; show k ≠ g; omega) _) (Nat.zero_le _)) (fun k hk => by rw [hsz] at hk; exact ⟨by omega, hk⟩)
    · exact below_set (below_step HB2.out HBs.out) HG.out
    · exact (heap_setCell_other _ _ j _ hjg).trans ((HBs.out.block j (by rw [hsz]; exact hj)).trans (HK.out j hjg))
  | false =>
    subst hs
    have hand : Go.bits .and .u8 2 1 = 0 := by decide
    have hC : Kd.C (Kd.int .u8) (w.setCell ⟨g, 0, none⟩ (.bool false)).drew A5 T.length T := HT.out _ (blk_drew (blk_far (p := ⟨g, 0, none⟩) HR.out HN.out (.bool false)))
    have HCall := Aside0.mk (bigall_nat_setBytes.calls k [] A5 T.length T l _ hC (Nat.le_refl _) HF.out)
    rw [HNn.out] at HCall
    have B2 := Aside0.mk (blk_put (cs' := #[.bool false, .slice none 0 0]) B1.out 0 (.bool false) rfl)
    have HK := Aside0.mk (fun j (h : j ≠ g) => heap_setCell_other w ⟨g, 0, none⟩ j (.bool false) h)
    have HB2 := Aside0.mk (below_drew (below_set (j := 0) (v := .bool false) HB.out HG.out))
    go_wp2_with fail
    have d1 := (blk_cell (blk_drew B2.out) 1).trans rfl
    clear c0 c1 hC
    refine start_ (n := 11) (S := fun w' => w'.cell? ⟨g, 1, none⟩ = some (.slice none 0 0)) (ds := [10]) #[false, false, false, false, false, false, false, false, false, false, false] (by kernel_rfl) rfl rfl d1 (fun hHeld => ?_)
    refine pure_ (i := 0) (N := some 25) (v := ?_) (a' := ?_) #[true, false, false, false, false, false, false, false, false, false, false] rfl rfl (by kernel_rfl) (fun _ _ _ h => h) (Or.inl ⟨by rfl, ?_⟩) ?_ ?_
    rotate_left
    · (intro w'; go_simp; (try with_reducible rfl))
    rotate_left
    · simp only [Act.put, List.setIfInBounds_toArray, List.set_cons_zero, List.set_cons_succ, i64_w, i32_w]; rfl
    refine pure_ (i := 1) (N := some 26) (v := ?_) (a' := ?_) #[true, true, false, false, false, false, false, false, false, false, false] rfl rfl (by kernel_rfl) (fun _ _ _ h => h) (Or.inl ⟨by rfl, ?_⟩) ?_ ?_
    rotate_left
    · (intro w'; go_simp; (try with_reducible rfl))
    rotate_left
    · simp only [Act.put, List.setIfInBounds_toArray, List.set_cons_zero, List.set_cons_succ, i64_w, i32_w]; rfl
    refine pure_ (i := 2) (N := some 27) (v := ?_) (a' := ?_) #[true, true, true, false, false, false, false, false, false, false, false] rfl rfl (by kernel_rfl) (fun _ _ _ h => h) (Or.inl ⟨by rfl, ?_⟩) ?_ ?_
    rotate_left
    · (intro w'; go_simp; (try with_reducible rfl))
    rotate_left
    · simp only [Act.put, List.setIfInBounds_toArray, List.set_cons_zero, List.set_cons_succ, i64_w, i32_w]; rfl
    refine pure_ (i := 3) (N := some 28) (v := ?_) (a' := ?_) #[true, true, true, true, false, false, false, false, false, false, false] rfl rfl (by kernel_rfl) (fun _ _ _ h => h) (Or.inl ⟨by rfl, ?_⟩) ?_ ?_
    rotate_left
    · (intro w'; go_simp; (try with_reducible rfl))
    rotate_left
    · simp only [Act.put, List.setIfInBounds_toArray, List.set_cons_zero, List.set_cons_succ, i64_w, i32_w]; rfl
    refine take_ (i := 4) (N := some 29) (v := ?_) (a' := ?_) #[true, true, true, true, true, false, false, false, false, false, false] rfl rfl (by kernel_rfl) (fun _ _ _ h => h) (Or.inl ⟨by rfl, ?_⟩) hHeld ?_ ?_
    rotate_left
    · (rintro w' s0; go_simp; (try with_reducible rfl))
    rotate_left
    · simp only [Act.put, List.setIfInBounds_toArray, List.set_cons_zero, List.set_cons_succ, i64_w, i32_w]; rfl
    refine pure_ (i := 5) (N := some 30) (v := ?_) (a' := ?_) #[true, true, true, true, true, true, false, false, false, false, false] rfl rfl (by kernel_rfl) (fun _ _ _ h => h) (Or.inl ⟨by rfl, ?_⟩) ?_ ?_
    rotate_left
    · (intro w'; go_simp; (try with_reducible rfl))
    rotate_left
    · simp only [Act.put, List.setIfInBounds_toArray, List.set_cons_zero, List.set_cons_succ, i64_w, i32_w]; rfl
    refine pure_ (i := 6) (N := some 31) (v := ?_) (a' := ?_) #[true, true, true, true, true, true, true, false, false, false, false] rfl rfl (by kernel_rfl) (fun _ _ _ h => h) (Or.inl ⟨by rfl, ?_⟩) ?_ ?_
    rotate_left
    · (intro w'; go_simp; (try with_reducible rfl))
    rotate_left
    · simp only [Act.put, List.setIfInBounds_toArray, List.set_cons_zero, List.set_cons_succ, i64_w, i32_w]; rfl
    refine one_ (i := 7) (N := some 32) #[true, true, true, true, true, true, true, true, false, false, false] rfl rfl (by kernel_rfl) (by decide) (fun K hK => ?_)
    refine goes_ Tryd.func42 (by kernel_rfl) rfl #[.slice none 0 0, .slice A5 n n] (by rfl) rfl rfl (by (try simp only [List.map_toArray, List.map_cons, List.map_nil]); first | done | rfl) ?_
    refine HCall.out.mono ?_
    rintro e w2 ⟨v0, rfl, hV, hb⟩
    obtain ⟨A', c', ev⟩ := Kd.V_slice hV
    subst ev
    refine ⟨_, rfl, ?_⟩
    have B3 := Aside0.mk (blk_below (blk_drew B2.out) hb)
    have HV := Aside0.mk hV
    have HBs := Aside0.mk hb
    refine hK.out _ _ ((blk_cell B3.out 1).trans rfl) (fun hHeld => ?_)
    clear hK K hV hb d1
    refine norm_ (a' := ?_) ?_ ?_
    rotate_left
    · show Act.put _ (some 32) _ = _
      simp only [Act.put, List.setIfInBounds_toArray, List.set_cons_zero, List.set_cons_succ, i64_w, i32_w]; rfl
    refine pure_ (i := 8) (N := some 33) (v := ?_) (a' := ?_) #[true, true, true, true, true, true, true, true, true, false, false] rfl rfl (by kernel_rfl) (fun _ _ _ h => h) (Or.inl ⟨by rfl, ?_⟩) ?_ ?_
    rotate_left
    · (intro w'; go_simp; (try with_reducible rfl))
    rotate_left
    · simp only [Act.put, List.setIfInBounds_toArray, List.set_cons_zero, List.set_cons_succ, i64_w, i32_w]; rfl
    refine pure_ (i := 9) (N := some 34) (v := ?_) (a' := ?_) #[true, true, true, true, true, true, true, true, true, true, false] rfl rfl (by kernel_rfl) (fun _ _ _ h => h) (Or.inl ⟨by rfl, ?_⟩) ?_ ?_
    rotate_left
    · (intro w'; go_simp; (try with_reducible rfl))
    rotate_left
    · simp only [Act.put, List.setIfInBounds_toArray, List.set_cons_zero, List.set_cons_succ, i64_w, i32_w]; rfl
    have f0 := (blk_cell B3.out 0).trans rfl; have zf0 := blk_frozen B3.out 0; have f1 := (blk_cell B3.out 1).trans rfl; have zf1 := blk_frozen B3.out 1
    refine last_ (i := 10) (N := none) #[true, true, true, true, true, true, true, true, true, true, true] rfl rfl (by kernel_rfl) (by decide) (fun K hK => ?_)
    rw [if_pos (by rfl)]
    go_simp
    refine hK.out _ _ ?_
    clear hK K
    refine done_ (by kernel_rfl) ?_
    go_wp2_with fail
    have hsz : (w.setCell ⟨g, 0, none⟩ (.bool false)).drew.heap.size = w.heap.size := by show (w.setCell ⟨g, 0, none⟩ (.bool false)).heap.size = _; simp
    have hgl := blk_lt B1.out
    refine bodyPost_ret (v := .nilIface) (by simp [results, Tryd.results31, go_sem]) rfl ⟨rfl, ⟨A', c', ?_, ?_⟩, ?_, fun j hj hjg => ?_⟩
    · exact blk_put B3.out 1 _ rfl
    · exact Kd.V_mono (Kd.V_lower (Kd.V_far (p := ⟨g, 1, none⟩) HV.out (fun k hk => by rw [hsz] at hk; show k ≠ g; omega) _) (Nat.zero_le _)) (fun k hk => by rw [hsz] at hk; exact ⟨by omega, hk⟩)
    · exact below_set (below_step HB2.out HBs.out) HG.out
    · exact (heap_setCell_other _ _ j _ hjg).trans ((HBs.out.block j (by rw [hsz]; exact hj)).trans (HK.out j hjg))
end Go.Proofs.YtghabdpbacgicaaDoor.G
