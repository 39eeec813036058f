/-
  CONTRACTS: a decimal as bytes (MarshalBinary).
-/
import Derived.Test.YtghabdpbacgicaaDoorGGob
import Derived.Deep.AppendSrc
import Derived.Laws.CopyOwn
namespace Go.Proofs.YtghabdpbacgicaaDoor.G
open Go.RowKit Go.Proofs.YtghabdpbacgicaaDoorW.PrintWords Go.Proofs.YtghabdpbacgicaaDoorW.PrintLast Go.Proofs.YtghabdpbacgicaaDoorW.PrintMore Go.Proofs.YtghabdpbacgicaaDoor.S
set_option linter.unusedVariables false
set_option linter.unusedSimpArgs false

/-- A row's block when its first four letters are written. -/
def put4 (cur : Array Value) (a b c d : Int) : Array Value := (((cur.setIfInBounds 0 (.int .u8 a)).setIfInBounds 1 (.int .u8 b)).setIfInBounds 2 (.int .u8 c)).setIfInBounds 3 (.int .u8 d)
theorem putU32_is (ws : World) (g cap n : Nat) (v : Int) (w : World) (hB : w.heap[g]? = some (.cells (Array.replicate cap (.int .u8 0)) 5 (0, 0))) (hc : 4 ≤ cap) (h0 : 0 ≤ v) (h1 : v < 4294967296) (hs : Below ws.heap.size ws w) (hg : ws.heap.size ≤ g) :
    Calls Tryd.prog 28 #[.agg #[], .slice (some ⟨g, 0, none⟩) 4 cap, .int .u32 v] w fun e w' => e = .returned (.tuple #[]) ∧ w'.heap[g]? = some (.cells (put4 (Array.replicate cap (.int .u8 0)) (v / 16777216 % 256) (v / 65536 % 256) (v / 256 % 256) (v % 256)) 5 (0, 0)) ∧ Below ws.heap.size ws w' ∧ (∀ k, k < w.heap.size → k ≠ g → w'.heap[k]? = w.heap[k]?) := by
  have HB := Aside0.mk hB
  have HS := Aside0.mk hs
  have HG := Aside0.mk hg
  have H0 := Aside0.mk (And.intro h0 h1)
  have HC := Aside0.mk hc
  clear hB hs hg h0 h1 hc
  have B1 := Aside0.mk (blk_alloc HB.out (.cells #[] 65))
  have hrep : ∀ j, j < 4 → (Array.replicate cap (Value.int .u8 0))[j]? = some (.int .u8 0) := fun j hj => by rw [Array.getElem?_replicate, if_pos (by have := HC.out; omega)]
  have c0 := (blk_cell B1.out 0).trans (hrep 0 (by omega))
  have c1 := (blk_cell B1.out 1).trans (hrep 1 (by omega))
  have c2 := (blk_cell B1.out 2).trans (hrep 2 (by omega))
  have c3 := (blk_cell B1.out 3).trans (hrep 3 (by omega))
  have z0 := blk_frozen B1.out 0
  have z1 := blk_frozen B1.out 1
  have z2 := blk_frozen B1.out 2
  have z3 := blk_frozen B1.out 3
  clear hrep
  go_enter Tryd.func28, Tryd.ntmps28
  go_wp2
  have hgl := blk_lt HB.out
  refine bodyPost_end (results_none rfl _ _ _) rfl ⟨rfl, ?_, ?_, fun k hk hkg => ?_⟩
  · exact blk_put (blk_put (blk_put (blk_put B1.out 0 _ rfl) 1 _ rfl) 2 _ rfl) 3 _ rfl
  · exact below_set (below_set (below_set (below_set (below_alloc HS.out _) HG.out) HG.out) HG.out) HG.out
  · rw [heap_setCell_other _ _ k _ hkg, heap_setCell_other _ _ k _ hkg, heap_setCell_other _ _ k _ hkg, heap_setCell_other _ _ k _ hkg]
    exact Below.heap_alloc w _ k hk
/-- The letters behind a slice's address. -/
theorem C_cells {w : World} {A : Option Addr} {xs : List Int} (h : Kd.C (Kd.int .u8) w A xs.length xs) (h0 : 0 < xs.length) : ∃ ad, A = some ad ∧ ∀ j x, xs[j]? = some x → w.cell? (ad.add j) = some (.int .u8 x) := by
  obtain ⟨_, _, h3⟩ := h
  obtain ⟨ad, rfl, h4⟩ := h3 h0
  refine ⟨ad, rfl, fun j x hx => ?_⟩
  obtain ⟨c, hc, hR, hcell⟩ := h4 j x hx
  have := hcell 0 (.int .u8 x) (by simp_all [Kd.int, Kd.scalar])
  simpa [Kd.int, Kd.scalar] using this
abbrev u8s (l : List Int) : List Value := l.map (fun x => Value.int .u8 x)
theorem load_u8 {w : World} {ad : Addr} {l : List Int} (h : ∀ j x, l[j]? = some x → w.cell? (ad.add j) = some (.int .u8 x)) : (loadCellsFrom ad 0 l.length #[]).run Tryd.prog w = .ok (u8s l).toArray w := by
  have h := run_loadCells_list (P := Tryd.prog) w ad (u8s l) (fun j v hv => by
    rw [List.getElem?_map] at hv
    obtain ⟨x, hx, rfl⟩ := Option.map_eq_some_iff.1 hv
    exact h j x hx)
  rw [List.length_map] at h
  exact h
/-- What MarshalBinary writes. -/
def marB (v : Int) (l : List Int) : List Int := v / 16777216 % 256 :: v / 65536 % 256 :: v / 256 % 256 :: v % 256 :: l
theorem put4_take (N : Nat) (a b c d : Int) : (put4 (Array.replicate (4 + N) (.int .u8 0)) a b c d).toList.take 4 = u8s [a, b, c, d] := by
  have h : Array.replicate (4 + N) (Value.int .u8 0) = (Value.int .u8 0 :: .int .u8 0 :: .int .u8 0 :: .int .u8 0 :: List.replicate N (.int .u8 0)).toArray := by
    rw [Nat.add_comm]
    simp [List.replicate_succ, ← List.toArray_replicate]
  rw [h]
  simp [put4]
theorem put4_size (N : Nat) (a b c d : Int) : (put4 (Array.replicate (4 + N) (.int .u8 0)) a b c d).size = 4 + N := by simp [put4]
theorem store_mar {w : World} {g : Nat} {v : Int} {l : List Int} (B : w.heap[g]? = some (.cells (put4 (Array.replicate (4 + l.length) (.int .u8 0)) (v / 16777216 % 256) (v / 65536 % 256) (v / 256 % 256) (v % 256)) 5 (0, 0))) : (storeCells ⟨g, 4, none⟩ (u8s l)).run Tryd.prog w = .ok () (w.setRow g (u8s (marB v l)).toArray) := by
  have h := run_storeCells_at (P := Tryd.prog) g 4 5 (u8s l) 0 _ w B (by rw [put4_size, List.length_map]; omega) (fun v hv => by
    obtain ⟨x, _, rfl⟩ := List.mem_map.1 hv
    rfl)
  rw [Nat.add_zero, put4_take, List.drop_eq_nil_of_le (by rw [Array.length_toList, put4_size, List.length_map]; omega), List.append_nil] at h
  exact h
set_option maxRecDepth 100000 in
theorem marshal_is (k : Nat) (bs g : Nat) (b : Bool) (l : List Int) (e v : Int) (i : Nat) (buf : List Int) (w : World) (hI : IntAt w bs g b l) (hl : l.length ≤ 1000) (h : bigall_nat_bytes.f k l (List.replicate (1 + l.length * 8) 0) = some ((i : Int), buf)) (hi0 : 1 ≤ i) (hi1 : i ≤ 1 + l.length * 8) (hbl : buf.length = 1 + l.length * 8) (hv : IntKind.u32.wrap e = v) (hv0 : 0 ≤ v) (hv1 : v < 4294967296) :
    Calls Tryd.prog 15 #[decP g e] w fun e' w' => ∃ gR, e' = .returned (.tuple #[.slice (some ⟨gR, 0, none⟩) (marB v (gobB b i buf)).length (marB v (gobB b i buf)).length, .nilIface]) ∧ w'.heap[gR]? = some (.cells (u8s (marB v (gobB b i buf))).toArray 5 (0, 0)) ∧ w.heap.size ≤ gR ∧ Below w.heap.size w w' := by
  have HG := Aside0.mk (fun w1 (hb : Below w.heap.size w w1) => gobEncode_is k bs g b l i buf w1 (hI.below hb) hl h hi0 hi1)
  have HB := Aside0.mk (Below.refl w.heap.size w)
  obtain ⟨G, hG⟩ : ∃ G, gobB b i buf = G := ⟨_, rfl⟩
  have HL := Aside0.mk (show 0 < G.length ∧ G.length ≤ 8001 by rw [← hG]; unfold gobB; rw [List.length_drop, List.length_set]; omega)
  have HV := Aside0.mk (And.intro hv0 hv1)
  rw [hG] at HG ⊢
  clear hI h hl hi0 hi1 hbl hG hv0 hv1
  go_enter Tryd.func15, Tryd.ntmps15
  go_wp2_with fail
  refine (getValue_is g e _).mono ?_
  rintro e' w2 ⟨rfl, hb⟩
  have HB1 := Aside0.mk (below_alloc HB.out (.cells #[.pointer (some ⟨g, 0, none⟩), .int .i32 e] 45))
  have B1 := Aside0.mk (blk_new w (.cells #[.pointer (some ⟨g, 0, none⟩), .int .i32 e] 45))
  have HB2 := Aside0.mk (below_step HB1.out hb)
  have B2 := Aside0.mk (blk_below B1.out hb)
  clear hb HB1 B1 HB
  go_wp2_with fail
  refine (HG.out _ HB2.out).mono ?_
  rintro e' w3 ⟨A, c, rfl, hc, hC, hb⟩
  have HB3 := Aside0.mk (below_step HB2.out hb)
  have B3 := Aside0.mk (blk_below B2.out hb)
  have HC := Aside0.mk hC
  have hw : wrap64 ((G.length : Int) + 4) = ((4 + G.length : Nat) : Int) := by have := HL.out; unfold wrap64; omega
  have hmk := fun w => make8_at 4 (4 + G.length) w (by omega) (by have := HL.out; omega)
  rw [← hw, show ((4 : Nat) : Int) = 4 from rfl] at hmk
  have HW := Aside0.mk hw
  obtain ⟨o, ho⟩ : ∃ o, Obj.cells (Array.replicate (4 + G.length) (.int .u8 0)) 5 = o := ⟨_, rfl⟩
  rw [ho] at hmk
  have HO := Aside0.mk ho
  have B4 := Aside0.mk (blk_alloc B3.out o)
  have c0 := (blk_cell B4.out 0).trans rfl; have zc0 := blk_frozen B4.out 0; have c1 := (blk_cell B4.out 1).trans rfl; have zc1 := blk_frozen B4.out 1
  clear hb hC hw ho HB2 B2 B3 HG
  go_wp2_with fail
  refine (putU32_is w w3.heap.size (4 + G.length) G.length v _ (by have := blk_new w3 o; rw [← HO.out] at this ⊢; exact this) (Nat.le_add_right _ _) HV.out.1 HV.out.2 (below_alloc HB3.out o) HB3.out.size).mono ?_
  rintro e' w4 ⟨rfl, hr, hb, hk⟩
  obtain ⟨ad, rfl, hcell⟩ := C_cells HC.out HL.out.1
  have hcell4 : ∀ j x, G[j]? = some x → w4.cell? (ad.add j) = some (.int .u8 x) := fun j x hx => by
    have h3 := hcell j x hx
    have hlt := World.block_lt_of_cell? w3 _ h3
    rw [World.cell?_of_block (w := w3) ((hk _ (by have := (below_alloc (Below.refl w3.heap.size w3) o).size; omega) (by omega)).trans (Below.heap_alloc w3 o _ hlt))]
    exact h3
  have hld := load_u8 hcell4
  have hst := store_mar hr
  have B5 := setRow_heap w4 w3.heap.size _ (u8s (marB v G)).toArray 5 (0, 0) hr
  have HR := Aside0.mk B5
  have HS := Aside0.mk HB3.out.size
  have HBE := Aside0.mk (below_setRow hb HB3.out.size (u8s (marB v G)).toArray)
  have HLm := Aside0.mk (show 4 + G.length = (marB v G).length by simp [marB]; omega)
  clear hb hk hr hcell hcell4 B5 HC HB3 B4 c0 c1 zc0 zc1
  go_wp2_with fail
  exact bodyPost_ret (v := .tuple #[.slice (some ⟨w3.heap.size, 0, none⟩) (4 + G.length) (4 + G.length), .nilIface]) (by simp [results, Tryd.results15, go_sem]) rfl ⟨_, by rw [HLm.out], HR.out, HS.out, HBE.out⟩
end Go.Proofs.YtghabdpbacgicaaDoor.G
