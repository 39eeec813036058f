/-
  THE WALK of the package's text of a decimal.
-/
import Derived.Test.YtcgdphciepdkiaaDoorGMake
import Derived.Test.YtcgdphciepdkiaaDoorLmT
import Derived.Deep.AppendSrc
import Derived.Laws.CopyOwn
import Derived.Deep.LoopGhost
import Derived.Outline
namespace Go.Proofs.YtcgdphciepdkiaaDoor.G
open Go.RowKit Go.Proofs.YtcgdphciepdkiaaDoorW.PrintWords Go.Proofs.YtcgdphciepdkiaaDoorW.PrintLast Go.Proofs.YtcgdphciepdkiaaDoorW.PrintMore Go.Proofs.YtcgdphciepdkiaaDoor.S Go.Proofs.YtcgdphciepdkiaaDoor.Lm
set_option linter.unusedVariables false
set_option linter.unusedSimpArgs false

theorem tscale_is (neg : Bool) (s c : Int) (w : World) (h0 : 0 ≤ s) (h9 : s ≤ 127) : Calls Tryd.prog 57 #[decG neg s c] w fun e w' => e = .returned (.int .i64 s) ∧ Below w.heap.size w w' :=
  govalues_Decimal_Scale.calls neg s c _ w (by unfold govalues_Decimal_Scale.f; rw [w64 (by omega) (by omega)])
theorem tcoef_is (neg : Bool) (s c : Int) (w : World) : Calls Tryd.prog 56 #[decG neg s c] w fun e w' => e = .returned (.int .u64 c) ∧ Below w.heap.size w w' :=
  govalues_Decimal_Coef.calls neg s c _ w (by unfold govalues_Decimal_Coef.f; rfl)
theorem tneg_is (neg : Bool) (s c : Int) (w : World) : Calls Tryd.prog 55 #[decG neg s c] w fun e w' => e = .returned (.bool neg) ∧ Below w.heap.size w w' :=
  govalues_Decimal_IsNeg.calls neg s c _ w (by unfold govalues_Decimal_IsNeg.f; rfl)
theorem buf_step {w : World} {g p : Nat} {t : TypeId} {l : List Int} {x y : Int} (B : w.heap[g]? = some (.cells (bufC l) t (0, 0))) (hp : p + l.length = 23) (hx : y = x) : (w.setCell ⟨g, p, none⟩ (.int .u8 y)).heap[g]? = some (.cells (bufC (x :: l)) t (0, 0)) := by
  subst hx
  exact blk_put B p _ (bufC_put l p y hp)
theorem slice_at (g : Nat) (W : World) (X : Int) (lo : Nat) (h : X = (lo : Int)) (hl : lo < 24) : (Instr.sliceAt 110 (.pointer (some ⟨g, 0, none⟩)) (some (.int .i64 X)) none none).run Tryd.prog W = .ok (.slice (some ⟨g, lo, none⟩) (24 - lo) (24 - lo)) W := by
  subst h
  have h110 := Tryd.underlying110
  have hal : Tryd.prog.arrayLen 110 = 24 := by simp [Program.arrayLen, h110]
  rw [run_sliceAt_array_l W 110 ⟨g, 0, none⟩ (by simp [Program.arrayLen, Program.elem, h110]) .i64 (lo : Int) (by omega) (by rw [hal]; omega)]
  have h5 : Tryd.prog.elem 110 = 5 := by simp [Program.elem, h110]
  rw [hal, h5]
  have h24 : ¬ 24 = lo := by omega
  have hs5 : (sizeOf 5).run Tryd.prog W = .ok 1 W := by kernel_rfl
  rw [hs5]
  have h24' : ¬ lo = 24 := by omega
  by_cases hz : lo = 0
  · subst hz; simp [go_sem, Addr.add]
  · simp [go_sem, h24, h24', Addr.add, hz]
abbrev u8s (l : List Int) : List Value := l.map (fun x => Value.int .u8 x)
theorem load_txt {w : World} {g p N : Nat} {t : TypeId} {l : List Int} (B : w.heap[g]? = some (.cells (bufC l) t (0, 0))) (hp : p + l.length = 24) (hN : N = l.length) : (loadCellsFrom ⟨g, p, none⟩ 0 N #[]).run Tryd.prog w = .ok (u8s l).toArray w := by
  subst hN
  have h := run_loadCells_list (P := Tryd.prog) w ⟨g, p, none⟩ (u8s l) (fun j v hv => by
    rw [List.getElem?_map] at hv
    obtain ⟨x, hx, rfl⟩ := Option.map_eq_some_iff.1 hv
    have ha : (⟨g, p, none⟩ : Addr).add j = ⟨g, p + j, none⟩ := by unfold Addr.add; split <;> simp_all
    rw [ha]
    have hb := bufC_get l j x (by omega) hx
    rw [show 24 - l.length = p by omega] at hb
    exact (blk_cell B _).trans hb)
  rw [List.length_map] at h
  exact h
def rowT (l : List Int) : Array Value := (u8s l ++ (bufC []).toList.drop l.length).toArray
theorem store_txt {w : World} {g : Nat} {t : TypeId} {l : List Int} (B : w.heap[g]? = some (.cells (bufC []) t (0, 0))) (h : l.length ≤ 24) : (storeCells ⟨g, 0, none⟩ (u8s l)).run Tryd.prog w = .ok () (w.setRow g (rowT l)) := by
  have h := run_storeCells_at (P := Tryd.prog) g 0 t (u8s l) 0 (bufC []) w B (by rw [bufC_size _ (by simp), List.length_map]; omega) (fun v hv => by
    obtain ⟨x, _, rfl⟩ := List.mem_map.1 hv
    rfl)
  rw [List.length_map] at h
  simpa [rowT] using h
theorem rowT_get {l : List Int} {i : Nat} {x : Int} (h : l[i]? = some x) : (rowT l)[i]? = some (.int .u8 x) := by
  unfold rowT
  have hl : i < l.length := (List.getElem?_eq_some_iff.1 h).1
  rw [List.getElem?_toArray, List.getElem?_append_left (by rw [List.length_map]; exact hl), List.getElem?_map, h]; rfl
/-- Where the loop stands behind k digits. -/
def LoopI (neg : Bool) (n s g1 g2 gT : Nat) (w : World) (kq : Nat) (v6 v7 v8 : Value) (w' : World) : Prop := ∃ (k : Nat) (a b d : Int), v6 = .int .i64 a ∧ v7 = .int .u64 b ∧ v8 = .int .i64 d ∧ Aside0 (a + ((tx n s k).length : Int) = 23 ∧ b = ((n / 10 ^ k : Nat) : Int) ∧ d = ((s - k : Nat) : Int) ∧ More n s k ∧ k + kq = 21) ∧
  Aside0 (w'.heap[g2]? = some (.cells (bufC (tx n s k)) 110 (0, 0))) ∧ Aside0 (w'.heap[gT]? = some (.cells (bufC []) 5 (0, 0))) ∧ Aside0 (w'.heap[g1]? = some (.cells #[.bool neg, .int .i8 (s : Int), .int .u64 (n : Int)] 64 (0, 0))) ∧ Aside0 (Below w.heap.size w w')
set_option maxHeartbeats 2000000 in
set_option maxRecDepth 100000 in
theorem append_is (neg : Bool) (n s : Nat) (gT : Nat) (w : World) (hn : n < 10 ^ 19) (hs : s ≤ 19) (hT : w.heap[gT]? = some (.cells (bufC []) 5 (0, 0))) :
    Calls Tryd.prog 74 #[decG neg s n, .slice (some ⟨gT, 0, none⟩) 0 24] w fun e w' => e = .returned (.slice (some ⟨gT, 0, none⟩) ((if neg then 45 :: txt n s else txt n s)).length 24) ∧ (∀ i x, (if neg then 45 :: txt n s else txt n s)[i]? = some x → w'.cell? ⟨gT, i, none⟩ = some (.int .u8 x)) ∧ Below gT w w' := by
  have HT := Aside0.mk hT
  have HT0 := Aside0.mk (blk_lt hT)
  have HB := Aside0.mk (Below.refl w.heap.size w)
  have HS := Aside0.mk (fun w => tscale_is neg s n w (Int.natCast_nonneg s) (by omega))
  have hu110 := Tryd.underlying110
  clear hT
  go_enter Tryd.func74, Tryd.ntmps74
  go_wp2_with (first | (((with_reducible refine gate_dst (N := 2) rfl ?_); refine box_event ?hg (N := 2) ?hd (cs := #[.bool neg, .int .i8 (s : Int), .int .u64 (n : Int)]) (t := 64) ?hr ?_; (case hd => rfl); (case hg => rfl); (case hr => first | (go_simp; done) | (go_simp; rfl)); intro g1 hgq w1 hbx hb; have B1 := Aside0.mk hbx; have gq_g1 := Aside0.mk hgq; clear hbx hgq); have HB1 := Aside0.mk (below_step HB.out hb); have T1 := Aside0.mk (blk_below HT.out hb); clear hb HB HT) | (((with_reducible refine gate_dst (N := 5) rfl ?_); refine box_event ?hg (N := 5) ?hd (cs := #[.int .u8 0, .int .u8 0, .int .u8 0, .int .u8 0, .int .u8 0, .int .u8 0, .int .u8 0, .int .u8 0, .int .u8 0, .int .u8 0, .int .u8 0, .int .u8 0, .int .u8 0, .int .u8 0, .int .u8 0, .int .u8 0, .int .u8 0, .int .u8 0, .int .u8 0, .int .u8 0, .int .u8 0, .int .u8 0, .int .u8 0, .int .u8 0]) (t := 110) ?hr ?_; (case hd => rfl); (case hg => rfl); (case hr => first | (go_simp; done) | (go_simp; rfl)); intro g2 hgq w2 hbx hb; have Z2 := Aside0.mk hbx; have gq_g2 := Aside0.mk hgq; clear hbx hgq); have B2 := Aside0.mk (show w2.heap[g2]? = some (.cells (bufC []) 110 (0, 0)) from Z2.out); have HB2 := Aside0.mk (below_step HB1.out hb); have T2 := Aside0.mk (blk_below T1.out hb); have D2 := Aside0.mk (blk_below B1.out hb); have c0 := (blk_cell D2.out 0).trans rfl; have zc0 := blk_frozen D2.out 0; have c1 := (blk_cell D2.out 1).trans rfl; have zc1 := blk_frozen D2.out 1; have c2 := (blk_cell D2.out 2).trans rfl; have zc2 := blk_frozen D2.out 2; have HD1 := Aside0.mk (B1.out); clear hb B1 Z2))
  refine (tcoef_is neg s n _).mono ?_
  rintro e w3 ⟨rfl, hb⟩
  have HB3 := Aside0.mk (below_step HB2.out hb)
  have T3 := Aside0.mk (blk_below T2.out hb)
  have D3 := Aside0.mk (blk_below D2.out hb)
  have B3 := Aside0.mk (blk_below B2.out hb)
  clear hb HB2 T2 B2 c0 c1 c2 zc0 zc1 zc2
  have c0 := (blk_cell D3.out 0).trans rfl; have zc0 := blk_frozen D3.out 0; have c1 := (blk_cell D3.out 1).trans rfl; have zc1 := blk_frozen D3.out 1; have c2 := (blk_cell D3.out 2).trans rfl; have zc2 := blk_frozen D3.out 2
  go_wp2_with fail
  refine (HS.out _).mono ?_
  rintro e w4 ⟨rfl, hb⟩
  have HB4 := Aside0.mk (below_step HB3.out hb)
  have T4 := Aside0.mk (blk_below T3.out hb)
  have D4 := Aside0.mk (blk_below D3.out hb)
  have B4 := Aside0.mk (blk_below B3.out hb)
  have nT : gT ≠ g2 := by have e1 := blk_lt T1.out; have e2 := gq_g2.out; omega
  have n1 : g1 ≠ g2 := by have e1 := blk_lt D2.out; have e2 := gq_g2.out; have e3 := blk_lt HD1.out; omega
  have G2 := Aside0.mk (show w.heap.size ≤ g2 by rw [gq_g2.out]; exact HB1.out.size)
  clear hb HB3 T3 D3 B3 c0 c1 c2 zc0 zc1 zc2
  go_wp2_with fail
  go_loopg [6, 7, 8] 21 (fun kq v6 v7 v8 w' => LoopI neg n s g1 g2 gT w kq v6 v7 v8 w')
  case atStart => exact ⟨0, 23, n, s, rfl, rfl, rfl, ⟨rfl, by rw [Nat.pow_zero, Nat.div_one], rfl, .inl rfl, rfl⟩, B4, T4, D4, HB4⟩
  case round =>
    obtain ⟨k, a, b, d, rfl, rfl, rfl, HA, B5, T5, D5, HB5⟩ := hrel
    clear HB4 T4 D4 B4 HS T1 HB1 HD1 D2
    have hk18 : k ≤ 18 := HA.out.2.2.2.1.le hn hs
    have hlen := (tx_len n s k).1
    obtain ⟨q, hq⟩ : ∃ q, 23 - (tx n s k).length = q + 4 := ⟨19 - (tx n s k).length, by omega⟩
    have HQ := Aside0.mk (show q + 4 + (tx n s k).length = 23 by omega)
    obtain rfl : a = (q : Int) + 4 := by have := HA.out.1; omega
    have c0 := (blk_cell B5.out (q + 4)).trans (bufC_at _ _ (by omega))
    have c1 := (blk_cell B5.out (q + 3)).trans (bufC_at _ _ (by omega))
    have c2 := (blk_cell B5.out (q + 2)).trans (bufC_at _ _ (by omega))
    have z0 := blk_frozen B5.out (q + 4)
    have z1 := blk_frozen B5.out (q + 3)
    have z2 := blk_frozen B5.out (q + 2)
    have hq21 : q ≤ 19 := by omega
    clear hq hlen
    obtain ⟨c, hc⟩ : ∃ c, n / 10 ^ k = c := ⟨_, rfl⟩
    obtain rfl : b = (c : Int) := by rw [← hc]; exact HA.out.2.1
    obtain ⟨c', hc'⟩ : ∃ c' : Nat, c / 10 = c' := ⟨_, rfl⟩
    have HC := Aside0.mk (show n / 10 ^ (k + 1) = c' by rw [div_step, hc, hc'])
    have hcd : (c : Int) / 10 = (c' : Int) := by omega
    have HX := Aside0.mk (show (c : Int) % 10 + 48 = dig n k by unfold dig; rw [hc]; omega)
    have hcn : c < 10 ^ 19 := by rw [← hc]; exact Nat.lt_of_le_of_lt (Nat.div_le_self _ _) hn
    have HD := Aside0.mk HA.out.2.2.1
    have HM := Aside0.mk HA.out.2.2.2
    clear hc hc' HA
    cases gk with
    | zero => exact absurd HM.out.2 (by omega)
    | succ k1 =>
    have HM1 := Aside0.mk (show k + 1 + k1 = 21 by have := HM.out.2; omega)
    have B6 := Aside0.mk (buf_step B5.out HQ.out HX.out)
    have T6 := Aside0.mk (blk_far (p := ⟨g2, q + 4, none⟩) T5.out nT (.int .u8 ((c : Int) % 10 + 48)))
    have D6 := Aside0.mk (blk_far (p := ⟨g2, q + 4, none⟩) D5.out n1 (.int .u8 ((c : Int) % 10 + 48)))
    have HB6 := Aside0.mk (below_set (j := q + 4) (v := .int .u8 ((c : Int) % 10 + 48)) HB5.out G2.out)
    have y0 := (blk_cell D5.out 0).trans rfl; have zy0 := blk_frozen D5.out 0; have y1 := (blk_cell D5.out 1).trans rfl; have zy1 := blk_frozen D5.out 1; have y2 := (blk_cell D5.out 2).trans rfl; have zy2 := blk_frozen D5.out 2
    have n1' := n1.symm
    clear T5 D5 B5 HB5
    rcases Nat.lt_trichotomy (k + 1) s with hks | hks | hks
    · obtain ⟨j, hj⟩ : ∃ j, s - k = j + 2 := ⟨s - k - 2, by omega⟩
      obtain rfl : d = (j : Int) + 2 := by rw [HD.out, hj]; rfl
      have hw1 : wrap64 ((j : Int) + 2 - 1) = (j : Int) + 1 := by rw [w64 (by omega) (by omega)]; omega
      have hj0 : (0 : Int) < (j : Int) + 2 := by omega
      have hj1 : ((j : Int) + 1 == 0) = false := by simp; omega
      have HJ := Aside0.mk (show wrap64 ((j : Int) + 2 - 1) = ((s - (k + 1) : Nat) : Int) by rw [hw1]; omega)
      have HK := Aside0.mk hks
      have E1 := Aside0.mk (tx_no (n := n) (k := k) (s := s) (by omega))
      have HL := Aside0.mk (show (q : Int) + 4 - 1 + ((tx n s (k + 1)).length : Int) = 23 by rw [E1.out, List.length_cons]; have := HQ.out; omega)
      clear hj hks
      by_cases hz : c' = 0
      · have hz1 : ((c' : Int) == 0) = true := by simp [hz]
        go_wp2
        go_roundg k1
        case measure => omega
        case rel => exact ⟨k + 1, _, _, _, rfl, rfl, rfl, ⟨HL.out, by rw [HC.out, hz]; rfl, HJ.out, .inr (.inr HK.out), HM1.out⟩, ⟨by rw [E1.out]; exact B6.out⟩, T6, D6, HB6⟩
      · have hz1 : ((c' : Int) == 0) = false := by simp [hz]
        go_wp2
        go_roundg k1
        case measure => omega
        case rel => exact ⟨k + 1, _, _, _, rfl, rfl, rfl, ⟨HL.out, by rw [HC.out], HJ.out, .inr (.inr HK.out), HM1.out⟩, ⟨by rw [E1.out]; exact B6.out⟩, T6, D6, HB6⟩
    · obtain rfl : d = 1 := by rw [HD.out]; omega
      have hw1 : wrap64 ((1 : Int) - 1) = 0 := by rw [w64 (by omega) (by omega)]; rfl
      have E1 := Aside0.mk (tx_pt (n := n) hks)
      have B7 := Aside0.mk (buf_step (p := q + 3) (x := 46) (y := 46) B6.out (by have := HQ.out; simp only [List.length_cons]; omega) rfl)
      have T7 := Aside0.mk (blk_far (p := ⟨g2, q + 3, none⟩) T6.out nT (.int .u8 46))
      have D7 := Aside0.mk (blk_far (p := ⟨g2, q + 3, none⟩) D6.out n1 (.int .u8 46))
      have HB7 := Aside0.mk (below_set (j := q + 3) (v := .int .u8 46) HB6.out G2.out)
      have HK := Aside0.mk hks
      clear T6 D6 B6 HB6 hks
      by_cases hz : c' = 0
      · have hz1 : ((c' : Int) == 0) = true := by simp [hz]
        have B8 := Aside0.mk (buf_step (p := q + 2) (x := 48) (y := 48) B7.out (by have := HQ.out; simp only [List.length_cons]; omega) rfl)
        have et := tx_end_pt HK.out (show n / 10 ^ (k + 1) = 0 by rw [HC.out, hz])
        have HN := Aside0.mk (show q + 1 + (txt n s).length = 23 by rw [← et, E1.out]; simp only [List.length_cons]; have := HQ.out; omega)
        rw [← E1.out, et] at B8
        clear et
        have T8 := Aside0.mk (blk_far (p := ⟨g2, q + 2, none⟩) T7.out nT (.int .u8 48))
        have D8 := Aside0.mk (blk_far (p := ⟨g2, q + 2, none⟩) D7.out n1 (.int .u8 48))
        have HB8 := Aside0.mk (below_set (j := q + 2) (v := .int .u8 48) HB7.out G2.out)
        go_wp2_with fail
        refine (tneg_is neg s n _).mono ?_
        rintro e w6 ⟨rfl, hb⟩
        have HBF := Aside0.mk (below_step HB8.out hb)
        have TF := Aside0.mk (blk_below T8.out hb)
        have BF := Aside0.mk (blk_below B8.out hb)
        cases neg with
        | true =>
          have e0 := (blk_cell BF.out (q + 1)).trans (bufC_at _ _ (by have := HN.out; omega))
          have ez := blk_frozen BF.out (q + 1)
          have BG := Aside0.mk (buf_step (p := q + 1) (x := 45) (y := 45) BF.out HN.out rfl)
          have TG := Aside0.mk (blk_far (p := ⟨g2, q + 1, none⟩) TF.out nT (.int .u8 45))
          have HG := Aside0.mk (below_set (j := q + 1) (v := .int .u8 45) HBF.out G2.out)
          have hsl := fun W => slice_at g2 W ((q : Int) + 4 - 1 - 1 - 1) (q + 1) (by omega) (by omega)
          have HL' := Aside0.mk (show 23 - q = (if true = true then 45 :: txt n s else txt n s).length by rw [if_pos rfl, List.length_cons]; have := HN.out; omega)
          have HE := Aside0.mk (show (if true = true then 45 :: txt n s else txt n s) = 45 :: txt n s from if_pos rfl)
          rw [HE.out] at HL'
          obtain ⟨l, hl⟩ : ∃ l, 45 :: txt n s = l := ⟨_, rfl⟩
          rw [hl] at BG HL' HE
          have hld := load_txt (p := q + 1) (N := 23 - q) BG.out (by rw [← HL'.out]; omega) HL'.out
          have hst := store_txt TG.out (l := l) (by rw [← HL'.out]; omega)
          have HW := Aside0.mk (below_setRow (HG.out.mono (Nat.le_of_lt HT0.out)) (Nat.le_refl gT) (rowT l))
          have HC' := Aside0.mk (fun i x (hi : l[i]? = some x) => (cell_setRow_same _ gT i _ (rowT l) 5 (0, 0) TG.out).trans (rowT_get hi))
          clear BF TF HBF BG TG HG
          go_wp2_with fail
          exact bodyPost_ret (v := .slice (some ⟨gT, 0, none⟩) (23 - q) 24) (by simp [results, Tryd.results74, go_sem]) rfl ⟨by rw [HL'.out], HC'.out, HW.out⟩
        | false =>
          have hsl := fun W => slice_at g2 W ((q : Int) + 4 - 1 - 1) (q + 2) (by omega) (by omega)
          have HL' := Aside0.mk (show 22 - q = (if false = true then 45 :: txt n s else txt n s).length by rw [if_neg (by decide)]; have := HN.out; omega)
          have HE := Aside0.mk (show (if false = true then 45 :: txt n s else txt n s) = txt n s from if_neg (by decide))
          rw [HE.out] at HL'
          obtain ⟨l, hl⟩ : ∃ l, txt n s = l := ⟨_, rfl⟩
          rw [hl] at BF HL' HE
          have hld := load_txt (p := q + 2) (N := 22 - q) BF.out (by rw [← HL'.out]; omega) HL'.out
          have hst := store_txt TF.out (l := l) (by rw [← HL'.out]; omega)
          have HW := Aside0.mk (below_setRow (HBF.out.mono (Nat.le_of_lt HT0.out)) (Nat.le_refl gT) (rowT l))
          have HC' := Aside0.mk (fun i x (hi : l[i]? = some x) => (cell_setRow_same _ gT i _ (rowT l) 5 (0, 0) TF.out).trans (rowT_get hi))
          clear BF TF HBF
          go_wp2_with fail
          exact bodyPost_ret (v := .slice (some ⟨gT, 0, none⟩) (22 - q) 24) (by simp [results, Tryd.results74, go_sem]) rfl ⟨by rw [HL'.out], HC'.out, HW.out⟩
      · have hz1 : ((c' : Int) == 0) = false := by simp [hz]
        have HL := Aside0.mk (show (q : Int) + 4 - 1 - 1 + ((tx n s (k + 1)).length : Int) = 23 by rw [E1.out, List.length_cons, List.length_cons]; have := HQ.out; omega)
        go_wp2
        go_roundg k1
        case measure => omega
        case rel => exact ⟨k + 1, _, _, _, rfl, rfl, rfl, ⟨HL.out, by rw [HC.out], by have := HK.out; first | rfl | omega, .inr (.inl (by rw [HC.out]; exact hz)), HM1.out⟩, ⟨by rw [E1.out]; exact B7.out⟩, T7, D7, HB7⟩
    · obtain rfl : d = 0 := by rw [HD.out]; omega
      have E1 := Aside0.mk (tx_no (n := n) (k := k) (s := s) (by omega))
      have HK := Aside0.mk hks
      have HL := Aside0.mk (show (q : Int) + 4 - 1 + ((tx n s (k + 1)).length : Int) = 23 by rw [E1.out, List.length_cons]; have := HQ.out; omega)
      clear hks
      by_cases hz : c' = 0
      · have hz1 : ((c' : Int) == 0) = true := by simp [hz]
        have et := tx_end HM.out.1 (show k + 1 ≠ s by have := HK.out; omega) (by have := HK.out; omega) (show n / 10 ^ (k + 1) = 0 by rw [HC.out, hz])
        have HN := Aside0.mk (show q + 3 + (txt n s).length = 23 by rw [← et, E1.out]; simp only [List.length_cons]; have := HQ.out; omega)
        rw [← E1.out, et] at B6
        clear et
        go_wp2_with fail
        refine (tneg_is neg s n _).mono ?_
        rintro e w6 ⟨rfl, hb⟩
        have HBF := Aside0.mk (below_step HB6.out hb)
        have TF := Aside0.mk (blk_below T6.out hb)
        have BF := Aside0.mk (blk_below B6.out hb)
        cases neg with
        | true =>
          have e0 := (blk_cell BF.out (q + 3)).trans (bufC_at _ _ (by have := HN.out; omega))
          have ez := blk_frozen BF.out (q + 3)
          have BG := Aside0.mk (buf_step (p := q + 3) (x := 45) (y := 45) BF.out HN.out rfl)
          have TG := Aside0.mk (blk_far (p := ⟨g2, q + 3, none⟩) TF.out nT (.int .u8 45))
          have HG := Aside0.mk (below_set (j := q + 3) (v := .int .u8 45) HBF.out G2.out)
          have hsl := fun W => slice_at g2 W ((q : Int) + 4 - 1) (q + 3) (by omega) (by omega)
          have HL' := Aside0.mk (show 21 - q = (if true = true then 45 :: txt n s else txt n s).length by rw [if_pos rfl, List.length_cons]; have := HN.out; omega)
          have HE := Aside0.mk (show (if true = true then 45 :: txt n s else txt n s) = 45 :: txt n s from if_pos rfl)
          rw [HE.out] at HL'
          obtain ⟨l, hl⟩ : ∃ l, 45 :: txt n s = l := ⟨_, rfl⟩
          rw [hl] at BG HL' HE
          have hld := load_txt (p := q + 3) (N := 21 - q) BG.out (by rw [← HL'.out]; omega) HL'.out
          have hst := store_txt TG.out (l := l) (by rw [← HL'.out]; omega)
          have HW := Aside0.mk (below_setRow (HG.out.mono (Nat.le_of_lt HT0.out)) (Nat.le_refl gT) (rowT l))
          have HC' := Aside0.mk (fun i x (hi : l[i]? = some x) => (cell_setRow_same _ gT i _ (rowT l) 5 (0, 0) TG.out).trans (rowT_get hi))
          clear BF TF HBF BG TG HG
          go_wp2_with fail
          exact bodyPost_ret (v := .slice (some ⟨gT, 0, none⟩) (21 - q) 24) (by simp [results, Tryd.results74, go_sem]) rfl ⟨by rw [HL'.out], HC'.out, HW.out⟩
        | false =>
          have hsl := fun W => slice_at g2 W ((q : Int) + 4) (q + 4) (by omega) (by omega)
          have HL' := Aside0.mk (show 20 - q = (if false = true then 45 :: txt n s else txt n s).length by rw [if_neg (by decide)]; have := HN.out; omega)
          have HE := Aside0.mk (show (if false = true then 45 :: txt n s else txt n s) = txt n s from if_neg (by decide))
          rw [HE.out] at HL'
          obtain ⟨l, hl⟩ : ∃ l, txt n s = l := ⟨_, rfl⟩
          rw [hl] at BF HL' HE
          have hld := load_txt (p := q + 4) (N := 20 - q) BF.out (by rw [← HL'.out]; omega) HL'.out
          have hst := store_txt TF.out (l := l) (by rw [← HL'.out]; omega)
          have HW := Aside0.mk (below_setRow (HBF.out.mono (Nat.le_of_lt HT0.out)) (Nat.le_refl gT) (rowT l))
          have HC' := Aside0.mk (fun i x (hi : l[i]? = some x) => (cell_setRow_same _ gT i _ (rowT l) 5 (0, 0) TF.out).trans (rowT_get hi))
          clear BF TF HBF
          go_wp2_with fail
          exact bodyPost_ret (v := .slice (some ⟨gT, 0, none⟩) (20 - q) 24) (by simp [results, Tryd.results74, go_sem]) rfl ⟨by rw [HL'.out], HC'.out, HW.out⟩
      · have hz1 : ((c' : Int) == 0) = false := by simp [hz]
        go_wp2
        go_roundg k1
        case measure => omega
        case rel => exact ⟨k + 1, _, _, _, rfl, rfl, rfl, ⟨HL.out, by rw [HC.out], by have := HK.out; omega, .inr (.inl (by rw [HC.out]; exact hz)), HM1.out⟩, ⟨by rw [E1.out]; exact B6.out⟩, T6, D6, HB6⟩
end Go.Proofs.YtcgdphciepdkiaaDoor.G
