/-
  CONTRACTS: the product of two rows of words (basicMul).
-/
import Derived.Test.YtghabdpbacgicaaGreatDoorGAv
import Derived.Lib.SliceRun
import Derived.Lib.LazyBuf
namespace Go.Proofs.YtghabdpbacgicaaGreatDoor.G
open Go.RowKit Go.Proofs.YtghabdpbacgicaaGreatDoorW.PrintWords Go.Proofs.YtghabdpbacgicaaGreatDoorW.PrintLast Go.Proofs.YtghabdpbacgicaaGreatDoorW.PrintMore Go.Proofs.YtghabdpbacgicaaGreatDoor.S
set_option linter.unusedVariables false
set_option linter.unusedSimpArgs false

set_option maxRecDepth 100000 in
theorem mulAddVWW_is (ws : World) (g cz : Nat) (L x : List Int) (A : Option Addr) (cx : Nat) (y r : Nat) (w : World) (hB : RowAt w g L) (hs : Below ws.heap.size ws w) (hg : ws.heap.size ≤ g) (hL : x.length ≤ L.length) (hm : L.length ≤ 1000000)
    (hC : Kd.C (Kd.int .u64) ws A x.length x) (hx : L64.Ok x) (hy : y < 18446744073709551616) (hr : r < 18446744073709551616) :
    Calls Tryz.prog 74 #[.slice (some ⟨g, 0, none⟩) x.length cz, .slice A x.length cx, .int .u64 (y : Int), .int .u64 (r : Int)] w fun e w' => e = .returned (.int .u64 ((mulV x y r L x.length).2 : Int)) ∧ RowAt w' g (mulV x y r L x.length).1 ∧ Below ws.heap.size ws w' := by
  have HQ := Aside0.mk (mulAddVWW_g_is ws g cz L x A cx y r w hB hs hg hL hm hC hx hy hr)
  clear hB hs hg hL hm hC hx hy hr
  generalize mulV x y r L x.length = T at *
  obtain ⟨L', c⟩ := T
  go_enter Tryz.func74, Tryz.ntmps74
  go_wp2_with fail
  refine (HQ.out).mono ?_
  rintro e w' ⟨rfl, hR, hb⟩
  have HR := Aside0.mk hR
  have HB := Aside0.mk hb
  clear hR hb HQ
  go_wp2_with fail
  go_ret
  exact ⟨rfl, HR.out, HB.out⟩
set_option maxRecDepth 100000 in
theorem addMulVVWW_is (ws : World) (g off cz cz2 : Nat) (L y : List Int) (A : Option Addr) (cy : Nat) (m a : Nat) (w : World) (hB : RowAt w g L) (hLo : L64.Ok L) (hs : Below ws.heap.size ws w) (hg : ws.heap.size ≤ g) (hL : off + y.length ≤ L.length) (hml : L.length ≤ 1000000)
    (hC : Kd.C (Kd.int .u64) ws A y.length y) (hy : L64.Ok y) (hm : m < 18446744073709551616) (ha : a < 18446744073709551616) :
    Calls Tryz.prog 67 #[.slice (some ⟨g, off, none⟩) y.length cz, .slice (some ⟨g, off, none⟩) y.length cz2, .slice A y.length cy, .int .u64 (m : Int), .int .u64 (a : Int)] w fun e w' => e = .returned (.int .u64 ((addV y m a off L y.length).2 : Int)) ∧ RowAt w' g (addV y m a off L y.length).1 ∧ Below ws.heap.size ws w' := by
  have HQ := Aside0.mk (addMulVVWW_g_is ws g off cz cz2 L y A cy m a w hB hLo hs hg hL hml hC hy hm ha)
  clear hB hLo hs hg hL hml hC hy hm ha
  generalize addV y m a off L y.length = T at *
  obtain ⟨L', c⟩ := T
  go_enter Tryz.func67, Tryz.ntmps67
  go_wp2_with fail
  refine (HQ.out).mono ?_
  rintro e w' ⟨rfl, hR, hb⟩
  have HR := Aside0.mk hR
  have HB := Aside0.mk hb
  clear hR hb HQ
  go_wp2_with fail
  go_ret
  exact ⟨rfl, HR.out, HB.out⟩
theorem row_zeros (c g : Nat) (n : Nat) : ∀ (o : Nat) (w : World), RowAt w g (List.replicate c 0) → RowAt (w.setCells g o (List.replicate n (.int .u64 0))) g (List.replicate c 0) := by
  induction n with
  | zero => intro o w h; exact h
  | succ n ih =>
    intro o w h
    rw [List.replicate_succ]
    refine ih (o + 1) _ ?_
    have := h.set o 0
    have e : (List.replicate c (0 : Int)).set o 0 = List.replicate c 0 := by
      apply List.ext_getElem
      · simp
      · intro i h1 h2
        simp [List.getElem_set]
    rw [e] at this
    exact this
theorem zero_word (w : World) : (zeroValue 81).run Tryz.prog w = .ok (.int .u64 0) w := by
  have hz : Tryz.t81.zero = some (.int .u64 0) := by kernel_rfl
  simp [zeroValue, go_sem, hz]
theorem clear_row {w : World} {g c : Nat} (h : RowAt w g (List.replicate c 0)) (n cz : Nat) (h0 : 0 < n) (hn : n ≤ c) (ty : TypeId) :
    (Builtin.clear_ #[63] ty #[.slice (some ⟨g, 0, none⟩) n cz]).run Tryz.prog w = .ok (.tuple #[]) (w.setCells g 0 (List.replicate n (.int .u64 0))) := by
  refine Lib.run_clear_slice w 63 81 ty (.int .u64 0) Tryz.underlying63 zero_word rfl rfl g 0 n cz h0 (fun j hj => ?_) (fun j hj => ?_)
  · rw [Nat.zero_add, h.cell j (by rw [List.length_replicate]; omega)]; rfl
  · rw [Nat.zero_add]; exact blk_frozen h j
/-- The product's row, i words of the second factor. -/
def bmul (x y : List Int) (L : List Int) : Nat → List Int
  | 0 => L
  | i + 1 => if y.getD i 0 = 0 then bmul x y L i else (addV x (y.getD i 0).toNat 0 i (bmul x y L i) x.length).1.set (x.length + i) ((addV x (y.getD i 0).toNat 0 i (bmul x y L i) x.length).2 : Int)
theorem bmul_len (x y : List Int) (L : List Int) (i : Nat) : (bmul x y L i).length = L.length := by
  induction i with
  | zero => rfl
  | succ i ih =>
    unfold bmul
    split
    · exact ih
    · rw [List.length_set, addV_len, ih]
theorem bmul_ok {x y L : List Int} (hx : L64.Ok x) (hy : L64.Ok y) (h : L64.Ok L) (i : Nat) : L64.Ok (bmul x y L i) := by
  induction i with
  | zero => exact h
  | succ i ih =>
    unfold bmul
    split
    · exact ih
    · have h1 := addV_lt (m := (y.getD i 0).toNat) (a := 0) i ih hx (word_lt hy i) (by omega) x.length
      exact L64.ok_set (addV_ok _ _ _ _ ih _) _ (Int.natCast_nonneg _) (by omega)
set_option maxRecDepth 100000 in
theorem basicMul_is (ws : World) (g cz c N : Nat) (x y : List Int) (A1 A2 : Option Addr) (k1' k2' : Nat) (w : World) (hB : RowAt w g (List.replicate c 0)) (hs : Below ws.heap.size ws w) (hg : ws.heap.size ≤ g) (hN : x.length + y.length = N) (hL : N ≤ c) (hcz : N ≤ cz) (hm : c ≤ 1000000)
    (hx0 : 0 < x.length) (hC1 : Kd.C (Kd.int .u64) ws A1 x.length x) (hx : L64.Ok x) (hC2 : Kd.C (Kd.int .u64) ws A2 y.length y) (hy : L64.Ok y) :
    Calls Tryz.prog 55 #[.slice (some ⟨g, 0, none⟩) N cz, .slice A1 x.length k1', .slice A2 y.length k2'] w fun e w' => e = .returned (.tuple #[]) ∧ RowAt w' g (bmul x y (List.replicate c 0) y.length) ∧ Below ws.heap.size ws w' := by
  have HR := Aside0.mk hB
  have HS := Aside0.mk hs
  have HG := Aside0.mk hg
  have HL := Aside0.mk (And.intro hL (And.intro hcz (And.intro hm hN)))
  have HC1 := Aside0.mk hC1
  have HC2 := Aside0.mk hC2
  have HX := Aside0.mk hx
  have HY := Aside0.mk hy
  have hcl := fun ty => clear_row hB N cz (by omega) hL ty
  have hw : wrap64 ((x.length : Int) + (y.length : Int)) = (N : Int) := by unfold wrap64; omega
  have hnc : (N : Int) ≤ (cz : Int) := by omega
  have HX0 := Aside0.mk hx0
  clear hB hs hg hL hcz hm hx0 hC1 hx hC2 hy hN
  go_enter Tryz.func55, Tryz.ntmps55
  go_wp2_with fail
  go_loopg [17] (y.length) (fun kq v17 w' => ∃ (i : Nat), v17 = .int .i64 (i : Int) ∧ Aside0 (i + kq = y.length) ∧ Aside0 (RowAt w' g (bmul x y (List.replicate c 0) i)) ∧ Aside0 (Below ws.heap.size ws w'))
  case atStart => exact ⟨0, rfl, ⟨Nat.zero_add _⟩, ⟨row_zeros c g N 0 w HR.out⟩, ⟨Go.below_setCells HG.out _ _ _ HS.out⟩⟩
  case round =>
    obtain ⟨i, rfl, HI, HRi, HSi⟩ := hrel
    clear HR HS hcl hw hnc
    by_cases cc : i < y.length
    · cases gk with
      | zero => exact absurd HI.out (by omega)
      | succ k1 =>
        obtain ⟨ad, rfl, hyi⟩ := Kd.at_int (Kd.C_below HC2.out HSi.out) (i : Int) (by omega) (by omega)
        obtain ⟨Y, hY⟩ : ∃ Y : Nat, y.getD i 0 = (Y : Int) := ⟨(y.getD i 0).toNat, by have := L64.ok_get HY.out i; omega⟩
        have hYl := word_lt HY.out i
        have hln := bmul_len x y (List.replicate c 0) i
        have hok := bmul_ok HX.out HY.out (L64.ok_zeros c) i
        have hst : bmul x y (List.replicate c 0) (i + 1) = if y.getD i 0 = 0 then bmul x y (List.replicate c 0) i else (addV x (y.getD i 0).toNat 0 i (bmul x y (List.replicate c 0) i) x.length).1.set (x.length + i) ((addV x (y.getD i 0).toNat 0 i (bmul x y (List.replicate c 0) i) x.length).2 : Int) := rfl
        unfold rd at hyi
        rw [Int.toNat_natCast, hY] at hyi
        rw [hY, Int.toNat_natCast] at hYl hst
        obtain ⟨T, hT⟩ : ∃ T, bmul x y (List.replicate c 0) i = T := ⟨_, rfl⟩
        rw [hT] at hst HRi hok hln
        rw [List.length_replicate] at hln
        have HLn := Aside0.mk hln
        have HOk := Aside0.mk hok
        have HYl := Aside0.mk hYl
        have HST := Aside0.mk hst
        have c0 : decide ((i : Int) < (y.length : Int)) = true := decide_eq_true (by omega)
        have c1 : decide (i < y.length) = true := decide_eq_true cc
        clear hY hYl hln hok hT hst
        by_cases hY0 : Y = 0
        · subst hY0
          go_wp2_with fail
          go_roundg k1
          case measure => omega
          case rel => exact ⟨i + 1, (by first | rfl | (rw [w64_succ i (by have := HL.out; omega)])), ⟨by have := HI.out; omega⟩, ⟨by rw [HST.out]; exact HRi.out⟩, HSi⟩
        · have hY1 : ((Y : Int) == 0) = false := beq_eq_false_iff_ne.2 (by omega)
          have hY2 : ((Y : Int) != 0) = true := bne_iff_ne.2 (by omega)
          obtain ⟨M, hM⟩ : ∃ M : Nat, x.length + i = M := ⟨_, rfl⟩
          have hst2 := HST.out
          rw [if_neg (by omega), hM] at hst2
          have HL2 := HL.out
          have hX0 := HX0.out
          have hw1 : wrap64 ((x.length : Int) + (i : Int)) = (M : Int) := by unfold wrap64; omega
          have hw2 : wrap64 ((i : Int) + (x.length : Int)) = (M : Int) := by unfold wrap64; omega
          have hw3 : IntKind.i64.wrap ((x.length : Int) + (i : Int)) = (M : Int) := (i64_w _).trans hw1
          have hw4 : IntKind.i64.wrap ((i : Int) + (x.length : Int)) = (M : Int) := (i64_w _).trans hw2
          have hm0 : (0 : Int) ≤ (i : Int) := by omega
          have hm1 : (M : Int) ≤ (cz : Int) := by omega
          have hm2 : (i : Int) ≤ (M : Int) := by omega
          have hm3 : M - i = x.length := by omega
          have hm4 : ¬ cz = i := by omega
          have hm7 : (M : Int) < (N : Int) := by omega
          have hm8 : (0 : Int) ≤ (M : Int) := by omega
          have hm5 : decide ((M : Int) < (N : Int)) = true := decide_eq_true (by omega)
          have hm6 : decide (M < N) = true := decide_eq_true (by omega)
          have HQ := Aside0.mk (fun w0 (hR : RowAt w0 g T) (hs : Below ws.heap.size ws w0) => addMulVVWW_is ws g i (cz - i) (cz - i) T x A1 k1' Y 0 w0 hR HOk.out hs HG.out (by rw [HLn.out]; omega) (by rw [HLn.out]; omega) HC1.out HX.out HYl.out (by omega))
          have hlen := addV_len x Y 0 i T x.length
          obtain ⟨U, hU⟩ : ∃ U, addV x Y 0 i T x.length = U := ⟨_, rfl⟩
          rw [hU] at HQ hst2 hlen
          obtain ⟨L2, c2'⟩ := U
          have HLt := Aside0.mk (show M < L2.length by rw [show L2.length = T.length from hlen, HLn.out]; omega)
          have HST2 := Aside0.mk hst2
          clear hst2 HL2 hX0 hlen hU HST hM
          go_wp2_with fail
          go_region_held3 (fun _ => True) (exact trivial)
            (first | (go_at_call 67; refine (HQ.out _ HRi.out.drew (below_drew HSi.out)).mono ?_; rintro e4 w4 ⟨rfl, hR4, hS4⟩; have HR4 := Aside0.mk hR4; have HS4 := Aside0.mk hS4; have hr := HR4.out.cell M HLt.out; have hz := blk_frozen HR4.out M; clear hR4 hS4))
          go_wp2_with fail
          go_roundg k1
          case measure => omega
          case rel => exact ⟨i + 1, (by first | rfl | (rw [w64_succ i (by have := HL.out; omega)])), ⟨by have := HI.out; omega⟩, ⟨by rw [HST2.out]; exact HR4.out.set M (c2' : Int)⟩, ⟨below_set HS4.out HG.out⟩⟩
    · have hi : i = y.length := by have := HI.out; omega
      subst hi
      go_wp2_with fail
      exact bodyPost_end (results_none rfl _ _ _) rfl ⟨rfl, HRi.out, HSi.out⟩
end Go.Proofs.YtghabdpbacgicaaGreatDoor.G
