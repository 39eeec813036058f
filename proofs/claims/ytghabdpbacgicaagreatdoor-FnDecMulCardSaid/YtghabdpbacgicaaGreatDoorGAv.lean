/-
  CONTRACTS: the package's arithmetic on rows of words.
-/
import Derived.Test.YtghabdpbacgicaaGreatDoorGAr
import Derived.Test.YtghabdpbacgicaaGreatDoorLb
import Derived.Test.YtghabdpbacgicaaGreatDoorTI
namespace Go.Proofs.YtghabdpbacgicaaGreatDoor.G
open Go.RowKit Go.Proofs.YtghabdpbacgicaaGreatDoorW.PrintWords Go.Proofs.YtghabdpbacgicaaGreatDoorW.PrintLast Go.Proofs.YtghabdpbacgicaaGreatDoorW.PrintMore Go.Proofs.YtghabdpbacgicaaGreatDoor.S
set_option linter.unusedVariables false
set_option linter.unusedSimpArgs false

abbrev u64s (l : List Int) : List Value := l.map (fun x => Value.int .u64 x)
/-- A block is a row of words. -/
def RowAt (w : World) (g : Nat) (L : List Int) : Prop := w.heap[g]? = some (.cells (u64s L).toArray 81 (0, 0))
theorem RowAt.cell {w : World} {g : Nat} {L : List Int} (h : RowAt w g L) (j : Nat) (hj : j < L.length) : w.cell? ⟨g, j, none⟩ = some (.int .u64 (L.getD j 0)) := by
  refine (blk_cell h j).trans ?_
  rw [List.getElem?_toArray, List.getElem?_map, List.getD_eq_getElem?_getD, List.getElem?_eq_getElem hj]
  rfl
theorem RowAt.set {w : World} {g : Nat} {L : List Int} (h : RowAt w g L) (j : Nat) (x : Int) : RowAt (w.setCell ⟨g, j, none⟩ (.int .u64 x)) g (L.set j x) := by
  refine blk_put h j _ ?_
  rw [List.setIfInBounds_toArray]
  show _ = (List.map _ (L.set j x)).toArray
  rw [List.map_set]
theorem RowAt.below {w w1 : World} {g : Nat} {L : List Int} (h : RowAt w g L) (hb : Below w.heap.size w w1) : RowAt w1 g L := blk_below h hb
theorem RowAt.drew {w : World} {g : Nat} {L : List Int} (h : RowAt w g L) : RowAt w.drew g L := h
/-- Row times word, i words of it. -/
def mulV (x : List Int) (y r : Nat) (L : List Int) : Nat → List Int × Nat
  | 0 => (L, r)
  | i + 1 => ((mulV x y r L i).1.set i ((((x.getD i 0).toNat * y + (mulV x y r L i).2) % 18446744073709551616 : Nat) : Int), ((x.getD i 0).toNat * y + (mulV x y r L i).2) / 18446744073709551616)
theorem mulV_len (x : List Int) (y r : Nat) (L : List Int) (i : Nat) : (mulV x y r L i).1.length = L.length := by
  induction i with
  | zero => rfl
  | succ i ih => unfold mulV; rw [List.length_set, ih]
theorem word_lt {x : List Int} (h : L64.Ok x) (i : Nat) : (x.getD i 0).toNat < 18446744073709551616 := by
  have := L64.ok_get h i
  omega
theorem carry_lt {a y c : Nat} (ha : a < 18446744073709551616) (hy : y < 18446744073709551616) (hc : c < 18446744073709551616) : (a * y + c) / 18446744073709551616 < 18446744073709551616 := by
  have hp : a * y ≤ 18446744073709551615 * 18446744073709551615 := Nat.mul_le_mul (by omega) (by omega)
  generalize a * y = p at *
  omega
theorem mulV_lt {x : List Int} {y r : Nat} (L : List Int) (hx : L64.Ok x) (hy : y < 18446744073709551616) (hr : r < 18446744073709551616) (i : Nat) : (mulV x y r L i).2 < 18446744073709551616 := by
  induction i with
  | zero => exact hr
  | succ i ih => exact carry_lt (word_lt hx i) hy ih
theorem w64_succ (i : Nat) (h : i < 9223372036854775807) : wrap64 ((i : Int) + 1) = ((i + 1 : Nat) : Int) := by unfold wrap64; omega
set_option maxRecDepth 100000 in
theorem mulAddVWW_g_is (ws : World) (g cz : Nat) (L x : List Int) (A : Option Addr) (cx : Nat) (y r : Nat) (w : World) (hB : RowAt w g L) (hs : Below ws.heap.size ws w) (hg : ws.heap.size ≤ g) (hL : x.length ≤ L.length) (hm : L.length ≤ 1000000)
    (hC : Kd.C (Kd.int .u64) ws A x.length x) (hx : L64.Ok x) (hy : y < 18446744073709551616) (hr : r < 18446744073709551616) :
    Calls Tryz.prog 88 #[.slice (some ⟨g, 0, none⟩) x.length cz, .slice A x.length cx, .int .u64 (y : Int), .int .u64 (r : Int)] w fun e w' => e = .returned (.int .u64 ((mulV x y r L x.length).2 : Int)) ∧ RowAt w' g (mulV x y r L x.length).1 ∧ Below ws.heap.size ws w' := by
  have HR := Aside0.mk hB
  have HS := Aside0.mk hs
  have HG := Aside0.mk hg
  have HL := Aside0.mk (And.intro hL hm)
  have HC := Aside0.mk hC
  have HX := Aside0.mk hx
  have HY := Aside0.mk hy
  have HRr := Aside0.mk hr
  clear hB hs hg hL hm hC hx hy hr
  go_enter Tryz.func88, Tryz.ntmps88
  go_wp2
  go_loopg [8, 19] (x.length) (fun kq v8 v19 w' => ∃ (i : Nat), v8 = .int .u64 ((mulV x y r L i).2 : Int) ∧ v19 = .int .i64 (i : Int) ∧ Aside0 (i + kq = x.length) ∧ Aside0 (RowAt w' g (mulV x y r L i).1) ∧ Aside0 (Below ws.heap.size ws w'))
  case atStart => exact ⟨0, rfl, rfl, ⟨Nat.zero_add _⟩, HR, HS⟩
  case round =>
    obtain ⟨i, rfl, rfl, HI, HRi, HSi⟩ := hrel
    clear HR HS
    by_cases c : i < x.length
    · cases gk with
      | zero => exact absurd HI.out (by omega)
      | succ k1 =>
        obtain ⟨ad, rfl, hxi⟩ := Kd.at_int (Kd.C_below HC.out HSi.out) (i : Int) (by omega) (by omega)
        obtain ⟨X, hX⟩ : ∃ X : Nat, x.getD i 0 = (X : Int) := ⟨(x.getD i 0).toNat, by have := L64.ok_get HX.out i; omega⟩
        have hXl := word_lt HX.out i
        have hst : mulV x y r L (i + 1) = ((mulV x y r L i).1.set i (((X * y + (mulV x y r L i).2) % 18446744073709551616 : Nat) : Int), (X * y + (mulV x y r L i).2) / 18446744073709551616) := by rw [mulV, hX, Int.toNat_natCast]
        have hcl := mulV_lt L HX.out HY.out HRr.out i
        have hln := mulV_len x y r L i
        have HLi := Aside0.mk (show i < (mulV x y r L i).1.length by rw [hln]; have := HL.out; omega)
        unfold rd at hxi
        rw [Int.toNat_natCast, hX] at hxi
        rw [hX, Int.toNat_natCast] at hXl
        obtain ⟨T, hT⟩ : ∃ T, mulV x y r L i = T := ⟨_, rfl⟩
        rw [hT] at hst hcl HRi HLi ⊢
        obtain ⟨Li, ci⟩ := T
        have HST := Aside0.mk hst
        have HMu := Aside0.mk (fun w0 => mulAddWWW_is X y ci hXl HY.out hcl w0)
        have c0 : decide ((i : Int) < (x.length : Int)) = true := decide_eq_true (by omega)
        have c1 : decide (i < x.length) = true := decide_eq_true c
        clear hst hX hXl hln hT hcl
        go_wp2_with fail
        refine (HMu.out _).mono ?_
        rintro e w2 ⟨rfl, hb⟩
        have HR2 := Aside0.mk (HRi.out.below hb)
        have HS2 := Aside0.mk (below_step HSi.out hb)
        clear hb HMu hxi HRi HSi
        obtain ⟨q, hq⟩ : ∃ q : Nat, (X * y + ci) / 18446744073709551616 = q := ⟨_, rfl⟩
        obtain ⟨m, hm⟩ : ∃ m : Int, (((X * y + ci) % 18446744073709551616 : Nat) : Int) = m := ⟨_, rfl⟩
        have h2 := HST.out
        rw [hq, hm] at h2 ⊢
        have HST2 := Aside0.mk h2
        have hr := HR2.out.cell i HLi.out
        have hz := blk_frozen HR2.out i
        clear hq hm h2 HST
        go_wp2_with fail
        go_roundg k1
        case measure => omega
        case rel => exact ⟨i + 1, (by rw [HST2.out]), (by first | rfl | (rw [w64_succ i (by have := HL.out; omega)])), ⟨by have := HI.out; omega⟩, ⟨by rw [HST2.out]; exact HR2.out.set i m⟩, ⟨below_set HS2.out HG.out⟩⟩
    · have hi : i = x.length := by have := HI.out; omega
      subst hi
      go_wp2_with fail
      go_ret
      exact ⟨rfl, HRi.out, HSi.out⟩
/-- Row plus row times word, at an offset, i words of it. -/
def addV (y : List Int) (m a off : Nat) (L : List Int) : Nat → List Int × Nat
  | 0 => (L, a)
  | i + 1 => ((addV y m a off L i).1.set (off + i) ((((y.getD i 0).toNat * m + ((addV y m a off L i).1.getD (off + i) 0).toNat + (addV y m a off L i).2) % 18446744073709551616 : Nat) : Int), ((y.getD i 0).toNat * m + ((addV y m a off L i).1.getD (off + i) 0).toNat + (addV y m a off L i).2) / 18446744073709551616)
theorem addV_len (y : List Int) (m a off : Nat) (L : List Int) (i : Nat) : (addV y m a off L i).1.length = L.length := by
  induction i with
  | zero => rfl
  | succ i ih => unfold addV; rw [List.length_set, ih]
theorem addV_ok (y : List Int) (m a off : Nat) {L : List Int} (h : L64.Ok L) (i : Nat) : L64.Ok (addV y m a off L i).1 := by
  induction i with
  | zero => exact h
  | succ i ih =>
    unfold addV
    exact L64.ok_set ih _ (Int.natCast_nonneg _) (by have := Nat.mod_lt ((y.getD i 0).toNat * m + ((addV y m a off L i).1.getD (off + i) 0).toNat + (addV y m a off L i).2) (show 0 < 18446744073709551616 by omega); omega)
theorem carry2_lt {a y b c : Nat} (ha : a < 18446744073709551616) (hy : y < 18446744073709551616) (hb : b < 18446744073709551616) (hc : c < 18446744073709551616) : (a * y + b + c) / 18446744073709551616 < 18446744073709551616 := by
  have hp : a * y ≤ 18446744073709551615 * 18446744073709551615 := Nat.mul_le_mul (by omega) (by omega)
  generalize a * y = p at *
  omega
theorem addV_lt {y : List Int} {m a : Nat} (off : Nat) {L : List Int} (hL : L64.Ok L) (hy : L64.Ok y) (hm : m < 18446744073709551616) (ha : a < 18446744073709551616) (i : Nat) : (addV y m a off L i).2 < 18446744073709551616 := by
  induction i with
  | zero => exact ha
  | succ i ih => exact carry2_lt (word_lt hy i) hm (word_lt (addV_ok y m a off hL i) _) ih
theorem keepT {w w1 : World} {a b : Addr} {u v : Value} (hb : Below w.heap.size w w1) (h : w.cell? a = some u ∧ w.cell? b = some v) : w1.cell? a = some u ∧ w1.cell? b = some v :=
  ⟨(hb.cell (World.block_lt_of_cell? w a h.1)).trans h.1, (hb.cell (World.block_lt_of_cell? w b h.2)).trans h.2⟩
theorem sum2 (Y m x c : Nat) (hY : Y < 18446744073709551616) (hm : m < 18446744073709551616) (hx : x < 18446744073709551616) (hc : c < 18446744073709551616) :
    ∃ qh ql lo cc : Int, 0 ≤ ql ∧ (((Y * m + x) / 18446744073709551616 : Nat) : Int) = qh ∧ (((Y * m + x) % 18446744073709551616 : Nat) : Int) = ql ∧ (ql + (c : Int)) % 18446744073709551616 = lo ∧ (ql + (c : Int)) / 18446744073709551616 = cc ∧
    (((Y * m + x + c) % 18446744073709551616 : Nat) : Int) = lo ∧ IntKind.u64.wrap (cc + qh) = (((Y * m + x + c) / 18446744073709551616 : Nat) : Int) := by
  have hp : Y * m ≤ 18446744073709551615 * 18446744073709551615 := Nat.mul_le_mul (by omega) (by omega)
  generalize Y * m = p at *
  refine ⟨_, _, _, _, ?_, rfl, rfl, rfl, rfl, ?_, ?_⟩
  · omega
  · omega
  · rw [IntKind.wrap_u64]
    omega
set_option maxRecDepth 100000 in
theorem addMulVVWW_g_is (ws : World) (g off cz cz2 : Nat) (L y : List Int) (A : Option Addr) (cy : Nat) (m a : Nat) (w : World) (hB : RowAt w g L) (hLo : L64.Ok L) (hs : Below ws.heap.size ws w) (hg : ws.heap.size ≤ g) (hL : off + y.length ≤ L.length) (hml : L.length ≤ 1000000)
    (hC : Kd.C (Kd.int .u64) ws A y.length y) (hy : L64.Ok y) (hm : m < 18446744073709551616) (ha : a < 18446744073709551616) :
    Calls Tryz.prog 82 #[.slice (some ⟨g, off, none⟩) y.length cz, .slice (some ⟨g, off, none⟩) y.length cz2, .slice A y.length cy, .int .u64 (m : Int), .int .u64 (a : Int)] w fun e w' => e = .returned (.int .u64 ((addV y m a off L y.length).2 : Int)) ∧ RowAt w' g (addV y m a off L y.length).1 ∧ Below ws.heap.size ws w' := by
  have HR := Aside0.mk hB
  have HLo := Aside0.mk hLo
  have HS := Aside0.mk hs
  have HG := Aside0.mk hg
  have HL := Aside0.mk (And.intro hL hml)
  have HC := Aside0.mk hC
  have HX := Aside0.mk hy
  have HY := Aside0.mk hm
  have HRr := Aside0.mk ha
  clear hB hLo hs hg hL hml hC hy hm ha
  go_enter Tryz.func82, Tryz.ntmps82
  go_wp2
  go_loopg [10, 32] (y.length) (fun kq v10 v32 w' => ∃ (i : Nat), v10 = .int .u64 ((addV y m a off L i).2 : Int) ∧ v32 = .int .i64 (i : Int) ∧ Aside0 (i + kq = y.length) ∧ Aside0 (RowAt w' g (addV y m a off L i).1) ∧ Aside0 (Below ws.heap.size ws w'))
  case atStart => exact ⟨0, rfl, rfl, ⟨Nat.zero_add _⟩, HR, HS⟩
  case round =>
    obtain ⟨i, rfl, rfl, HI, HRi, HSi⟩ := hrel
    clear HR HS
    by_cases c : i < y.length
    · cases gk with
      | zero => exact absurd HI.out (by omega)
      | succ k1 =>
        obtain ⟨ad, rfl, hyi⟩ := Kd.at_int (Kd.C_below HC.out HSi.out) (i : Int) (by omega) (by omega)
        obtain ⟨Y, hY⟩ : ∃ Y : Nat, y.getD i 0 = (Y : Int) := ⟨(y.getD i 0).toNat, by have := L64.ok_get HX.out i; omega⟩
        have hYl := word_lt HX.out i
        have hcl := addV_lt off HLo.out HX.out HY.out HRr.out i
        have hln := addV_len y m a off L i
        have hok := addV_ok y m a off HLo.out i
        have HLi := Aside0.mk (show off + i < (addV y m a off L i).1.length by rw [hln]; have := HL.out; omega)
        have hst : addV y m a off L (i + 1) = ((addV y m a off L i).1.set (off + i) ((((y.getD i 0).toNat * m + ((addV y m a off L i).1.getD (off + i) 0).toNat + (addV y m a off L i).2) % 18446744073709551616 : Nat) : Int), ((y.getD i 0).toNat * m + ((addV y m a off L i).1.getD (off + i) 0).toNat + (addV y m a off L i).2) / 18446744073709551616) := rfl
        unfold rd at hyi
        rw [Int.toNat_natCast, hY] at hyi
        rw [hY, Int.toNat_natCast] at hYl hst
        obtain ⟨T, hT⟩ : ∃ T, addV y m a off L i = T := ⟨_, rfl⟩
        rw [hT] at hst hcl HRi HLi hok ⊢
        obtain ⟨Li, ci⟩ := T
        obtain ⟨x, hx⟩ : ∃ x : Nat, Li.getD (off + i) 0 = (x : Int) := ⟨(Li.getD (off + i) 0).toNat, by have := L64.ok_get (l := Li) hok (off + i); omega⟩
        have hxl := word_lt hok (off + i)
        have hr := HRi.out.cell (off + i) HLi.out
        simp only [] at hst
        rw [hx, Int.toNat_natCast] at hxl hst
        rw [hx] at hr
        obtain ⟨qh, ql, lo, cc, hs0, hs1, hs2, hs3, hs4, hs5, hs6⟩ := sum2 Y m x ci hYl HY.out hxl hcl
        have HMu := fun w0 => mulAddWWW_is Y m x hYl HY.out hxl w0
        have HAd := fun w0 => add_is ql (ci : Int) hs0 (Int.natCast_nonneg _) w0
        rw [hs1, hs2] at HMu
        rw [hs3, hs4] at HAd
        rw [hs5] at hst
        obtain ⟨c2, hc2⟩ : ∃ c2 : Nat, (Y * m + x + ci) / 18446744073709551616 = c2 := ⟨_, rfl⟩
        rw [hc2] at hst hs6
        have HMu := Aside0.mk HMu
        have HAd := Aside0.mk HAd
        have c0 : decide ((i : Int) < (y.length : Int)) = true := decide_eq_true (by omega)
        have c1 : decide (i < y.length) = true := decide_eq_true c
        have HST := Aside0.mk hst
        have H2 := Aside0.mk hs6
        clear hY hYl hln hT hcl hs0 hs1 hs2 hs3 hs4 hs5 hs6 hx hxl hok hst hc2
        go_wp2_with fail
        go_region_held3 (fun w' => w'.cell? (ad.add i) = some (.int .u64 (Y : Int)) ∧ w'.cell? ⟨g, off + i, none⟩ = some (.int .u64 (x : Int))) (first | exact ⟨hyi, hr⟩ | go_keep | (refine keepT hb4 ?_; assumption))
          (first | (go_at_call 91; refine (HMu.out _).mono ?_; rintro e4 w4 ⟨rfl, hb4⟩; have HR4 := Aside0.mk (HRi.out.drew.below hb4); have HS4 := Aside0.mk (below_step (below_drew HSi.out) hb4)))
        try clear hb4
        clear HRi HSi hyi hr
        go_wp2_with fail
        refine (HAd.out _).mono ?_
        rintro e w5 ⟨rfl, hb⟩
        have HR5 := Aside0.mk (HR4.out.below hb)
        have HS5 := Aside0.mk (below_step HS4.out hb)
        clear hb HR4 HS4 HAd HMu
        have hr := HR5.out.cell (off + i) HLi.out
        have hz := blk_frozen HR5.out (off + i)
        go_wp2_with fail
        rw [H2.out]
        go_roundg k1
        case measure => omega
        case rel => exact ⟨i + 1, (by rw [HST.out]), (by first | rfl | (rw [w64_succ i (by have := HL.out; omega)])), ⟨by have := HI.out; omega⟩, ⟨by rw [HST.out]; exact HR5.out.set (off + i) lo⟩, ⟨below_set HS5.out HG.out⟩⟩
    · have hi : i = y.length := by have := HI.out; omega
      subst hi
      go_wp2_with fail
      go_ret
      exact ⟨rfl, HRi.out, HSi.out⟩
end Go.Proofs.YtghabdpbacgicaaGreatDoor.G
