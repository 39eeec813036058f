/-
  CONTRACTS: a number as bytes (GobEncode).
-/
import Derived.Test.YtghabdpbacgicaaDoorGMade
import Derived.Test.YtghabdpbacgicaaDoorGBy
import Derived.Test.YtghabdpbacgicaaDoorGMk
import Derived.Outline
namespace Go.Proofs.YtghabdpbacgicaaDoor.G
open Go.RowKit Go.Proofs.YtghabdpbacgicaaDoorW.PrintWords Go.Proofs.YtghabdpbacgicaaDoorW.PrintLast Go.Proofs.YtghabdpbacgicaaDoorW.PrintMore Go.Proofs.YtghabdpbacgicaaDoor.S
set_option linter.unusedVariables false
set_option linter.unusedSimpArgs false

theorem made_zero8 (n : Nat) : madeCells #[Value.int .u8 0] n = Array.replicate n (.int .u8 0) := by
  unfold madeCells
  apply Array.ext
  · simp
  · intro i h1 h2
    simp [Nat.mod_one]
theorem make8_at (n c : Nat) (w : World) (h : n ≤ c) (hc : c ≤ 2000000) : (Instr.makeSlice 34 (.int .i64 (n : Int)) (.int .i64 (c : Int))).run Tryd.prog w = .ok (.slice (some ⟨w.heap.size, 0, none⟩) n c) (w.alloc (.cells (Array.replicate c (.int .u8 0)) 5)) := by
  obtain ⟨i0, hi, hz0, hz1, hz2⟩ := info_parts tinfo_u8
  have hr := run_make (P := Tryd.prog) w 34 5 i0 (.int .u8 0) Tryd.underlying34 hi hz0 .i64 .i64 (n : Int) (c : Int) (by omega) (by omega) (by rw [hz2]; omega) (by omega)
  rw [hr, Int.toNat_natCast, Int.toNat_natCast, hz1, Nat.mul_one]
  rw [show (Value.int .u8 0).cells = #[Value.int .u8 0] from rfl, made_zero8]
theorem made_row8 (n c : Nat) (w : World) (h : n ≤ c) (hc : c ≤ 2000000) : Kd.R (Kd.int .u8) 5 (w.alloc (.cells (Array.replicate c (.int .u8 0)) 5)) w.heap.size (fun k => k = w.heap.size) (.slice (some ⟨w.heap.size, 0, none⟩) n c) (List.replicate n 0) := by
  have hr := R_row .u8 5 w.heap.size w.heap.size c (Array.replicate c (.int .u8 0)) (List.replicate n 0) (w.alloc (.cells (Array.replicate c (.int .u8 0)) 5)) (fun k => k = w.heap.size) (blk_new w _) (Nat.le_refl _) (by simpa using h) (by unfold maxLen; omega) (by simp) (by simp [Nat.min_eq_left h]) rfl
  rw [List.length_replicate] at hr
  exact hr
/-- Behind j elements a row is read on. -/
theorem C_drop {k : IntKind} {w : World} {g o : Nat} {xs : List Int} (j : Nat) (h : Kd.C (Kd.int k) w (some ⟨g, o, none⟩) xs.length xs) : Kd.C (Kd.int k) w (some ⟨g, o + j, none⟩) (xs.drop j).length (xs.drop j) := by
  obtain ⟨h1, h2, h3⟩ := h
  refine ⟨rfl, by rw [List.length_drop]; omega, fun hp => ⟨_, rfl, fun i p hi => ?_⟩⟩
  rw [List.length_drop] at hp
  obtain ⟨ad, e, h4⟩ := h3 (by omega)
  obtain rfl := Option.some.inj e
  rw [List.getElem?_drop] at hi
  obtain ⟨c, hc, hR, hcell⟩ := h4 (j + i) p hi
  refine ⟨c, hc, hR, fun t u ht => ?_⟩
  have := hcell t u ht
  have ha : ∀ (a b : Nat), (⟨g, a, none⟩ : Addr).add b = ⟨g, a + b, none⟩ := fun a b => by unfold Addr.add; split <;> simp_all
  simp only [ha, Kd.int, Kd.scalar] at this ⊢
  rw [show o + j + (i * 1 + t) = o + ((j + i) * 1 + t) by omega]
  exact this
/-- What GobEncode writes: the sign's byte ahead of the bytes. -/
def gobB (b : Bool) (i : Nat) (buf : List Int) : List Int := (buf.set (i - 1) (if b then 3 else 2)).drop (i - 1)
set_option maxRecDepth 100000 in
theorem gobEncode_is (k : Nat) (bs g : Nat) (b : Bool) (l : List Int) (i : Nat) (buf : List Int) (w : World) (hI : IntAt w bs g b l) (hl : l.length ≤ 1000) (h : bigall_nat_bytes.f k l (List.replicate (1 + l.length * 8) 0) = some ((i : Int), buf)) (hi0 : 1 ≤ i) (hi1 : i ≤ 1 + l.length * 8) :
    Calls Tryd.prog 27 #[.pointer (some ⟨g, 0, none⟩)] w fun e w' => ∃ A c, e = .returned (.tuple #[.slice A (gobB b i buf).length c, .nilIface]) ∧ (gobB b i buf).length ≤ c ∧ Kd.C (Kd.int .u8) w' A (gobB b i buf).length (gobB b i buf) ∧ Below w.heap.size w w' := by
  obtain ⟨A0, cp0, hB0, hV0⟩ := id hI
  have HB0 := Aside0.mk hB0
  have HV0 := Aside0.mk (Kd.V_bound hV0)
  have HC0 := Aside0.mk (Kd.V_reads' hV0).2.1
  have HF := Aside0.mk h
  have HL := Aside0.mk hl
  have HI0 := Aside0.mk (And.intro hi0 hi1)
  have HB := Aside0.mk (Below.refl w.heap.size w)
  have hp := Tryd.underlying43
  clear hI hB0 hV0 h hl hi0 hi1
  have c0 := (blk_cell HB0.out 0).trans rfl; have zc0 := blk_frozen HB0.out 0; have c1 := (blk_cell HB0.out 1).trans rfl; have zc1 := blk_frozen HB0.out 1
  have hw : wrap64 (1 + wrap64 ((l.length : Int) * 8)) = ((1 + l.length * 8 : Nat) : Int) := by have := HL.out; unfold wrap64; omega
  have hmk := fun w => make8_at (1 + l.length * 8) (1 + l.length * 8) w (Nat.le_refl _) (by have := HL.out; omega)
  rw [← hw] at hmk
  clear hw
  obtain ⟨o, ho⟩ : ∃ o, Obj.cells (Array.replicate (1 + l.length * 8) (.int .u8 0)) 5 = o := ⟨_, rfl⟩
  have HR := Aside0.mk (made_row8 (1 + l.length * 8) (1 + l.length * 8) w (Nat.le_refl _) (by have := HL.out; omega))
  rw [ho] at HR
  have HBY := Aside0.mk (bigall_nat_bytes.calls k A0 cp0 l (fun k => k = w.heap.size) _ _ (i : Int) buf w (w.alloc o) (below_alloc HB.out o) (fun W_ hk => (Kd.V_reads' (Kd.V_kept (Kd.V_alloc HV0.out o) hk (fun k hk => by have := hk.2; omega))).2.2) HC0.out HR.out HF.out)
  have B1 := Aside0.mk (blk_alloc HB0.out o)
  rw [ho] at hmk
  clear ho
  have d0 := (blk_cell B1.out 0).trans rfl; have zd0 := blk_frozen B1.out 0; have d1 := (blk_cell B1.out 1).trans rfl; have zd1 := blk_frozen B1.out 1
  clear HV0 HF HR
  go_enter Tryd.func27, Tryd.ntmps27
  go_wp2_with fail
  refine HBY.out.mono ?_
  rintro e w2 ⟨rfl, hr, hb, hk⟩
  have HR2 := Aside0.mk hr
  have HB2 := Aside0.mk hb
  have B2 := Aside0.mk (blk_kept B1.out hk (by have := blk_lt HB0.out; omega))
  have hlen := (Kd.R_reads' hr).1
  clear hr hb hk HBY B1 d0 d1 zd0 zd1
  have d0 := (blk_cell B2.out 0).trans rfl; have zd0 := blk_frozen B2.out 0; have d1 := (blk_cell B2.out 1).trans rfl; have zd1 := blk_frozen B2.out 1
  have hi : wrap64 ((i : Int) - 1) = ((i - 1 : Nat) : Int) := by have := HI0.out; have := HL.out; unfold wrap64; omega
  have hi0 : ((i - 1 : Nat) : Int) < (buf.length : Int) := by rw [← hlen]; have := HI0.out; omega
  have hcell := Kd.R_celln 0 HR2.out ((i - 1 : Nat) : Int) (by omega) (by rw [hlen]; exact hi0)
  rw [Int.toNat_natCast] at hcell
  obtain ⟨hx, hfx⟩ := hcell
  have HLen := Aside0.mk hlen
  have hb1 : Go.bits .or .u8 2 1 = 3 := by decide
  have hgl := Aside0.mk (blk_lt HB0.out)
  have fin : ∀ x : Int, (if b then 3 else 2) = x → Kd.C (Kd.int .u8) (w2.setCell ⟨w.heap.size, i - 1, none⟩ (.int .u8 x)) (some ⟨w.heap.size, i - 1, none⟩) (gobB b i buf).length (gobB b i buf) := fun x ex => by
    have hr := Kd.R_putn HR2.out ((i - 1 : Nat) : Int) x
    rw [Int.toNat_natCast] at hr
    have hc := (Kd.R_reads' hr).2.2
    have hd := C_drop (i - 1) hc
    rw [Nat.zero_add, ← ex] at hd
    rw [← ex]
    exact hd
  have FIN := Aside0.mk fin
  have HBE := Aside0.mk (fun v => below_set (j := i - 1) (v := v) HB2.out (Nat.le_refl _))
  have HGL := Aside0.mk (show (gobB b i buf).length = buf.length - (i - 1) by unfold gobB; rw [List.length_drop, List.length_set])
  clear fin HR2 HB2
  cases b with
  | true =>
    go_wp2_with fail
    exact bodyPost_ret (v := .tuple #[.slice (some ⟨w.heap.size, i - 1, none⟩) (buf.length - (i - 1)) (buf.length - (i - 1)), .nilIface]) (by simp [results, Tryd.results27, go_sem]) rfl ⟨_, _, by rw [HGL.out], Nat.le_of_eq HGL.out, FIN.out 3 rfl, HBE.out _⟩
  | false =>
    go_wp2_with fail
    exact bodyPost_ret (v := .tuple #[.slice (some ⟨w.heap.size, i - 1, none⟩) (buf.length - (i - 1)) (buf.length - (i - 1)), .nilIface]) (by simp [results, Tryd.results27, go_sem]) rfl ⟨_, _, by rw [HGL.out], Nat.le_of_eq HGL.out, FIN.out 2 rfl, HBE.out _⟩
end Go.Proofs.YtghabdpbacgicaaDoor.G
