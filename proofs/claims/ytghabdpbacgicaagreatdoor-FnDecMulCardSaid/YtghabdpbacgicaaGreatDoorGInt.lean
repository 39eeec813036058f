/-
  THE BIG NUMBERS' OWN OBJECT IN MEMORY, and its small functions: SetBits, Neg, Bits, Sign.
-/
import Derived.Test.YtghabdpbacgicaaGreatDoorTI
import Derived.Test.YtghabdpbacgicaaGreatDoorSNrm
import Derived.Outline
import Derived.Lib.Builder
namespace Go.Proofs.YtghabdpbacgicaaGreatDoor.G
open Go.RowKit Go.Proofs.YtghabdpbacgicaaGreatDoorW.PrintWords Go.Proofs.YtghabdpbacgicaaGreatDoorW.PrintLast Go.Proofs.YtghabdpbacgicaaGreatDoorW.PrintMore Go.Proofs.YtghabdpbacgicaaGreatDoor.S
set_option linter.unusedVariables false
set_option linter.unusedSimpArgs false

/-- Block g holds a number: its sign, its limbs of 64 bits; the row of these is no part of g, and no block below bs. -/
def IntAt (w : World) (bs g : Nat) (b : Bool) (l : List Int) : Prop := ∃ A c, w.heap[g]? = some (.cells #[.bool b, .slice A l.length c] 65 (0, 0)) ∧ Kd.V (Kd.int .u64) 81 w 0 (fun k => k ≠ g ∧ bs ≤ k) (.slice A l.length c) l
theorem IntAt.below {w w1 : World} {bs g : Nat} {b : Bool} {l : List Int} (h : IntAt w bs g b l) (hb : Below w.heap.size w w1) : IntAt w1 bs g b l := by
  obtain ⟨A, c, hB, hV⟩ := h
  exact ⟨A, c, blk_below hB hb, Kd.V_below hV hb⟩
theorem IntAt.lt {w : World} {bs g : Nat} {b : Bool} {l : List Int} (h : IntAt w bs g b l) : g < w.heap.size := by
  obtain ⟨A, c, hB, _⟩ := h
  exact blk_lt hB
theorem IntAt.lower {w : World} {bs bs' g : Nat} {b : Bool} {l : List Int} (h : IntAt w bs g b l) (hb : bs' ≤ bs) : IntAt w bs' g b l := by
  obtain ⟨A, c, hB, hV⟩ := h
  exact ⟨A, c, hB, Kd.V_mono hV (fun k hk => ⟨hk.1, Nat.le_trans hb hk.2⟩)⟩
/-- Another block has been written, an elder one. -/
theorem IntAt.far {w : World} {bs g : Nat} {b : Bool} {l : List Int} (h : IntAt w bs g b l) {p : Addr} (hg : g ≠ p.block) (hp : p.block < bs) (u : Value) : IntAt (w.setCell p u) bs g b l := by
  obtain ⟨A, c, hB, hV⟩ := h
  exact ⟨A, c, blk_far hB hg u, Kd.V_far hV (fun k hk => by have := hk.2; omega) u⟩
theorem setBits_is (k : Nat) (P0_ : Nat → Prop) (ws : World) (g c : Nat) (A : Option Addr) (l l' : List Int) (b0 : Bool) (u : Value) (w : World) (hB : w.heap[g]? = some (.cells #[.bool b0, u] 65 (0, 0))) (hs : Below ws.heap.size ws w) (hbase : ws.heap.size ≤ g)
    (hV : Kd.V (Kd.int .u64) 81 w w.heap.size (fun k_ => P0_ k_) (.slice A l.length c) l) (hP : ¬ P0_ g) (hP0 : ∀ k_, P0_ k_ → ws.heap.size ≤ k_) (hn : bigall_nat_norm.f k l = some l') :
    Calls Tryz.prog 37 #[.pointer (some ⟨g, 0, none⟩), .slice A l.length c] w fun e w' => e = .returned (.pointer (some ⟨g, 0, none⟩)) ∧ IntAt w' ws.heap.size g false l' ∧ Below ws.heap.size ws w' := by
  have HN := Aside0.mk (bigall_nat_norm.calls k P0_ A c l l' w hV hn)
  have HB := Aside0.mk hB
  have HL := Aside0.mk (blk_lt hB)
  have HBs := Aside0.mk hbase
  have HS := Aside0.mk hs
  have HP := Aside0.mk hP
  have HSz := Aside0.mk hs.size
  clear hB hV hn hbase hP hs
  go_enter Tryz.func37, Tryz.ntmps37
  go_wp2_with fail
  refine HN.out.mono ?_
  rintro e w1 ⟨v, rfl, hv, hb⟩
  have B1 := Aside0.mk (blk_below HB.out hb)
  have HV := Aside0.mk hv
  have HB1 := Aside0.mk (below_step HS.out hb)
  clear hb hv HN HB
  obtain ⟨A', c', ev⟩ := Kd.V_slice HV.out
  subst ev
  have c0 := (blk_cell B1.out 0).trans rfl; have zc0 := blk_frozen B1.out 0; have c1 := (blk_cell B1.out 1).trans rfl; have zc1 := blk_frozen B1.out 1
  go_wp2_with fail
  have hne : ∀ k_, (P0_ k_ ∨ w.heap.size ≤ k_) → k_ ≠ g := fun k_ hk e => by
    subst e
    rcases hk with h | h
    · exact HP.out h
    · exact absurd HL.out (by omega)
  have hV2 := Kd.V_far (p := ⟨g, 0, none⟩) (Kd.V_far (p := ⟨g, 1, none⟩) HV.out hne (.slice A' l'.length c')) hne (.bool false)
  have hB2 := blk_put (cs' := #[.bool false, .slice A' l'.length c']) (blk_put (cs' := #[.bool b0, .slice A' l'.length c']) B1.out 1 (.slice A' l'.length c') rfl) 0 (.bool false) rfl
  exact bodyPost_ret (v := .pointer (some ⟨g, 0, none⟩)) (by simp [results, Tryz.results37, go_sem]) rfl ⟨rfl, ⟨A', c', hB2, Kd.V_mono (Kd.V_lower hV2 (Nat.zero_le _)) (fun k_ hk => ⟨hne k_ hk, hk.elim (hP0 k_) (fun h => Nat.le_trans HSz.out h)⟩)⟩, below_set (below_set HB1.out HBs.out) HBs.out⟩
set_option maxRecDepth 100000 in
theorem set_same (g : Nat) (w : World) : Calls Tryz.prog 47 #[.pointer (some ⟨g, 0, none⟩), .pointer (some ⟨g, 0, none⟩)] w fun e w' => e = .returned (.pointer (some ⟨g, 0, none⟩)) ∧ Drawn0 w w' := by
  have hp := Tryz.underlying40
  obtain ⟨j, hj⟩ : ∃ j, Tryz.prog.info? 65 = some j := Option.isSome_iff_exists.1 (by kernel_rfl)
  have hq := fun w => Go.Lib.run_neq_ptr_same (w := w) (⟨g, 0, none⟩ : Addr) hp hj
  clear hp hj
  go_enter Tryz.func47, Tryz.ntmps47
  go_wp2_with fail
  go_ret
  exact ⟨rfl, Drawn0.refl _⟩
/-- The sign turned; the limbs' row is another block. -/
theorem neg_is (ws : World) (g c : Nat) (b : Bool) (l : List Int) (A : Option Addr) (w : World) (hB : w.heap[g]? = some (.cells #[.bool b, .slice A l.length c] 65 (0, 0))) (hs : Below ws.heap.size ws w) (hbase : ws.heap.size ≤ g) :
    Calls Tryz.prog 38 #[.pointer (some ⟨g, 0, none⟩), .pointer (some ⟨g, 0, none⟩)] w fun e w' => e = .returned (.pointer (some ⟨g, 0, none⟩)) ∧ ∃ m, w' = (w.drewN m).setCell ⟨g, 0, none⟩ (.bool (decide (0 < l.length) && !b)) := by
  have HB := Aside0.mk hB
  clear hB
  have c0 := (blk_cell HB.out 0).trans rfl; have zc0 := blk_frozen HB.out 0; have c1 := (blk_cell HB.out 1).trans rfl; have zc1 := blk_frozen HB.out 1
  by_cases hl : 0 < l.length
  · have hd : decide (0 < l.length) = true := decide_eq_true hl
    have HL := Aside0.mk hl
    clear hl
    go_enter Tryz.func38, Tryz.ntmps38
    go_wp2_with fail
    refine (set_same g _).mono ?_
    rintro e w1 ⟨rfl, ⟨m, rfl⟩⟩
    go_wp2_with fail
    exact bodyPost_ret (v := .pointer (some ⟨g, 0, none⟩)) (by simp [results, Tryz.results38, go_sem]) rfl ⟨rfl, m, by first | rfl | rw [decide_eq_true HL.out, Bool.true_and]⟩
  · have hd : decide (0 < l.length) = false := decide_eq_false hl
    have HL := Aside0.mk hl
    clear hl
    go_enter Tryz.func38, Tryz.ntmps38
    go_wp2_with fail
    refine (set_same g _).mono ?_
    rintro e w1 ⟨rfl, ⟨m, rfl⟩⟩
    go_wp2_with fail
    exact bodyPost_ret (v := .pointer (some ⟨g, 0, none⟩)) (by simp [results, Tryz.results38, go_sem]) rfl ⟨rfl, m, by first | rfl | rw [decide_eq_false HL.out, Bool.false_and]⟩
/-- -1, 0 or 1 as the number is below 0, 0, or above. -/
def sgnI (b : Bool) (l : List Int) : Int := if l.length = 0 then 0 else if b = true then -1 else 1
theorem bits_is (g : Nat) (b : Bool) (l : List Int) (A : Option Addr) (c : Nat) (w : World) (hB : w.heap[g]? = some (.cells #[.bool b, .slice A l.length c] 65 (0, 0))) :
    Calls Tryz.prog 39 #[.pointer (some ⟨g, 0, none⟩)] w fun e w' => e = .returned (.slice A l.length c) ∧ w = w' := by
  have HB := Aside0.mk hB
  clear hB
  have c0 := (blk_cell HB.out 0).trans rfl; have zc0 := blk_frozen HB.out 0; have c1 := (blk_cell HB.out 1).trans rfl; have zc1 := blk_frozen HB.out 1
  go_enter Tryz.func39, Tryz.ntmps39
  go_wp2_with fail
  go_ret
  exact ⟨rfl, rfl⟩
theorem sign_is (bs g : Nat) (b : Bool) (l : List Int) (w : World) (h : IntAt w bs g b l) :
    Calls Tryz.prog 40 #[.pointer (some ⟨g, 0, none⟩)] w fun e w' => e = .returned (.int .i64 (sgnI b l)) ∧ w = w' := by
  obtain ⟨A, c, hB, hV⟩ := h
  have HB := Aside0.mk hB
  clear hB hV
  have c0 := (blk_cell HB.out 0).trans rfl; have zc0 := blk_frozen HB.out 0; have c1 := (blk_cell HB.out 1).trans rfl; have zc1 := blk_frozen HB.out 1
  by_cases hl : l.length = 0
  · have hd : ((l.length : Int) == 0) = true := by simp [hl]
    have e : sgnI b l = 0 := if_pos hl
    have HE := Aside0.mk e
    clear e
    go_enter Tryz.func40, Tryz.ntmps40
    go_wp2_with fail
    exact bodyPost_ret (v := .int .i64 0) (by simp [results, Tryz.results40, go_sem]) rfl ⟨by rw [HE.out], rfl⟩
  · have hd : ((l.length : Int) == 0) = false := by simp; exact fun h => hl (by rw [h]; rfl)
    cases b with
    | true =>
      have HE := Aside0.mk (show sgnI true l = -1 by unfold sgnI; rw [if_neg hl, if_pos rfl])
      go_enter Tryz.func40, Tryz.ntmps40
      go_wp2_with fail
      exact bodyPost_ret (v := .int .i64 (-1)) (by simp [results, Tryz.results40, go_sem]) rfl ⟨by rw [HE.out], rfl⟩
    | false =>
      have HE := Aside0.mk (show sgnI false l = 1 by unfold sgnI; rw [if_neg hl, if_neg (by decide)])
      go_enter Tryz.func40, Tryz.ntmps40
      go_wp2_with fail
      exact bodyPost_ret (v := .int .i64 1) (by simp [results, Tryz.results40, go_sem]) rfl ⟨by rw [HE.out], rfl⟩
end Go.Proofs.YtghabdpbacgicaaGreatDoor.G
