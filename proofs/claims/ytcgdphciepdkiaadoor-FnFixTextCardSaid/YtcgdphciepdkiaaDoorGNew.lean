/-
  CONTRACTS of newSafe and what makes a decimal of its parts: the two sentinels' cells are a hypothesis.
-/
import Derived.Test.YtcgdphciepdkiaaDoorSFin
import Derived.Test.YtcgdphciepdkiaaDoorSFix
import Derived.Test.YtcgdphciepdkiaaDoorKeep
import Derived.RegionTactic
import Derived.Outline
namespace Go.Proofs.YtcgdphciepdkiaaDoor.G
open Go.RowKit Go.Proofs.YtcgdphciepdkiaaDoorW.PrintWords Go.Proofs.YtcgdphciepdkiaaDoorW.PrintLast Go.Proofs.YtcgdphciepdkiaaDoorW.PrintMore Go.Proofs.YtcgdphciepdkiaaDoor.S
set_option linter.unusedVariables false
set_option linter.unusedSimpArgs false

/-- The two sentinels hold errors. -/
structure Sens (w : World) (T : TypeId) (a b : Addr) : Prop where mk :: (scale : w.cell? ⟨1, 0, none⟩ = some (.iface T (.pointer (some a)))) (over : w.cell? ⟨2, 0, none⟩ = some (.iface T (.pointer (some b))))
theorem Sens.below {w w1 : World} {T : TypeId} {a b : Addr} (h : Sens w T a b) (hb : Below w.heap.size w w1) : Sens w1 T a b := ⟨pw_cell_below hb h.scale, pw_cell_below hb h.over⟩

abbrev decG (neg : Bool) (s c : Int) : Value := .agg #[.bool neg, .int .i8 s, .int .u64 c]
abbrev dec0 : Value := decG false 0 0
theorem newSafe_scale (neg : Bool) (c s : Int) (T : TypeId) (a b : Addr) (w : World) (hS : Sens w T a b) (h : s < 0 ∨ 19 < s) :
    Calls Tryd.prog 54 #[.bool neg, .int .u64 c, .int .i64 s] w fun e w' => e = .returned (.tuple #[dec0, .iface T (.pointer (some a))]) ∧ Below w.heap.size w w' := by
  have h1 := pw_cell_below (below_alloc (Below.refl _ w) (.cells #[.bool false, .int .i8 0, .int .u64 0] 64)) hS.scale
  clear hS
  by_cases hs : s < 0
  · clear h
    go_enter Tryd.func54, Tryd.ntmps54
    go_wp2
    go_region
    all_goals go_wp2
    all_goals exact bodyPost_ret (v := .tuple #[dec0, .iface T (.pointer (some a))]) (by simp [results, Tryd.results54, go_sem]) rfl ⟨rfl, below_drew (below_alloc (Below.refl _ _) _)⟩
  · have h2 : 19 < s := by omega
    have h3 : decide (s < 0) = false := by simp; omega
    clear h hs
    go_enter Tryd.func54, Tryd.ntmps54
    go_wp2
    go_region
    all_goals go_wp2
    all_goals exact bodyPost_ret (v := .tuple #[dec0, .iface T (.pointer (some a))]) (by simp [results, Tryd.results54, go_sem]) rfl ⟨rfl, below_drew (below_alloc (Below.refl _ _) _)⟩
theorem newSafe_over (neg : Bool) (c s : Int) (T : TypeId) (a b : Addr) (w : World) (hS : Sens w T a b) (h0 : 0 ≤ s) (h9 : s ≤ 19) (hc : 9999999999999999999 < c) :
    Calls Tryd.prog 54 #[.bool neg, .int .u64 c, .int .i64 s] w fun e w' => e = .returned (.tuple #[dec0, .iface T (.pointer (some b))]) ∧ Below w.heap.size w w' := by
  have h1 := pw_cell_below (below_alloc (Below.refl _ w) (.cells #[.bool false, .int .i8 0, .int .u64 0] 64)) hS.over
  clear hS
  go_enter Tryd.func54, Tryd.ntmps54
  go_wp2
  go_region
  all_goals go_wp2
  all_goals exact bodyPost_ret (v := .tuple #[dec0, .iface T (.pointer (some b))]) (by simp [results, Tryd.results54, go_sem]) rfl ⟨rfl, below_drew (below_alloc (Below.refl _ _) _)⟩
theorem i8_in {s : Int} (h0 : 0 ≤ s) (h9 : s ≤ 127) : IntKind.i8.wrap s = s := by
  simp [IntKind.wrap, IntKind.bits, IntKind.signed]
  omega
/-- The decimal of its parts. -/
abbrev decOf (neg : Bool) (c s : Int) : Value := decG (neg && !decide (c = 0)) s c
theorem newUnsafe_is (neg : Bool) (c s : Int) (w : World) (h0 : 0 ≤ s) (h9 : s ≤ 127) :
    Calls Tryd.prog 59 #[.bool neg, .int .u64 c, .int .i64 s] w fun e w' => e = .returned (decOf neg c s) ∧ Below w.heap.size w w' := by
  have e : govalues_newUnsafe.f neg c s = some (neg && !decide (c = 0), s, c) := by
    unfold govalues_newUnsafe.f
    have es : IntKind.i8.wrap s = s := i8_in h0 h9
    rw [es]
    by_cases h : c = 0
    · rw [if_pos h, decide_eq_true h]; simp
    · rw [if_neg h, decide_eq_false h]; simp
  exact govalues_newUnsafe.calls neg c s _ _ _ w e
theorem newSafe_ok (neg : Bool) (c s : Int) (w : World) (h0 : 0 ≤ s) (h9 : s ≤ 19) (hc : c ≤ 9999999999999999999) :
    Calls Tryd.prog 54 #[.bool neg, .int .u64 c, .int .i64 s] w fun e w' => e = .returned (.tuple #[decOf neg c s, .nilIface]) ∧ Below w.heap.size w w' := by
  have h1 := blk_new w (.cells #[.bool false, .int .i8 0, .int .u64 0] 64)
  have H1 := Aside0.mk h1
  clear h1
  go_enter Tryd.func54, Tryd.ntmps54
  go_wp2_with fail
  refine (newUnsafe_is neg c s _ h0 (by omega)).mono ?_
  rintro e w1 ⟨rfl, hb⟩
  have B1 := Aside0.mk (blk_below H1.out hb)
  have HB := Aside0.mk (below_step (below_alloc (Below.refl _ w) _) hb)
  have c0 := (blk_cell B1.out 0).trans rfl
  have c1 := (blk_cell B1.out 1).trans rfl
  have c2 := (blk_cell B1.out 2).trans rfl
  have z0 := blk_frozen B1.out 0
  have z1 := blk_frozen B1.out 1
  have z2 := blk_frozen B1.out 2
  clear hb H1
  go_wp2
  exact bodyPost_ret (v := .tuple #[decOf neg c s, .nilIface]) (by simp [results, Tryd.results54, go_sem, c0, c1, c2]) rfl ⟨rfl, below_set (below_set (below_set HB.out (Nat.le_refl _)) (Nat.le_refl _)) (Nat.le_refl _)⟩
/-- What makes a decimal of its parts, or tells an error: whichever of the three it is. -/
def Makes (neg : Bool) (c s : Int) (d1 : Bool) (d2 d3 : Int) (er : Value) (w : World) : Prop :=
  ∀ w0, Below w.heap.size w w0 → Calls Tryd.prog 54 #[.bool neg, .int .u64 c, .int .i64 s] w0 fun e w' => e = .returned (.tuple #[decG d1 d2 d3, er]) ∧ Below w0.heap.size w0 w'
theorem zzMake_of (neg : Bool) (c s : Int) (d1 : Bool) (d2 d3 : Int) (er : Value) (w : World) (hm : Makes neg c s d1 d2 d3 er w) :
    Calls Tryd.prog 32 #[.bool neg, .int .u64 c, .int .i64 s] w fun e w' => e = .returned (.tuple #[decG d1 d2 d3, er]) ∧ Below w.heap.size w w' := by
  have H1 := Aside0.mk (blk_new w (.cells #[.bool false, .int .i8 0, .int .u64 0] 64))
  have HM := Aside0.mk hm
  clear hm
  go_enter Tryd.func32, Tryd.ntmps32
  go_wp2_with fail
  refine (HM.out _ (below_alloc (Below.refl _ w) _)).mono ?_
  rintro e w1 ⟨rfl, hb⟩
  have B1 := Aside0.mk (blk_below H1.out hb)
  have HB := Aside0.mk (below_step (below_alloc (Below.refl _ w) _) hb)
  have c0 := (blk_cell B1.out 0).trans rfl
  have c1 := (blk_cell B1.out 1).trans rfl
  have c2 := (blk_cell B1.out 2).trans rfl
  have z0 := blk_frozen B1.out 0
  have z1 := blk_frozen B1.out 1
  have z2 := blk_frozen B1.out 2
  clear hb H1 HM
  go_wp2
  exact bodyPost_ret (v := .tuple #[decG d1 d2 d3, er]) (by simp [results, Tryd.results32, go_sem, c0, c1, c2]) rfl ⟨rfl, below_set (below_set (below_set HB.out (Nat.le_refl _)) (Nat.le_refl _)) (Nat.le_refl _)⟩
end Go.Proofs.YtcgdphciepdkiaaDoor.G
