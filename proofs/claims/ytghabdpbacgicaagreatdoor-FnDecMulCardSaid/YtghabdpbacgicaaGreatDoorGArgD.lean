/-
  A DECIMAL BY VALUE (text, exponent), opened and shut.
-/
import Derived.Test.YtghabdpbacgicaaGreatDoorCards
import Derived.ProofKit
import Derived.OpenShut
import Derived.OpenVars
import Derived.WalkSmall
import Derived.Stop.LaidErr
import Derived.Deep.DeepHandedRow
import Derived.Deep.DeepWitnessRowRef
import Derived.Lib.LaidTab
import Derived.Lib.SmallJoins
namespace Go.Proofs.YtghabdpbacgicaaGreatDoor.G
open Go.ChangeShapes Go.WideShapes Go.ChangeAt Go.RowKit Go.Joins
set_option linter.unusedVariables false

theorem own : ownKnob Tryz.prog.godebug = none := by kernel_rfl
theorem laidOut : laidOutB Tryz.prog = true := by kernel_rfl
theorem cellsDec : Tryz.prog.cellsOf 23 = 2 := by kernel_rfl
/-- A decimal as data. -/
abbrev decD {H : Type} (s : ByteArray) (e : Int) : DataW H := .agg [.lit (.string s.data.toList), .lit (.int .i64 e)]
set_option maxRecDepth 100000 in
theorem openDec {H : Type} {enc : TypeId × Value → H} {W : World} {base b0 : Nat} {spare : Nat → Bool} {held : Bool} {r : Reach} {v : Value} {d : DataW H} {p : List MemPlace} (hv : Value.okWide Tryz.prog W r b0 23 v) (h : DataW.Trod enc Tryz.prog W base spare held 23 v d p) :
    ∃ (s : ByteArray) (e : Int), v = .agg #[.string s, .int .i64 e] ∧ d = decD s e ∧ p = [] ∧ s.size ≤ maxLen ∧ (Lit.int .i64 e).wf = true := by
  obtain ⟨c0, c1, y0, y1, m, rfl, rfl, rfl, hy0, hy1⟩ := open_agg2 Tryz.underlying23 (by kernel_rfl) cellsDec hv h
  obtain ⟨s, e0, rfl, ws⟩ := DataW.trod_string Tryz.underlying9 hy0
  obtain ⟨n, e1, rfl, wn⟩ := DataW.trod_int Tryz.underlying3 hy1
  simp at e0 e1
  subst e0 e1
  exact ⟨s, n, rfl, rfl, rfl, ws, wn⟩
set_option maxRecDepth 100000 in
theorem shutDec {H : Type} {enc : TypeId × Value → H} {W : World} {base : Nat} {spare : Nat → Bool} {held : Bool} {s : ByteArray} {e : Int} (ws : s.size ≤ maxLen) (wn : (Lit.int .i64 e).wf = true) : DataW.Trod enc Tryz.prog W base spare held 23 (.agg #[.string s, .int .i64 e]) (decD s e) [] :=
  shut_agg2 (y0 := (.lit (.string s.data.toList), [])) (y1 := (.lit (.int .i64 e), [])) Tryz.underlying23 (by kernel_rfl) cellsDec ⟨1, by simp [DataW.trod, Tryz.underlying9, ws]⟩ ⟨1, by simp [DataW.trod, Tryz.underlying3, wn]⟩
end Go.Proofs.YtghabdpbacgicaaGreatDoor.G
