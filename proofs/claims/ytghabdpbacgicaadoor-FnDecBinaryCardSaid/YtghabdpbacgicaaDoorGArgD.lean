/-
  A DECIMAL BY VALUE (text, exponent), opened and shut; the package's bound on exponents, as the given row lists it.
-/
import Derived.Test.YtghabdpbacgicaaDoorCards
import Derived.ProofKit
import Derived.OpenShut
import Derived.OpenVars
import Derived.WalkSmall
import Derived.Stop.LaidErr
import Derived.Deep.DeepHandedRow
import Derived.Deep.DeepWitnessRowRef
import Derived.Lib.LaidTab
import Derived.Lib.SmallJoins
namespace Go.Proofs.YtghabdpbacgicaaDoor.G
open Go.ChangeShapes Go.WideShapes Go.ChangeAt Go.RowKit Go.Joins
set_option linter.unusedVariables false

theorem own : ownKnob Tryd.prog.godebug = none := by kernel_rfl
theorem laidOut : laidOutB Tryd.prog = true := by kernel_rfl
theorem cellsDec : Tryd.prog.cellsOf 23 = 2 := by kernel_rfl
theorem gMax : Tryd.prog.globalNamed "given.example/pub-alexandrine/pub/shopspring.MaxDecodeExponent" = some 1 := by kernel_rfl
theorem gMaxType : (Tryd.prog.globals[1]?).map (·.type) = some 3 := by kernel_rfl
/-- WHAT THE ROW's LIST GIVES. -/
theorem laidMax {W : World} {rest : List (String × DataW Unit)} (h : laidMet Tryd.prog (("given.example/pub-alexandrine/pub/shopspring.MaxDecodeExponent", Rows.laid_given_example_pub_alexandrine_pub_shopspring_MaxDecodeExponent) :: rest) W) :
    ∃ o, W.heap[1]? = some o ∧ W.cell? ⟨1, 0, none⟩ = some (.int .i64 10000) := by
  obtain ⟨ps, ⟨g0, t0, cs0, f0, p0, q0, hg0, ht0, hv0, hd0, _, e0⟩, _, hrows⟩ := h
  obtain rfl := Option.some.inj (gMax.symm.trans hg0)
  obtain rfl := Option.some.inj (gMaxType.symm.trans ht0)
  obtain ⟨z, hz, hx, _⟩ := DataW.trod_int Tryd.underlying3 hd0
  obtain rfl : (10000 : Int) = z := by
    have := congrArg Prod.fst hx
    simpa [Rows.laid_given_example_pub_alexandrine_pub_shopspring_MaxDecodeExponent] using this
  obtain ⟨l0⟩ := cs0
  simp at hz
  subst hz
  have hc := World.var?_cell hg0 hv0 0
  have hc' : W.cell? ⟨1, 0, none⟩ = some (.int .i64 10000) := by simpa using hc
  have hlt := World.block_lt_of_cell? W _ hc'
  exact ⟨_, Array.getElem?_eq_getElem hlt, hc'⟩
/-- A decimal as data. -/
abbrev decD {H : Type} (s : ByteArray) (e : Int) : DataW H := .agg [.lit (.string s.data.toList), .lit (.int .i64 e)]
set_option maxRecDepth 100000 in
theorem openDec {H : Type} {enc : TypeId × Value → H} {W : World} {base b0 : Nat} {spare : Nat → Bool} {held : Bool} {r : Reach} {v : Value} {d : DataW H} {p : List MemPlace} (hv : Value.okWide Tryd.prog W r b0 23 v) (h : DataW.Trod enc Tryd.prog W base spare held 23 v d p) :
    ∃ (s : ByteArray) (e : Int), v = .agg #[.string s, .int .i64 e] ∧ d = decD s e ∧ p = [] ∧ s.size ≤ maxLen ∧ (Lit.int .i64 e).wf = true := by
  obtain ⟨c0, c1, y0, y1, m, rfl, rfl, rfl, hy0, hy1⟩ := open_agg2 Tryd.underlying23 (by kernel_rfl) cellsDec hv h
  obtain ⟨s, e0, rfl, ws⟩ := DataW.trod_string Tryd.underlying9 hy0
  obtain ⟨n, e1, rfl, wn⟩ := DataW.trod_int Tryd.underlying3 hy1
  simp at e0 e1
  subst e0 e1
  exact ⟨s, n, rfl, rfl, rfl, ws, wn⟩
set_option maxRecDepth 100000 in
theorem shutDec {H : Type} {enc : TypeId × Value → H} {W : World} {base : Nat} {spare : Nat → Bool} {held : Bool} {s : ByteArray} {e : Int} (ws : s.size ≤ maxLen) (wn : (Lit.int .i64 e).wf = true) : DataW.Trod enc Tryd.prog W base spare held 23 (.agg #[.string s, .int .i64 e]) (decD s e) [] :=
  shut_agg2 (y0 := (.lit (.string s.data.toList), [])) (y1 := (.lit (.int .i64 e), [])) Tryd.underlying23 (by kernel_rfl) cellsDec ⟨1, by simp [DataW.trod, Tryd.underlying9, ws]⟩ ⟨1, by simp [DataW.trod, Tryd.underlying3, wn]⟩
end Go.Proofs.YtghabdpbacgicaaDoor.G
