/-
  NAMED VARIABLES READ AGAIN BEHIND A CALL that leaves what was there as it was: a variable of an interface type ahead of others; what the listed sentinels give.
-/
import Derived.Test.YtcgdphciepdkiaaDoorCards
import Derived.Test.YtcgdphciepdkiaaDoorGNew
import Derived.ProofKit
import Derived.OpenShut
import Derived.OpenVars
import Derived.WalkSmall
import Derived.Stop.LaidErr
import Derived.Deep.DeepHandedRow
import Derived.Deep.DeepWitnessRowRef
import Derived.Lib.LaidTab
namespace Go.Proofs.YtcgdphciepdkiaaDoor.G
open Go.ChangeShapes Go.WideShapes Go.ChangeAt Go.RowKit
set_option linter.unusedVariables false

theorem varsCons {H : Type} {enc : TypeId × Value → H} {P : Program} {W W' : World} {sp sp' : Nat → Bool} {n : String} {ns : List String} {gs : List (DataW H)} {ps : List MemPlace} {g : Nat} {ti : TypeId} {ms : Array (String × TypeId)} {x : Value}
    (hg : P.globalNamed n = some g) (ht : (P.globals[g]?).map (·.type) = some ti) (hi : P.underlying ti = some (.interface ms)) (hv : W.var? P n = some #[x]) (ix : IsIface x) (hgB : g < W.heap.size) (hb : Below W.heap.size W W')
    (h : DataW.TrodVars enc P W sp (n :: ns) gs ps) : ∃ gs' q, gs = tok enc x :: gs' ∧ DataW.TrodVars enc P W sp ns gs' q ∧ (DataW.TrodVars enc P W' sp' ns gs' q → DataW.TrodVars enc P W' sp' (n :: ns) gs ps) := by
  cases gs with
  | nil => exact h.elim
  | cons d gs' =>
    obtain ⟨g', t, cs, fuel, p, q, h1, h2, h3, h4, hs, e⟩ := h
    obtain rfl := Option.some.inj (hg.symm.trans h1)
    obtain rfl := Option.some.inj (ht.symm.trans h2)
    obtain rfl : cs = #[x] := Option.some.inj (h3.symm.trans hv)
    have hh := fun (w : World) (s : Nat → Bool) => trod_held (enc := enc) (P := P) (W := w) (base := 0) (sp := s) hi ix 0
    obtain ⟨rfl, rfl⟩ := DataW.Trod.unique (v := .agg #[x]) ⟨fuel, h4⟩ ⟨1, hh W sp⟩
    exact ⟨gs', q, rfl, hs, fun k => ⟨g, ti, #[x], 1, [], q, hg, ht, var?_below hb hg hgB hv, hh W' sp', k, e⟩⟩

theorem gScale : Tryd.prog.globalNamed "given.example/pub-alexandrine/pub/govalues.errScaleRange" = some 1 := by kernel_rfl
theorem gOver : Tryd.prog.globalNamed "given.example/pub-alexandrine/pub/govalues.errDecimalOverflow" = some 2 := by kernel_rfl
theorem gScaleType : (Tryd.prog.globals[1]?).map (·.type) = some 66 := by kernel_rfl
theorem gOverType : (Tryd.prog.globals[2]?).map (·.type) = some 66 := by kernel_rfl
theorem own : ownKnob Tryd.prog.godebug = none := by kernel_rfl
theorem laidOut : laidOutB Tryd.prog = true := by kernel_rfl
theorem cells126 : Tryd.prog.cellsOf 126 = 1 := by kernel_rfl
theorem cells9 : Tryd.prog.cellsOf 9 = 1 := by kernel_rfl
theorem star : "*" ++ "errors.errorString" = "*errors.errorString" := by decide
theorem row111 (u : TypeId) (h : Tryd.prog.typeName? 3 u = some "*errors.errorString") : u = 111 :=
  typeName_ptr_named (nm := "errors.errorString") (by rw [star]; kernel_rfl) (by kernel_rfl) (by decide) u (by rw [star]; exact h)

/-- WHAT THE LIST GIVES of the two sentinels. -/
theorem sentinels {W : World} {rest : List (String × DataW Unit)} (h : laidMet Tryd.prog (("given.example/pub-alexandrine/pub/govalues.errDecimalOverflow", Rows.laid_given_example_pub_alexandrine_pub_govalues_errDecimalOverflow) :: ("given.example/pub-alexandrine/pub/govalues.errScaleRange", Rows.laid_given_example_pub_alexandrine_pub_govalues_errScaleRange) :: rest) W) :
    ∃ a b : Addr, W.var? Tryd.prog "given.example/pub-alexandrine/pub/govalues.errScaleRange" = some #[.iface 111 (.pointer (some a))] ∧ W.var? Tryd.prog "given.example/pub-alexandrine/pub/govalues.errDecimalOverflow" = some #[.iface 111 (.pointer (some b))] ∧ Sens W 111 a b := by
  obtain ⟨b, sb, hvb, _⟩ := laid_sentinel h gOver gOverType Tryd.underlying66 row111 Tryd.underlying111 Tryd.underlying126 rfl rfl Tryd.underlying9 cells126 cells9
  obtain ⟨a, sa, hva, _⟩ := laid_sentinel h.tail gScale gScaleType Tryd.underlying66 row111 Tryd.underlying111 Tryd.underlying126 rfl rfl Tryd.underlying9 cells126 cells9
  exact ⟨a, b, hva, hvb, by simpa using World.var?_cell gScale hva 0, by simpa using World.var?_cell gOver hvb 0⟩
end Go.Proofs.YtcgdphciepdkiaaDoor.G
