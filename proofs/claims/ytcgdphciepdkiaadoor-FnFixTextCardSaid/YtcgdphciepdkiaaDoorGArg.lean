/-
  A FIX BY VALUE, opened and shut; the table of powers of ten, as the given row lists it.
-/
import Derived.Test.YtcgdphciepdkiaaDoorGVars
import Derived.Test.YtcgdphciepdkiaaDoorGFin
import Derived.Test.YtcgdphciepdkiaaDoorGMake
import Derived.Lib.SmallJoins
namespace Go.Proofs.YtcgdphciepdkiaaDoor.G
open Go.ChangeShapes Go.WideShapes Go.ChangeAt Go.RowKit Go.Joins
set_option linter.unusedVariables false

theorem cells34 : Tryd.prog.cellsOf 34 = 3 := by kernel_rfl
theorem gTab : Tryd.prog.globalNamed "given.example/pub-alexandrine/pub/govalues.pow10" = some 0 := by kernel_rfl
theorem gTabType : (Tryd.prog.globals[0]?).map (·.type) = some 101 := by kernel_rfl
theorem cells101 : Tryd.prog.cellsOf 101 = 20 := by kernel_rfl
theorem cells62 : Tryd.prog.cellsOf 62 = 1 := by kernel_rfl
/-- WHAT THE ROW's LIST GIVES: the table's cells hold the powers of ten. -/
theorem table {W : World} {rest : List (String × DataW Unit)} (h : laidMet Tryd.prog (("given.example/pub-alexandrine/pub/govalues.pow10", Rows.laid_given_example_pub_alexandrine_pub_govalues_pow10) :: rest) W) : Tab W := by
  have ht : Lib.TabIs Tryd.prog W "given.example/pub-alexandrine/pub/govalues.pow10" .u64 [1, 10, 100, 1000, 10000, 100000, 1000000, 10000000, 100000000, 1000000000, 10000000000, 100000000000, 1000000000000, 10000000000000, 100000000000000, 1000000000000000, 10000000000000000, 100000000000000000, 1000000000000000000, 10000000000000000000] :=
    Lib.tabIs_of_head (rest := rest) gTab gTabType Tryd.underlying101 Tryd.underlying62 cells62 cells101 h
  intro i hi
  have hc := ht.cell gTab i (by simpa using hi)
  rw [hc]
  congr 2
  exact (show ∀ i, i < 20 → List.getD [1, 10, 100, 1000, 10000, 100000, 1000000, 10000000, 100000000, 1000000000, 10000000000, 100000000000, 1000000000000, 10000000000000, 100000000000000, 1000000000000000, 10000000000000000, 100000000000000000, 1000000000000000000, 10000000000000000000] i 0 = ((10 ^ i : Nat) : Int) by decide) i hi

/-- A fix as data. -/
abbrev fixD {H : Type} (b : Bool) (n s : Int) : DataW H := .agg [.lit (.bool b), .lit (.int .u64 n), .lit (.int .i64 s)]
set_option maxRecDepth 100000 in
theorem openFix {H : Type} {enc : TypeId × Value → H} {W : World} {base b0 : Nat} {spare : Nat → Bool} {held : Bool} {r : Reach} {v : Value} {d : DataW H} {p : List MemPlace} (hv : Value.okWide Tryd.prog W r b0 34 v) (h : DataW.Trod enc Tryd.prog W base spare held 34 v d p) :
    ∃ (b : Bool) (n s : Int), v = fixI b n s ∧ d = fixD b n s ∧ p = [] ∧ (Lit.int .u64 n).wf = true ∧ (Lit.int .i64 s).wf = true := by
  obtain ⟨c0, c1, c2, y0, y1, y2, m, rfl, rfl, rfl, hy0, hy1, hy2⟩ := open_agg3 Tryd.underlying34 (by kernel_rfl) cells34 hv h
  obtain ⟨b, e0, rfl⟩ := DataW.trod_bool Tryd.underlying4 hy0
  obtain ⟨n, e1, rfl, wn⟩ := DataW.trod_int Tryd.underlying22 hy1
  obtain ⟨s, e2, rfl, ws⟩ := DataW.trod_int Tryd.underlying3 hy2
  simp at e0 e1 e2
  subst e0 e1 e2
  exact ⟨b, n, s, rfl, rfl, rfl, wn, ws⟩
set_option maxRecDepth 100000 in
theorem shutFix {H : Type} {enc : TypeId × Value → H} {W : World} {base : Nat} {spare : Nat → Bool} {held : Bool} {b : Bool} {n s : Int} (wn : (Lit.int .u64 n).wf = true) (ws : (Lit.int .i64 s).wf = true) : DataW.Trod enc Tryd.prog W base spare held 34 (fixI b n s) (fixD b n s) [] :=
  shut_agg3 (y0 := (.lit (.bool b), [])) (y1 := (.lit (.int .u64 n), [])) (y2 := (.lit (.int .i64 s), [])) Tryd.underlying34 (by kernel_rfl) cells34 ⟨1, by simp [DataW.trod, Tryd.underlying4]⟩ ⟨1, by simp [DataW.trod, Tryd.underlying22, wn]⟩ ⟨1, by simp [DataW.trod, Tryd.underlying3, ws]⟩
end Go.Proofs.YtcgdphciepdkiaaDoor.G
