/-
  Proved: 'laws.FnFixText' returns true for every input, and leaves its arguments as they were (the text of a decimal is its digits, with a point ahead of as many of them as its scale says); the card, tied.
  Conditions: the two sentinel errors read as the given row lists them; the given tie ties that to the program's text.
-/
import Derived.Test.YtcgdphciepdkiaaDoorTie
import Derived.Test.YtcgdphciepdkiaaDoorGVars
import Derived.Test.YtcgdphciepdkiaaDoorGLText
import Derived.Test.YtcgdphciepdkiaaDoorGArg
namespace Go.Proofs.YtcgdphciepdkiaaDoor.fnFixText
open Go.ChangeShapes Go.WideShapes Go.ChangeAt Go.RowKit
set_option linter.unusedVariables false

theorem walk (neg : Bool) (c s : Int) (w : World) (h0 : 0 ≤ c) (h1 : c ≤ 18446744073709551615) : Calls Tryd.prog 6 #[G.fixI neg c s] w fun e w' => e = .returned (.bool true) ∧ Below w.heap.size w w' := by
  obtain ⟨n, rfl⟩ := Int.eq_ofNat_of_zero_le h0
  by_cases h : n < 10 ^ 19 ∧ 0 ≤ s ∧ s ≤ 19
  · obtain ⟨t, rfl⟩ := Int.eq_ofNat_of_zero_le h.2.1
    exact G.lawText_yes neg n t w h.1 (by omega)
  · exact G.lawText_no neg n s w (by omega) h

set_option maxRecDepth 100000 in
theorem contract (H : Type) (enc : TypeId × Value → H) (W : World) (base : Nat) (args : Array Value) (ds gs : List (DataW H)) (before : List MemPlace)
    (hval : ∀ (j : Nat) t v, Tryd.f6.params[j]? = some t → args[j]? = some v → Value.okWide Tryd.prog W .any base t v)
    (hW : DataW.Whole enc Tryd.prog Tryd.f6.params.toList Rows.fnFixTextSpec.vars false W args.toList ds gs before) (hL : laidMetH Tryd.prog Rows.fnFixTextRow.laid W) :
    Calls Tryd.prog 6 args W fun e W' => ∃ v, e = .returned v ∧ Rows.fnFixTextSpec.post enc Tryd.prog Tryd.f6 false true false false W args v W' := by
  have hW' := hW
  obtain ⟨p, q, hA0, hV, rfl, hfz, hnd⟩ := hW
  have hA : DataW.TrodAll enc Tryd.prog W 0 (fun _ => true) true Tryd.f6.params.toList args.toList ds p := hA0
  rw [Tryd.params6] at hA hval
  obtain ⟨v0, vs0, d0, ds0, p0, q0, hargs, rfl, rfl, h0, r0⟩ := trodAll_cons hA
  obtain ⟨rfl, rfl, rfl⟩ := trodAll_nil r0
  obtain rfl : args = #[v0] := by cases args; simp_all
  obtain ⟨b0, n0, s0, rfl, rfl, rfl, wn, ws⟩ := G.openFix (hval 0 34 v0 rfl rfl) h0
  clear hA0
  obtain ⟨a, b, hva, hvb, hS⟩ := G.sentinels hL
  have g1 : 1 < W.heap.size := World.block_lt_of_cell? W _ hS.scale
  have g2 : 2 < W.heap.size := World.block_lt_of_cell? W _ hS.over
  refine (walk b0 n0 s0 W (Lm.u64_bounds wn).1 (Lm.u64_bounds wn).2).mono fun e W' ⟨he, bel⟩ => ?_
  subst he
  obtain ⟨gs1, q1', rfl, hV1, k1⟩ := G.varsCons (sp' := fun b => decide (b < W.heap.size)) G.gScale G.gScaleType Tryd.underlying66 hva trivial g1 bel hV
  obtain ⟨gs2, q2', rfl, hV2, k2⟩ := G.varsCons (sp' := fun b => decide (b < W.heap.size)) G.gOver G.gOverType Tryd.underlying66 hvb trivial g2 bel hV1
  obtain ⟨rfl, rfl⟩ := trodVars_none hV2
  exact ⟨_, rfl, _, _, _, [], _, q, hW', trodAll_mk1 (shut_bool Tryd.underlying4 _), (trodAll_cons_mk (G.shutFix wn ws) trodAll_mk0), k1 (k2 rfl), bel.frame _, fun h => by cases h⟩

/-- A WORLD FOR THE WITNESS: the settled one, two new errors, the sentinels pointing there. -/
abbrev overS : ByteArray := ⟨#[100, 101, 99, 105, 109, 97, 108, 32, 111, 118, 101, 114, 102, 108, 111, 119]⟩
abbrev scaleS : ByteArray := ⟨#[115, 99, 97, 108, 101, 32, 111, 117, 116, 32, 111, 102, 32, 114, 97, 110, 103, 101]⟩
noncomputable def low : Nat := (World.holding Tryd.prog default ⟨#[], #[], []⟩).heap.size
noncomputable def laidWorld (os : Os) : World :=
  let w0 := World.holding Tryd.prog os ⟨#[.cells #[.string overS] 126, .cells #[.string scaleS] 126], #[], []⟩
  { w0 with heap := (w0.heap.modify 2 fun
      | .cells _ t frozen => .cells #[.iface 111 (.pointer (some ⟨low, 0, none⟩))] t frozen
      | o => o).modify 1 fun
      | .cells _ t frozen => .cells #[.iface 111 (.pointer (some ⟨low + 1, 0, none⟩))] t frozen
      | o => o }
theorem laid_met (os : Os) : laidMet Tryd.prog Rows.fnFixTextRow.laid ((laidWorld os).forCall (fun _ _ => 0) ⟨#[], #[.agg #[.bool false, .int .u64 0, .int .i64 0]], []⟩).memory :=
  laidMet_of_run (ps := [.cell 2 0, .cell low 0, .cell 1 0, .cell (low + 1) 0]) 8 (by kernel_rfl) (by kernel_rfl) (by kernel_rfl)
theorem reads (os : Os) {H : Type} (enc : TypeId × Value → H) : DataW.whole enc Tryd.prog ((laidWorld os).forCall (fun _ _ => 0) ⟨#[], #[.agg #[.bool false, .int .u64 0, .int .i64 0]], []⟩).memory Tryd.f6.params.toList Rows.fnFixTextSpec.vars false #[Value.agg #[.bool false, .int .u64 0, .int .i64 0]].toList 8 =
    some ([.agg [.lit (.bool false), .lit (.int .u64 0), .lit (.int .i64 0)]], [tok enc (.iface 111 (.pointer (some ⟨low + 1, 0, none⟩))), tok enc (.iface 111 (.pointer (some ⟨low, 0, none⟩)))], [.cell 1 0, .cell 2 0]) := by kernel_rfl

set_option maxRecDepth 100000 in
theorem lifted (os : Os) (started : os.Started) (H : Type) (enc : TypeId × Value → H) (F : Stop.Interp) :
    ReturnsInHanded {} Tryd.checked os 6 .any ((OpenSpec.ofChange Rows.fnFixTextSpec).preRow enc Tryd.prog Tryd.f6 Rows.fnFixTextRow.domain false Rows.fnFixTextRow.laid) (((OpenSpec.ofChange Rows.fnFixTextSpec).at F).post enc Tryd.prog Tryd.f6 false true false false) := by
  have hx := reads os enc
  refine returnsInHanded_of_row (C := Tryd.checked) (s := OpenSpec.ofChange Rows.fnFixTextSpec) G.own started (by kernel_rfl) Tryd.func6
    (witness_row_atRef (enc := enc) (C := Tryd.checked) false (laidWorld os) #[.agg #[.bool false, .int .u64 0, .int .i64 0]] rfl (by kernel_rfl) (by kernel_rfl) (by kernel_rfl)
      (OpenSpec.preRow_of_cond 8 hx (by kernel_rfl) (fun k hk => by cases hk) (by kernel_rfl) (laid_met os))) ?_
  intro W base args ds gs before hval hW _ _ _ hL _ _
  exact contract H enc W base args ds gs before hval hW hL

theorem said : Rows.FnFixTextSaid :=
  OpenClaim.holds_of_cond 6 Tryd.f6 rfl rfl rfl rfl rfl rfl rfl ⟨rfl, rfl, rfl, rfl, rfl⟩ rfl rfl rfl rfl rfl (by kernel_rfl) Tryd.func6 (by kernel_rfl)
    (of_decide_eq_true (by kernel_rfl)) (by unfold Func.isWrapper; first | (rw [if_pos (by decide +kernel)]; kernel_rfl) | (rw [if_neg (by decide +kernel)]; exact ⟨rfl, rfl⟩))
    (fun os started H enc _ F => by rw [OpenClaim.pre_eq_preRow]; exact lifted os started H enc F)

theorem plain (f : FuncId) (fn : Func) (hf : Tryd.pinned.checked.prog.funcNamed "given.example/pub-alexandrine/laws.FnFixText" = some f) (hfn : Tryd.pinned.checked.prog.funcs[f]? = some fn) :
    false = Tryd.pinned.checked.prog.looks [] ∧ ∀ (j : Nat) t, fn.params[j]? = some t → Tryd.pinned.checked.prog.wantsStandIn t = false := by
  obtain rfl : f = 6 := Option.some.inj ((show Tryd.prog.funcNamed "given.example/pub-alexandrine/laws.FnFixText" = some 6 by kernel_rfl).symm.trans hf) |>.symm
  obtain rfl : fn = Tryd.f6 := (Option.some.inj (Tryd.func6.symm.trans hfn)).symm
  refine ⟨by kernel_rfl, fun j t ht => ?_⟩
  rw [Tryd.params6] at ht
  have hm : t = 34 := by simpa using Array.mem_of_getElem? ht
  subst hm
  exact (show Tryd.prog.wantsStandIn 34 = false by kernel_rfl)

theorem card : Rows.FnFixTextCardSaid :=
  Claim7.holds_tied_plain_at .later [] _ _ _ _ said (fun _ h => by cases h) (by kernel_rfl) (fun _ h => by cases h) fnFixText_row_tie rfl ⟨rfl, rfl⟩ (by kernel_rfl) rfl plain (by kernel_rfl)
end Go.Proofs.YtcgdphciepdkiaaDoor.fnFixText
namespace Go.Proofs.YtcgdphciepdkiaaDoor
theorem fnFixText_holds : Rows.FnFixTextCardSaid := fnFixText.card
#print axioms fnFixText_holds
end Go.Proofs.YtcgdphciepdkiaaDoor
