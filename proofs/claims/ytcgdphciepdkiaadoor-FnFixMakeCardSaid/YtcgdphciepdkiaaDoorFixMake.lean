/-
  Proved: 'laws.FnFixMake' returns true for every input, and leaves its arguments as they were (parts are made a decimal just if it has at most 19 digits and a scale from 0 to 19; a 0 has no sign); the card, tied.
  Conditions: the two sentinel errors read as the given row lists them; the given tie ties that to the program's text.
-/
import Derived.Test.YtcgdphciepdkiaaDoorTie
import Derived.Test.YtcgdphciepdkiaaDoorGVars
import Derived.Test.YtcgdphciepdkiaaDoorGFixMake
namespace Go.Proofs.YtcgdphciepdkiaaDoor.fnFixMake
open Go.ChangeShapes Go.WideShapes Go.ChangeAt Go.RowKit
set_option linter.unusedVariables false

theorem walk (neg : Bool) (c s : Int) (a b : Addr) (w : World) (h0 : 0 ≤ c) (h1 : c ≤ 18446744073709551615) (hS : G.Sens w 111 a b) : Calls Tryd.prog 4 #[.bool neg, .int .u64 c, .int .i64 s] w fun e w' => e = .returned (.bool true) ∧ Below w.heap.size w w' := by
  obtain ⟨n, rfl⟩ := Int.eq_ofNat_of_zero_le h0
  by_cases hs : s < 0 ∨ 19 < s
  · exact G.fnFixMake_no neg n s 111 a w (by omega) (by omega) (G.makes_scale neg n s 111 a b w hS hs)
  · by_cases hc : n < 10 ^ 19
    · exact G.fnFixMake_yes neg n s w hc (by omega) (by omega)
    · exact G.fnFixMake_no neg n s 111 b w (by omega) (fun h => hc h.1) (G.makes_over neg n s 111 a b w hS (by omega) (by omega) (by omega))

set_option maxRecDepth 100000 in
theorem contract (H : Type) (enc : TypeId × Value → H) (W : World) (base : Nat) (args : Array Value) (ds gs : List (DataW H)) (before : List MemPlace)
    (hval : ∀ (j : Nat) t v, Tryd.f4.params[j]? = some t → args[j]? = some v → Value.okWide Tryd.prog W .any base t v)
    (hW : DataW.Whole enc Tryd.prog Tryd.f4.params.toList Rows.fnFixMakeSpec.vars false W args.toList ds gs before) (hL : laidMetH Tryd.prog Rows.fnFixMakeRow.laid W) :
    Calls Tryd.prog 4 args W fun e W' => ∃ v, e = .returned v ∧ Rows.fnFixMakeSpec.post enc Tryd.prog Tryd.f4 false true false false W args v W' := by
  have hW' := hW
  obtain ⟨p, q, hA0, hV, rfl, hfz, hnd⟩ := hW
  have hA : DataW.TrodAll enc Tryd.prog W 0 (fun _ => true) true Tryd.f4.params.toList args.toList ds p := hA0
  rw [Tryd.params4] at hA hval
  obtain ⟨v0, vs0, d0, ds0, p0, q0, hargs, rfl, rfl, h0, r0⟩ := trodAll_cons hA
  obtain ⟨v1, vs1, d1, ds1, p1, q1, rfl, rfl, rfl, h1, r1⟩ := trodAll_cons r0
  obtain ⟨v2, vs2, d2, ds2, p2, q2, rfl, rfl, rfl, h2, r2⟩ := trodAll_cons r1
  obtain ⟨rfl, rfl, rfl⟩ := trodAll_nil r2
  obtain rfl : args = #[v0, v1, v2] := by cases args; simp_all
  obtain ⟨a0, rfl, rfl, rfl⟩ := open_bool Tryd.underlying4 (hval 0 4 v0 rfl rfl) h0
  obtain ⟨a1, rfl, rfl, rfl, w1⟩ := open_int Tryd.underlying22 (hval 1 22 v1 rfl rfl) h1
  obtain ⟨a2, rfl, rfl, rfl, w2⟩ := open_int Tryd.underlying3 (hval 2 3 v2 rfl rfl) h2
  clear hA0
  obtain ⟨a, b, hva, hvb, hS⟩ := G.sentinels hL
  have g1 : 1 < W.heap.size := World.block_lt_of_cell? W _ hS.scale
  have g2 : 2 < W.heap.size := World.block_lt_of_cell? W _ hS.over
  refine (walk a0 a1 a2 a b W (Lm.u64_bounds w1).1 (Lm.u64_bounds w1).2 hS).mono fun e W' ⟨he, bel⟩ => ?_
  subst he
  obtain ⟨gs1, q1', rfl, hV1, k1⟩ := G.varsCons (sp' := fun b => decide (b < W.heap.size)) G.gScale G.gScaleType Tryd.underlying66 hva trivial g1 bel hV
  obtain ⟨gs2, q2', rfl, hV2, k2⟩ := G.varsCons (sp' := fun b => decide (b < W.heap.size)) G.gOver G.gOverType Tryd.underlying66 hvb trivial g2 bel hV1
  obtain ⟨rfl, rfl⟩ := trodVars_none hV2
  exact ⟨_, rfl, _, _, _, [], _, q, hW', trodAll_mk1 (shut_bool Tryd.underlying4 _), (trodAll_cons_mk (shut_bool Tryd.underlying4 _) (trodAll_cons_mk (shut_int Tryd.underlying22 w1) (trodAll_cons_mk (shut_int Tryd.underlying3 w2) trodAll_mk0))), k1 (k2 rfl), bel.frame _, fun h => by cases h⟩

/-- A WORLD FOR THE WITNESS: the settled one, two new errors, the sentinels pointing there. -/
abbrev overS : ByteArray := ⟨#[100, 101, 99, 105, 109, 97, 108, 32, 111, 118, 101, 114, 102, 108, 111, 119]⟩
abbrev scaleS : ByteArray := ⟨#[115, 99, 97, 108, 101, 32, 111, 117, 116, 32, 111, 102, 32, 114, 97, 110, 103, 101]⟩
noncomputable def low : Nat := (World.holding Tryd.prog default ⟨#[], #[], []⟩).heap.size
noncomputable def laidWorld (os : Os) : World :=
  let w0 := World.holding Tryd.prog os ⟨#[.cells #[.string overS] 126, .cells #[.string scaleS] 126], #[], []⟩
  { w0 with heap := (w0.heap.modify 2 fun
      | .cells _ t frozen => .cells #[.iface 111 (.pointer (some ⟨low, 0, none⟩))] t frozen
      | o => o).modify 1 fun
      | .cells _ t frozen => .cells #[.iface 111 (.pointer (some ⟨low + 1, 0, none⟩))] t frozen
      | o => o }
theorem laid_met (os : Os) : laidMet Tryd.prog Rows.fnFixMakeRow.laid ((laidWorld os).forCall (fun _ _ => 0) ⟨#[], #[.bool false, .int .u64 0, .int .i64 0], []⟩).memory :=
  laidMet_of_run (ps := [.cell 2 0, .cell low 0, .cell 1 0, .cell (low + 1) 0]) 8 (by kernel_rfl) (by kernel_rfl) (by kernel_rfl)
theorem reads (os : Os) {H : Type} (enc : TypeId × Value → H) : DataW.whole enc Tryd.prog ((laidWorld os).forCall (fun _ _ => 0) ⟨#[], #[.bool false, .int .u64 0, .int .i64 0], []⟩).memory Tryd.f4.params.toList Rows.fnFixMakeSpec.vars false #[Value.bool false, Value.int .u64 0, Value.int .i64 0].toList 8 =
    some ([.lit (.bool false), .lit (.int .u64 0), .lit (.int .i64 0)], [tok enc (.iface 111 (.pointer (some ⟨low + 1, 0, none⟩))), tok enc (.iface 111 (.pointer (some ⟨low, 0, none⟩)))], [.cell 1 0, .cell 2 0]) := by kernel_rfl

set_option maxRecDepth 100000 in
theorem lifted (os : Os) (started : os.Started) (H : Type) (enc : TypeId × Value → H) (F : Stop.Interp) :
    ReturnsInHanded {} Tryd.checked os 4 .any ((OpenSpec.ofChange Rows.fnFixMakeSpec).preRow enc Tryd.prog Tryd.f4 Rows.fnFixMakeRow.domain false Rows.fnFixMakeRow.laid) (((OpenSpec.ofChange Rows.fnFixMakeSpec).at F).post enc Tryd.prog Tryd.f4 false true false false) := by
  have hx := reads os enc
  refine returnsInHanded_of_row (C := Tryd.checked) (s := OpenSpec.ofChange Rows.fnFixMakeSpec) G.own started (by kernel_rfl) Tryd.func4
    (witness_row_atRef (enc := enc) (C := Tryd.checked) false (laidWorld os) #[.bool false, .int .u64 0, .int .i64 0] rfl (by kernel_rfl) (by kernel_rfl) (by kernel_rfl)
      (OpenSpec.preRow_of_cond 8 hx (by kernel_rfl) (fun k hk => by cases hk) (by kernel_rfl) (laid_met os))) ?_
  intro W base args ds gs before hval hW _ _ _ hL _ _
  exact contract H enc W base args ds gs before hval hW hL

theorem said : Rows.FnFixMakeSaid :=
  OpenClaim.holds_of_cond 4 Tryd.f4 rfl rfl rfl rfl rfl rfl rfl ⟨rfl, rfl, rfl, rfl, rfl⟩ rfl rfl rfl rfl rfl (by kernel_rfl) Tryd.func4 (by kernel_rfl)
    (of_decide_eq_true (by kernel_rfl)) (by unfold Func.isWrapper; first | (rw [if_pos (by decide +kernel)]; kernel_rfl) | (rw [if_neg (by decide +kernel)]; exact ⟨rfl, rfl⟩))
    (fun os started H enc _ F => by rw [OpenClaim.pre_eq_preRow]; exact lifted os started H enc F)

theorem plain (f : FuncId) (fn : Func) (hf : Tryd.pinned.checked.prog.funcNamed "given.example/pub-alexandrine/laws.FnFixMake" = some f) (hfn : Tryd.pinned.checked.prog.funcs[f]? = some fn) :
    false = Tryd.pinned.checked.prog.looks [] ∧ ∀ (j : Nat) t, fn.params[j]? = some t → Tryd.pinned.checked.prog.wantsStandIn t = false := by
  obtain rfl : f = 4 := Option.some.inj ((show Tryd.prog.funcNamed "given.example/pub-alexandrine/laws.FnFixMake" = some 4 by kernel_rfl).symm.trans hf) |>.symm
  obtain rfl : fn = Tryd.f4 := (Option.some.inj (Tryd.func4.symm.trans hfn)).symm
  refine ⟨by kernel_rfl, fun j t ht => ?_⟩
  rw [Tryd.params4] at ht
  have hm : t = 4 ∨ t = 22 ∨ t = 3 := by simpa using Array.mem_of_getElem? ht
  rcases hm with rfl | rfl | rfl
  · exact (show Tryd.prog.wantsStandIn 4 = false by kernel_rfl)
  · exact (show Tryd.prog.wantsStandIn 22 = false by kernel_rfl)
  · exact (show Tryd.prog.wantsStandIn 3 = false by kernel_rfl)

theorem card : Rows.FnFixMakeCardSaid :=
  Claim7.holds_tied_plain_at .later [] _ _ _ _ said (fun _ h => by cases h) (by kernel_rfl) (fun _ h => by cases h) fnFixMake_row_tie rfl ⟨rfl, rfl⟩ (by kernel_rfl) rfl plain (by kernel_rfl)
end Go.Proofs.YtcgdphciepdkiaaDoor.fnFixMake
namespace Go.Proofs.YtcgdphciepdkiaaDoor
theorem fnFixMake_holds : Rows.FnFixMakeCardSaid := fnFixMake.card
#print axioms fnFixMake_holds
end Go.Proofs.YtcgdphciepdkiaaDoor
