/-
  Proved: 'laws.FnFixQuantize' returns true for every input, and leaves its arguments as they were (with the scale of another one a decimal is rounded half to even, or padded); the card, tied.
  Conditions: the two sentinel errors and the table of powers of ten read as the given row lists them; the given tie ties that to the program's text.
-/
import Derived.Test.YtcgdphciepdkiaaDoorTie
import Derived.Test.YtcgdphciepdkiaaDoorGVars
import Derived.Test.YtcgdphciepdkiaaDoorGLQuant
import Derived.Test.YtcgdphciepdkiaaDoorGRoq
import Derived.Test.YtcgdphciepdkiaaDoorGArg
namespace Go.Proofs.YtcgdphciepdkiaaDoor.fnFixQuantize
open Go.ChangeShapes Go.WideShapes Go.ChangeAt Go.RowKit Go.Proofs.YtcgdphciepdkiaaDoorW.PrintWords
set_option linter.unusedVariables false

abbrev Ok (c s : Int) : Prop := c ≤ 9999999999999999999 ∧ 0 ≤ s ∧ s ≤ 19
theorem fixed_any (neg : Bool) (c s : Int) (a b : Addr) (w : World) (h0 : 0 ≤ c) (h1 : c ≤ 18446744073709551615) (hS : G.Sens w 111 a b) :
    ∃ (d1 : Bool) (d2 d3 : Int), ∀ w0, Below w.heap.size w w0 → Calls Tryd.prog 37 #[G.fixI neg c s] w0 fun e w' => e = .returned (.tuple #[G.decG d1 d2 d3, .bool (decide (Ok c s))]) ∧ Below w0.heap.size w0 w' := by
  by_cases hs : s < 0 ∨ 19 < s
  · refine ⟨false, 0, 0, fun w0 hb => ?_⟩
    rw [decide_eq_false (by unfold Ok; omega)]
    exact G.fixed_err neg c s false 0 0 111 a w0 (G.makes_scale neg c s 111 a b w0 (hS.below hb) hs)
  · by_cases hc : c ≤ 9999999999999999999
    · refine ⟨neg && !decide (c = 0), s, c, fun w0 hb => ?_⟩
      rw [decide_eq_true (show Ok c s by unfold Ok; omega)]
      exact G.fixed_of neg c s _ _ _ w0 (G.makes_ok neg c s w0 (by omega) (by omega) hc)
    · refine ⟨false, 0, 0, fun w0 hb => ?_⟩
      rw [decide_eq_false (by unfold Ok; omega)]
      exact G.fixed_err neg c s false 0 0 111 b w0 (G.makes_over neg c s 111 a b w0 (hS.below hb) (by omega) (by omega) (by omega))
theorem walk (neg : Bool) (c s : Int) (neg' : Bool) (c' s' : Int) (a b : Addr) (w : World) (h0 : 0 ≤ c) (h1 : c ≤ 18446744073709551615) (h0' : 0 ≤ c') (h1' : c' ≤ 18446744073709551615) (hS : G.Sens w 111 a b) (hT : G.Tab w) : Calls Tryd.prog 8 #[G.fixI neg c s, G.fixI neg' c' s'] w fun e w' => e = .returned (.bool true) ∧ Below w.heap.size w w' := by
  obtain ⟨d1, d2, d3, hm⟩ := fixed_any neg c s a b w h0 h1 hS
  obtain ⟨e1, e2, e3, hm'⟩ := fixed_any neg' c' s' a b w h0' h1' hS
  have ha := G.all_two neg neg' c s c' s'
  by_cases k1 : Ok c s
  · by_cases k2 : Ok c' s'
    · rw [decide_eq_true k1, decide_eq_true k2] at ha
      obtain ⟨kA, hA⟩ := ha.ex
      obtain ⟨n, rfl⟩ := Int.eq_ofNat_of_zero_le h0
      obtain ⟨n', rfl⟩ := Int.eq_ofNat_of_zero_le h0'
      obtain ⟨t, rfl⟩ := Int.eq_ofNat_of_zero_le k1.2.1
      obtain ⟨t', rfl⟩ := Int.eq_ofNat_of_zero_le k2.2.1
      unfold Ok at k1 k2
      obtain ⟨r1, m, j, hi, hG, hF⟩ := G.quant_ans neg n t neg' n' t' w (by omega) (by omega) (by omega) (by omega) hT
      obtain ⟨kG, hG⟩ := hG.ex
      obtain ⟨kS, hF⟩ := hF.ex
      exact G.lawQuant_yes neg n t neg' n' t' r1 m j w hi kA kG kS r1 (Lm.lim m) (-(j : Int)) hA hG hF
    · rw [decide_eq_true k1, decide_eq_false k2] at ha
      rw [decide_eq_true k1] at hm
      rw [decide_eq_false k2] at hm'
      obtain ⟨kA, hA⟩ := ha.ex
      exact G.lawQuant_no neg c s neg' c' s' false 0 0 w (fun w0 hb => G.fixQuant_err2 neg c s neg' c' s' w0 d1 d2 d3 e1 e2 e3 (fun w1 hb1 => hm w1 (below_step hb hb1)) (fun w1 hb1 => hm' w1 (below_step hb hb1))) kA hA
  · rw [decide_eq_false k1, Bool.false_and] at ha
    rw [decide_eq_false k1] at hm
    obtain ⟨kA, hA⟩ := ha.ex
    exact G.lawQuant_no neg c s neg' c' s' false 0 0 w (fun w0 hb => G.fixQuant_err1 neg c s neg' c' s' w0 d1 d2 d3 e1 e2 e3 _ (fun w1 hb1 => hm w1 (below_step hb hb1)) (fun w1 hb1 => hm' w1 (below_step hb hb1))) kA hA

set_option maxRecDepth 100000 in
theorem contract (H : Type) (enc : TypeId × Value → H) (W : World) (base : Nat) (args : Array Value) (ds gs : List (DataW H)) (before : List MemPlace)
    (hval : ∀ (j : Nat) t v, Tryd.f8.params[j]? = some t → args[j]? = some v → Value.okWide Tryd.prog W .any base t v)
    (hW : DataW.Whole enc Tryd.prog Tryd.f8.params.toList Rows.fnFixQuantizeSpec.vars false W args.toList ds gs before) (hL : laidMetH Tryd.prog Rows.fnFixQuantizeRow.laid W) :
    Calls Tryd.prog 8 args W fun e W' => ∃ v, e = .returned v ∧ Rows.fnFixQuantizeSpec.post enc Tryd.prog Tryd.f8 false true false false W args v W' := by
  have hW' := hW
  obtain ⟨p, q, hA0, hV, rfl, hfz, hnd⟩ := hW
  have hA : DataW.TrodAll enc Tryd.prog W 0 (fun _ => true) true Tryd.f8.params.toList args.toList ds p := hA0
  rw [Tryd.params8] at hA hval
  obtain ⟨v0, vs0, d0, ds0, p0, q0, hargs, rfl, rfl, h0, r0⟩ := trodAll_cons hA
  obtain ⟨v1, vs1, d1, ds1, p1, q1, rfl, rfl, rfl, h1, r1⟩ := trodAll_cons r0
  obtain ⟨rfl, rfl, rfl⟩ := trodAll_nil r1
  obtain rfl : args = #[v0, v1] := by cases args; simp_all
  obtain ⟨b0, n0, s0, rfl, rfl, rfl, wn, ws⟩ := G.openFix (hval 0 34 v0 rfl rfl) h0
  obtain ⟨b1, n1, s1, rfl, rfl, rfl, wn1, ws1⟩ := G.openFix (hval 1 34 v1 rfl rfl) h1
  clear hA0
  obtain ⟨a, b, hva, hvb, hS⟩ := G.sentinels hL
  have g1 : 1 < W.heap.size := World.block_lt_of_cell? W _ hS.scale
  have g2 : 2 < W.heap.size := World.block_lt_of_cell? W _ hS.over
  refine (walk b0 n0 s0 b1 n1 s1 a b W (Lm.u64_bounds wn).1 (Lm.u64_bounds wn).2 (Lm.u64_bounds wn1).1 (Lm.u64_bounds wn1).2 hS (G.table hL.tail.tail)).mono fun e W' ⟨he, bel⟩ => ?_
  subst he
  obtain ⟨gs1, q1', rfl, hV1, k1⟩ := G.varsCons (sp' := fun b => decide (b < W.heap.size)) G.gScale G.gScaleType Tryd.underlying66 hva trivial g1 bel hV
  obtain ⟨gs2, q2', rfl, hV2, k2⟩ := G.varsCons (sp' := fun b => decide (b < W.heap.size)) G.gOver G.gOverType Tryd.underlying66 hvb trivial g2 bel hV1
  have hV3 := Below.trodVars G.laidOut bel (by kernel_rfl) hV2
  obtain ⟨g, t, cs, fuel, d, p', hgs, _, _, _, _, _⟩ := trodVars_one hV2
  subst hgs
  exact ⟨_, rfl, _, _, _, [], _, q, hW', trodAll_mk1 (shut_bool Tryd.underlying4 _), (trodAll_cons_mk (G.shutFix wn ws) (trodAll_cons_mk (G.shutFix wn1 ws1) trodAll_mk0)), k1 (k2 hV3), bel.frame _, fun h => by cases h⟩

/-- A WORLD FOR THE WITNESS: the settled one, two new errors, the sentinels pointing there. -/
abbrev overS : ByteArray := ⟨#[100, 101, 99, 105, 109, 97, 108, 32, 111, 118, 101, 114, 102, 108, 111, 119]⟩
abbrev scaleS : ByteArray := ⟨#[115, 99, 97, 108, 101, 32, 111, 117, 116, 32, 111, 102, 32, 114, 97, 110, 103, 101]⟩
noncomputable def low : Nat := (World.holding Tryd.prog default ⟨#[], #[], []⟩).heap.size
noncomputable def laidWorld (os : Os) : World :=
  let w0 := World.holding Tryd.prog os ⟨#[.cells #[.string overS] 126, .cells #[.string scaleS] 126], #[], []⟩
  { w0 with heap := ((w0.heap.modify 2 fun
      | .cells _ t frozen => .cells #[.iface 111 (.pointer (some ⟨low, 0, none⟩))] t frozen
      | o => o).modify 1 fun
      | .cells _ t frozen => .cells #[.iface 111 (.pointer (some ⟨low + 1, 0, none⟩))] t frozen
      | o => o).modify 0 fun
      | .cells _ t frozen => .cells #[.int .u64 1, .int .u64 10, .int .u64 100, .int .u64 1000, .int .u64 10000, .int .u64 100000, .int .u64 1000000, .int .u64 10000000, .int .u64 100000000, .int .u64 1000000000, .int .u64 10000000000, .int .u64 100000000000, .int .u64 1000000000000, .int .u64 10000000000000, .int .u64 100000000000000, .int .u64 1000000000000000, .int .u64 10000000000000000, .int .u64 100000000000000000, .int .u64 1000000000000000000, .int .u64 10000000000000000000] t frozen
      | o => o }
theorem laid_met (os : Os) : laidMet Tryd.prog Rows.fnFixQuantizeRow.laid ((laidWorld os).forCall (fun _ _ => 0) ⟨#[], #[.agg #[.bool false, .int .u64 0, .int .i64 0], .agg #[.bool false, .int .u64 0, .int .i64 0]], []⟩).memory :=
  laidMet_of_run (ps := [.cell 2 0, .cell low 0, .cell 1 0, .cell (low + 1) 0] ++ MemPlace.row ⟨0, 0, none⟩ 20) 8 (by kernel_rfl) (by kernel_rfl) (by kernel_rfl)
theorem reads (os : Os) {H : Type} (enc : TypeId × Value → H) : DataW.whole enc Tryd.prog ((laidWorld os).forCall (fun _ _ => 0) ⟨#[], #[.agg #[.bool false, .int .u64 0, .int .i64 0], .agg #[.bool false, .int .u64 0, .int .i64 0]], []⟩).memory Tryd.f8.params.toList Rows.fnFixQuantizeSpec.vars false #[Value.agg #[.bool false, .int .u64 0, .int .i64 0], Value.agg #[.bool false, .int .u64 0, .int .i64 0]].toList 8 =
    some ([.agg [.lit (.bool false), .lit (.int .u64 0), .lit (.int .i64 0)], .agg [.lit (.bool false), .lit (.int .u64 0), .lit (.int .i64 0)]], [tok enc (.iface 111 (.pointer (some ⟨low + 1, 0, none⟩))), tok enc (.iface 111 (.pointer (some ⟨low, 0, none⟩))), Rows.laid_given_example_pub_alexandrine_pub_govalues_pow10], [.cell 1 0, .cell 2 0] ++ MemPlace.row ⟨0, 0, none⟩ 20) := by kernel_rfl

set_option maxRecDepth 100000 in
theorem lifted (os : Os) (started : os.Started) (H : Type) (enc : TypeId × Value → H) (F : Stop.Interp) :
    ReturnsInHanded {} Tryd.checked os 8 .any ((OpenSpec.ofChange Rows.fnFixQuantizeSpec).preRow enc Tryd.prog Tryd.f8 Rows.fnFixQuantizeRow.domain false Rows.fnFixQuantizeRow.laid) (((OpenSpec.ofChange Rows.fnFixQuantizeSpec).at F).post enc Tryd.prog Tryd.f8 false true false false) := by
  have hx := reads os enc
  refine returnsInHanded_of_row (C := Tryd.checked) (s := OpenSpec.ofChange Rows.fnFixQuantizeSpec) G.own started (by kernel_rfl) Tryd.func8
    (witness_row_atRef (enc := enc) (C := Tryd.checked) false (laidWorld os) #[.agg #[.bool false, .int .u64 0, .int .i64 0], .agg #[.bool false, .int .u64 0, .int .i64 0]] rfl (by kernel_rfl) (by kernel_rfl) (by kernel_rfl)
      (OpenSpec.preRow_of_cond 8 hx (by kernel_rfl) (fun k hk => by cases hk) (by kernel_rfl) (laid_met os))) ?_
  intro W base args ds gs before hval hW _ _ _ hL _ _
  exact contract H enc W base args ds gs before hval hW hL

theorem said : Rows.FnFixQuantizeSaid :=
  OpenClaim.holds_of_cond 8 Tryd.f8 rfl rfl rfl rfl rfl rfl rfl ⟨rfl, rfl, rfl, rfl, rfl⟩ rfl rfl rfl rfl rfl (by kernel_rfl) Tryd.func8 (by kernel_rfl)
    (of_decide_eq_true (by kernel_rfl)) (by unfold Func.isWrapper; first | (rw [if_pos (by decide +kernel)]; kernel_rfl) | (rw [if_neg (by decide +kernel)]; exact ⟨rfl, rfl⟩))
    (fun os started H enc _ F => by rw [OpenClaim.pre_eq_preRow]; exact lifted os started H enc F)

theorem plain (f : FuncId) (fn : Func) (hf : Tryd.pinned.checked.prog.funcNamed "given.example/pub-alexandrine/laws.FnFixQuantize" = some f) (hfn : Tryd.pinned.checked.prog.funcs[f]? = some fn) :
    false = Tryd.pinned.checked.prog.looks [] ∧ ∀ (j : Nat) t, fn.params[j]? = some t → Tryd.pinned.checked.prog.wantsStandIn t = false := by
  obtain rfl : f = 8 := Option.some.inj ((show Tryd.prog.funcNamed "given.example/pub-alexandrine/laws.FnFixQuantize" = some 8 by kernel_rfl).symm.trans hf) |>.symm
  obtain rfl : fn = Tryd.f8 := (Option.some.inj (Tryd.func8.symm.trans hfn)).symm
  refine ⟨by kernel_rfl, fun j t ht => ?_⟩
  rw [Tryd.params8] at ht
  have hm : t = 34 ∨ t = 34 := by simpa using Array.mem_of_getElem? ht
  rcases hm with rfl | rfl
  · exact (show Tryd.prog.wantsStandIn 34 = false by kernel_rfl)
  · exact (show Tryd.prog.wantsStandIn 34 = false by kernel_rfl)

theorem card : Rows.FnFixQuantizeCardSaid :=
  Claim7.holds_tied_plain_at .later [] _ _ _ _ said (fun _ h => by cases h) (by kernel_rfl) (fun _ h => by cases h) fnFixQuantize_row_tie rfl ⟨rfl, rfl⟩ (by kernel_rfl) rfl plain (by kernel_rfl)
end Go.Proofs.YtcgdphciepdkiaaDoor.fnFixQuantize
namespace Go.Proofs.YtcgdphciepdkiaaDoor
theorem fnFixQuantize_holds : Rows.FnFixQuantizeCardSaid := fnFixQuantize.card
#print axioms fnFixQuantize_holds
end Go.Proofs.YtcgdphciepdkiaaDoor
