/-
  Proved: 'laws.FnDecBinary' returns true for every input, and leaves its arguments as they were (a decimal as bytes is read back as a decimal of the same worth); the card, tied.
  Conditions: the package's bound on exponents read from bytes holds what the given row lists; the given tie ties that to the program's text.
-/
import Derived.Test.YtghabdpbacgicaaDoorTie
import Derived.Test.YtghabdpbacgicaaDoorGArgD
import Derived.Test.YtghabdpbacgicaaDoorGLBin
import Derived.Test.YtghabdpbacgicaaDoorLmDec
import Derived.Test.YtghabdpbacgicaaDoorLmDi
namespace Go.Proofs.YtghabdpbacgicaaDoor.fnDecBinary
open Go.ChangeShapes Go.WideShapes Go.ChangeAt Go.RowKit
set_option linter.unusedVariables false

theorem lt300 {n m k q : Nat} (h : n < 10 ^ m) (hm : m ≤ 3 * k) (hk : 10 * k ≤ 8 * q) : n < 256 ^ q := by
  have e1 : 10 ^ m ≤ 10 ^ (3 * k) := Nat.pow_le_pow_right (by omega) hm
  have e2 : 10 ^ (3 * k) ≤ 2 ^ (10 * k) := by rw [Nat.pow_mul, Nat.pow_mul]; exact Nat.pow_le_pow_left (by decide) k
  have e3 : 2 ^ (10 * k) ≤ 2 ^ (8 * q) := Nat.pow_le_pow_right (by omega) hk
  rw [show (256 : Nat) = 2 ^ 8 from rfl, ← Nat.pow_mul]
  exact Nat.lt_of_lt_of_le h (Nat.le_trans e1 (Nat.le_trans e2 e3))
theorem walk (s : ByteArray) (e : Int) (w : World) (hv : ∃ o, w.heap[1]? = some o ∧ w.cell? ⟨1, 0, none⟩ = some (.int .i64 10000)) : Calls Tryd.prog 3 #[G.datD s e] w fun e' w' => e' = .returned (.bool true) ∧ Below w.heap.size w w' := by
  by_cases hs : (s.size : Int) > 2147483647
  · exact G.lawBin_long s e w (by unfold S.laws_zzFits1.f; rw [if_pos hs])
  · have hz : S.laws_zzFits1.f s e = some true := by unfold S.laws_zzFits1.f; rw [if_neg hs]
    obtain ⟨b0, n, ok, hl, he, hk⟩ := Lm.ofDec_some s e (by omega)
    obtain ⟨k, he'⟩ := he.ex
    cases ok with
    | false => exact G.lawBin_no k s e _ _ _ false w hz he' (fun h => by cases h)
    | true =>
      obtain ⟨hp, hst, hn4, h0, h1⟩ := hk rfl
      obtain ⟨kd, hd⟩ := (Lm.natDigits n (by omega)).ex
      by_cases hd3 : Lm.ndig n ≤ 300
      · have hb : Lm.sg b0 n = true → n ≠ 0 := fun h h0 => by subst h0; rw [Lm.sg_zero] at h; cases h
        obtain ⟨kw, hw⟩ := (Lm.worth_self s (Lm.sg b0 n) n e hn4 h0 h1 hst hp).ex
        generalize Lm.sg b0 n = c at *
        have hlt := lt300 (k := 100) (q := 8 * 16) (Lm.ndig_le.1 (Nat.le_refl _)) (by omega) (by omega)
        have hL : (L64.lim n).length ≤ 16 := L64.len_le (by rw [← Lm.pow8]; exact hlt)
        have hq : Lm.nby n ≤ 128 := L8.len_le hlt
        have hq1 : n < 256 ^ Lm.nby n := L8.lt_of_len (Nat.le_refl _)
        have hc : (decide (0 < (L64.lim n).length) && c) = c := by
          cases c with
          | false => exact Bool.and_false _
          | true =>
            have := L64.len_zero (n := n)
            have h2 := hb rfl
            rw [Bool.and_true]
            exact decide_eq_true (by omega)
        obtain ⟨x, hx1, hx2, hx3, hx4⟩ := Lm.whole_some c n hb hn4
        obtain ⟨ka, ha⟩ := hx4.ex
        rw [← hst] at ha
        have hnm := Lm.norm64 x hx1 (by omega)
        rw [hx2] at hnm
        obtain ⟨kn, hn⟩ := hnm.ex
        obtain ⟨hby0, hby⟩ := Lm.bytes_some n (by omega)
        obtain ⟨kb, hb1⟩ := hby.ex
        obtain ⟨v, hv1, hv2, hv3⟩ := Lm.exp_u32 e h0 h1
        obtain ⟨ks, hsb⟩ := (Lm.setBytes_some n (Lm.nby n) hq1 (by omega)).ex
        obtain ⟨l0, hl0⟩ : ∃ l0 : List Int, c = decide (0 < l0.length) := by
          cases c with
          | false => exact ⟨[], rfl⟩
          | true => exact ⟨[0], rfl⟩
        obtain ⟨kg, hdg⟩ := (Lm.digits_some l0 c n hb hl0 (by omega) (by omega)).ex
        rw [← hst] at hdg
        have hsg : decide (G.sgnI c (L64.lim n) < 0) = decide (0 < l0.length) := by
          rw [← hl0]
          unfold G.sgnI
          have := L64.len_zero (n := n)
          cases c with
          | false =>
            by_cases h : (L64.lim n).length = 0
            · rw [if_pos h]; rfl
            · rw [if_neg h]; rfl
          | true =>
            have h2 := hb rfl
            rw [if_neg (by omega)]; rfl
        have hM : G.marB v (G.gobB c (1 + (L64.lim n).length * 8 - Lm.nby n) (Lm.bufB n (1 + (L64.lim n).length * 8) (8 * (L64.lim n).length))) = ((v : Int) / 16777216 % 256) :: ((v : Int) / 65536 % 256) :: ((v : Int) / 256 % 256) :: ((v : Int) % 256) :: (if c then 3 else 2) :: (Lm.le n (Lm.nby n)).reverse := by
          unfold G.marB
          rw [Lm.gobB_is c n _ _ _ (by omega) hby0]
        have hT : (Lm.le n (Lm.nby n)).reverse.length = Lm.nby n := by rw [List.length_reverse, Lm.le_len]
        refine G.lawBin_yes k kd kw s e c (Lm.lim n) e (Lm.ndig n : Int) _ s e w hz he' hd (by omega) (fun w0 => G.toB_is s e v kb c (L64.lim n) (1 + (L64.lim n).length * 8 - Lm.nby n) _ w0 (fun w1 _ => G.made_is s e c (L64.lim n) w1 h0 h1 (fun w2 _ => ?_)) (by omega) hb1 (by omega) (by omega) (Lm.bufB_len _ _ _ (by omega)) hv1 (by omega) (by omega)) ?_ hw hv
        · have hcl := S.impl_whole.calls ka s x c w2 ha kn (L64.lim n) hn
          rw [hc] at hcl
          exact hcl
        · rw [hM]
          intro w0 gR hR hvw
          have hF := G.frB_is ks kg gR c ((v : Int) / 16777216 % 256) ((v : Int) / 65536 % 256) ((v : Int) / 256 % 256) ((v : Int) % 256) (if c then 3 else 2) (Lm.le n (Lm.nby n)).reverse (L64.lim n) l0 s e w0 hR hvw (by omega) rfl hsb (by rw [Lm.ub4_of v hv2]; exact hv3) h0 h1 hsg hdg
          exact hF
      · exact G.lawBin_no k s e _ _ _ true w hz he' (fun _ => ⟨kd, _, hd, by omega⟩)

set_option maxRecDepth 100000 in
theorem contract (H : Type) (enc : TypeId × Value → H) (W : World) (base : Nat) (args : Array Value) (ds gs : List (DataW H)) (before : List MemPlace)
    (hval : ∀ (j : Nat) t v, Tryd.f3.params[j]? = some t → args[j]? = some v → Value.okWide Tryd.prog W .any base t v)
    (hW : DataW.Whole enc Tryd.prog Tryd.f3.params.toList Rows.fnDecBinarySpec.vars false W args.toList ds gs before) (hL : laidMetH Tryd.prog Rows.fnDecBinaryRow.laid W) :
    Calls Tryd.prog 3 args W fun e W' => ∃ v, e = .returned v ∧ Rows.fnDecBinarySpec.post enc Tryd.prog Tryd.f3 false true false false W args v W' := by
  have hW' := hW
  obtain ⟨p, q, hA0, hV, rfl, hfz, hnd⟩ := hW
  have hA : DataW.TrodAll enc Tryd.prog W 0 (fun _ => true) true Tryd.f3.params.toList args.toList ds p := hA0
  rw [Tryd.params3] at hA hval
  obtain ⟨v0, vs0, d0, ds0, p0, q0, hargs, rfl, rfl, h0, r0⟩ := trodAll_cons hA
  obtain ⟨rfl, rfl, rfl⟩ := trodAll_nil r0
  obtain rfl : args = #[v0] := by cases args; simp_all
  obtain ⟨s0, e0, rfl, rfl, rfl, ws, we⟩ := G.openDec (hval 0 23 v0 rfl rfl) h0
  clear hA0
  refine (walk s0 e0 W (G.laidMax hL)).mono fun e W' ⟨he, bel⟩ => ?_
  subst he
  have hV3 := Below.trodVars G.laidOut bel (by kernel_rfl) hV
  obtain ⟨g, t, cs, fuel, d, p', hgs, _, _, _, _, _⟩ := trodVars_one hV
  subst hgs
  exact ⟨_, rfl, _, _, _, [], _, q, hW', trodAll_mk1 (shut_bool Tryd.underlying4 _), (trodAll_cons_mk (G.shutDec ws we) trodAll_mk0), hV3, bel.frame _, fun h => by cases h⟩

/-- A WORLD FOR THE WITNESS: the settled one, the variable written. -/
noncomputable def laidWorld (os : Os) : World :=
  let w0 := World.holding Tryd.prog os ⟨#[], #[], []⟩
  { w0 with heap := w0.heap.modify 1 fun
      | .cells _ t frozen => .cells #[.int .i64 10000] t frozen
      | o => o }
theorem laid_met (os : Os) : laidMet Tryd.prog Rows.fnDecBinaryRow.laid ((laidWorld os).forCall (fun _ _ => 0) ⟨#[], #[.agg #[.string ⟨#[]⟩, .int .i64 0]], []⟩).memory :=
  laidMet_of_run (ps := [.cell 1 0]) 8 (by kernel_rfl) (by kernel_rfl) (by kernel_rfl)
theorem reads (os : Os) {H : Type} (enc : TypeId × Value → H) : DataW.whole enc Tryd.prog ((laidWorld os).forCall (fun _ _ => 0) ⟨#[], #[.agg #[.string ⟨#[]⟩, .int .i64 0]], []⟩).memory Tryd.f3.params.toList Rows.fnDecBinarySpec.vars false #[Value.agg #[.string ⟨#[]⟩, .int .i64 0]].toList 8 =
    some ([.agg [.lit (.string []), .lit (.int .i64 0)]], [.lit (.int .i64 10000)], [.cell 1 0]) := by kernel_rfl

set_option maxRecDepth 100000 in
theorem lifted (os : Os) (started : os.Started) (H : Type) (enc : TypeId × Value → H) (F : Stop.Interp) :
    ReturnsInHanded {} Tryd.checked os 3 .any ((OpenSpec.ofChange Rows.fnDecBinarySpec).preRow enc Tryd.prog Tryd.f3 Rows.fnDecBinaryRow.domain false Rows.fnDecBinaryRow.laid) (((OpenSpec.ofChange Rows.fnDecBinarySpec).at F).post enc Tryd.prog Tryd.f3 false true false false) := by
  have hx := reads os enc
  refine returnsInHanded_of_row (C := Tryd.checked) (s := OpenSpec.ofChange Rows.fnDecBinarySpec) G.own started (by kernel_rfl) Tryd.func3
    (witness_row_atRef (enc := enc) (C := Tryd.checked) false (laidWorld os) #[.agg #[.string ⟨#[]⟩, .int .i64 0]] rfl (by kernel_rfl) (by kernel_rfl) (by kernel_rfl)
      (OpenSpec.preRow_of_cond 8 hx (by kernel_rfl) (fun k hk => by cases hk) (by kernel_rfl) (laid_met os))) ?_
  intro W base args ds gs before hval hW _ _ _ hL _ _
  exact contract H enc W base args ds gs before hval hW hL

theorem said : Rows.FnDecBinarySaid :=
  OpenClaim.holds_of_cond 3 Tryd.f3 rfl rfl rfl rfl rfl rfl rfl ⟨rfl, rfl, rfl, rfl, rfl⟩ rfl rfl rfl rfl rfl (by kernel_rfl) Tryd.func3 (by kernel_rfl)
    (of_decide_eq_true (by kernel_rfl)) (by unfold Func.isWrapper; first | (rw [if_pos (by decide +kernel)]; kernel_rfl) | (rw [if_neg (by decide +kernel)]; exact ⟨rfl, rfl⟩))
    (fun os started H enc _ F => by rw [OpenClaim.pre_eq_preRow]; exact lifted os started H enc F)

theorem plain (f : FuncId) (fn : Func) (hf : Tryd.pinned.checked.prog.funcNamed "given.example/pub-alexandrine/laws.FnDecBinary" = some f) (hfn : Tryd.pinned.checked.prog.funcs[f]? = some fn) :
    false = Tryd.pinned.checked.prog.looks [] ∧ ∀ (j : Nat) t, fn.params[j]? = some t → Tryd.pinned.checked.prog.wantsStandIn t = false := by
  obtain rfl : f = 3 := Option.some.inj ((show Tryd.prog.funcNamed "given.example/pub-alexandrine/laws.FnDecBinary" = some 3 by kernel_rfl).symm.trans hf) |>.symm
  obtain rfl : fn = Tryd.f3 := (Option.some.inj (Tryd.func3.symm.trans hfn)).symm
  refine ⟨by kernel_rfl, fun j t ht => ?_⟩
  rw [Tryd.params3] at ht
  have hm : t = 23 := by simpa using Array.mem_of_getElem? ht
  subst hm
  exact (show Tryd.prog.wantsStandIn 23 = false by kernel_rfl)

theorem card : Rows.FnDecBinaryCardSaid :=
  Claim7.holds_tied_plain_at .later [] _ _ _ _ said (fun _ h => by cases h) (by kernel_rfl) (fun _ h => by cases h) fnDecBinary_row_tie rfl ⟨rfl, rfl⟩ (by kernel_rfl) rfl plain (by kernel_rfl)
end Go.Proofs.YtghabdpbacgicaaDoor.fnDecBinary
namespace Go.Proofs.YtghabdpbacgicaaDoor
theorem fnDecBinary_holds : Rows.FnDecBinaryCardSaid := fnDecBinary.card
#print axioms fnDecBinary_holds
end Go.Proofs.YtghabdpbacgicaaDoor
