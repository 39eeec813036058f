/-
  Proved: 'laws.FnDecMul' returns true for every input, and leaves its arguments as they were (the product of two decimals is the product of their numbers); the card, tied.
  Conditions: the package's thresholds hold what the given row lists; the given tie ties that to the program's text.
-/
import Derived.Test.YtghabdpbacgicaaGreatDoorTie
import Derived.Test.YtghabdpbacgicaaGreatDoorGArgD
import Derived.Test.YtghabdpbacgicaaGreatDoorGLMul
import Derived.Test.YtghabdpbacgicaaGreatDoorLmMv
import Derived.Test.YtghabdpbacgicaaGreatDoorLmDi
namespace Go.Proofs.YtghabdpbacgicaaGreatDoor.fnDecMul
open Go.ChangeShapes Go.WideShapes Go.ChangeAt Go.RowKit
set_option linter.unusedVariables false

theorem gThr : Tryz.prog.globalNamed "given.example/pub-alexandrine/pub/bigall.karatsubaThreshold" = some 2 := by kernel_rfl
theorem gThrType : (Tryz.prog.globals[2]?).map (·.type) = some 3 := by kernel_rfl
/-- WHAT THE ROW's LIST GIVES. -/
theorem laidThr {W : World} {rest : List (String × DataW Unit)} (h : laidMet Tryz.prog (("given.example/pub-alexandrine/pub/bigall.karatsubaThreshold", Rows.laid_given_example_pub_alexandrine_pub_bigall_karatsubaThreshold) :: rest) W) : G.Thr W := by
  obtain ⟨ps, ⟨g0, t0, cs0, f0, p0, q0, hg0, ht0, hv0, hd0, _, e0⟩, _, hrows⟩ := h
  obtain rfl := Option.some.inj (gThr.symm.trans hg0)
  obtain rfl := Option.some.inj (gThrType.symm.trans ht0)
  obtain ⟨z, hz, hx, _⟩ := DataW.trod_int Tryz.underlying3 hd0
  obtain rfl : (40 : Int) = z := by
    have := congrArg Prod.fst hx
    simpa [Rows.laid_given_example_pub_alexandrine_pub_bigall_karatsubaThreshold] using this
  obtain ⟨l0⟩ := cs0
  simp at hz
  subst hz
  have hc := World.var?_cell hg0 hv0 0
  have hc' : W.cell? ⟨2, 0, none⟩ = some (.int .i64 40) := by simpa using hc
  have hlt := World.block_lt_of_cell? W _ hc'
  exact ⟨_, Array.getElem?_eq_getElem hlt, hc'⟩
theorem vars3 {H : Type} {enc : TypeId × Value → H} {P : Program} {W : World} {sp : Nat → Bool} {a b c : String} {gs : List (DataW H)} {ps : List MemPlace} (h : DataW.TrodVars enc P W sp [a, b, c] gs ps) : ∃ x y z, gs = [x, y, z] := by
  match gs, h with
  | [], h => exact h.elim
  | [x], h =>
    obtain ⟨_, _, _, _, _, _, _, _, _, _, h2, _⟩ := h
    exact h2.elim
  | [x, y], h =>
    obtain ⟨_, _, _, _, _, _, _, _, _, _, h2, _⟩ := h
    obtain ⟨_, _, _, _, _, _, _, _, _, _, h3, _⟩ := h2
    exact h3.elim
  | [x, y, z], h => exact ⟨x, y, z, rfl⟩
  | x :: y :: z :: u :: r, h =>
    obtain ⟨_, _, _, _, _, _, _, _, _, _, h2, _⟩ := h
    obtain ⟨_, _, _, _, _, _, _, _, _, _, h3, _⟩ := h2
    obtain ⟨_, _, _, _, _, _, _, _, _, _, h4, _⟩ := h3
    exact h4.elim
theorem lt_pow {n m k q : Nat} (h : n < 10 ^ m) (hm : m ≤ 3 * k) (hk : 10 * k ≤ 8 * (8 * q)) : n < 18446744073709551616 ^ q := by
  have e1 : 10 ^ m ≤ 10 ^ (3 * k) := Nat.pow_le_pow_right (by omega) hm
  have e2 : 10 ^ (3 * k) ≤ 2 ^ (10 * k) := by rw [Nat.pow_mul, Nat.pow_mul]; exact Nat.pow_le_pow_left (by decide) k
  have e3 : 2 ^ (10 * k) ≤ 2 ^ (8 * (8 * q)) := Nat.pow_le_pow_right (by omega) hk
  have e4 : (18446744073709551616 : Nat) ^ q = 2 ^ (8 * (8 * q)) := by rw [show (18446744073709551616 : Nat) = 2 ^ 64 from rfl, ← Nat.pow_mul]; congr 1; omega
  rw [e4]
  exact Nat.lt_of_lt_of_le h (Nat.le_trans e1 (Nat.le_trans e2 e3))
theorem tmod61 (e : Int) : -60 ≤ Int.tmod e 61 ∧ Int.tmod e 61 ≤ 60 := by
  rcases Int.le_total 0 e with h | h
  · rw [Int.tmod_eq_emod_of_nonneg h]
    omega
  · obtain ⟨m, rfl⟩ : ∃ m : Int, e = -m := ⟨-e, by omega⟩
    rw [Int.neg_tmod, Int.tmod_eq_emod_of_nonneg (by omega)]
    omega
theorem sgM_true {b1 b2 : Bool} {n : Nat} (h : G.sgM b1 b2 n = true) : n ≠ 0 := fun h0 => by
  subst h0
  unfold G.sgM at h
  rw [L64.lim_zero] at h
  cases h
theorem sgM_pos (b1 b2 : Bool) {n : Nat} (h : n ≠ 0) : G.sgM b1 b2 n = (b1 != b2) := by
  have := L64.len_zero (n := n)
  unfold G.sgM
  rw [decide_eq_true (by omega), Bool.true_and]
/-- The thin package's decimal of a text that is a number in proper form. -/
theorem made_text (b : Bool) (n : Nat) (x : Int) (hb : b = true → n ≠ 0) (hn : Lm.ndig n ≤ 390) (h0 : -60 ≤ x) (h1 : x ≤ 60) (w0 : World) :
    Calls Tryz.prog 12 #[G.datD (Lm.text b n) x] w0 fun e' w' => ∃ g, e' = .returned (.tuple #[G.decP g x, .bool true]) ∧ w0.heap.size ≤ g ∧ G.IntAt w' w0.heap.size g b (L64.lim n) ∧ Below w0.heap.size w0 w' := by
  have hc : (decide (0 < (L64.lim n).length) && b) = b := by
    cases b with
    | false => exact Bool.and_false _
    | true =>
      have := L64.len_zero (n := n)
      have h2 := hb rfl
      rw [Bool.and_true]
      exact decide_eq_true (by omega)
  obtain ⟨l, hx1, hx2, hx3, hx4⟩ := Lm.whole_some b n hb (by omega)
  obtain ⟨ka, ha⟩ := hx4.ex
  have hnm := Lm.norm64 l hx1 (by omega)
  rw [hx2] at hnm
  obtain ⟨kn, hn⟩ := hnm.ex
  refine G.made_ge (Lm.text b n) x b (L64.lim n) w0 (by omega) (by omega) (fun w2 _ => ?_)
  have hcl := S.impl_whole.calls ka (Lm.text b n) l b w2 ha kn (L64.lim n) hn
  rw [hc] at hcl
  exact hcl
theorem pow_law (n1 n2 : Nat) (x1 x2 : Int) : n1 * n2 * 10 ^ (x1 + x2).toNat * (10 ^ (-x1).toNat * 10 ^ (-x2).toNat) = n1 * 10 ^ x1.toNat * (n2 * 10 ^ x2.toNat) * 10 ^ (-(x1 + x2)).toNat := by
  have e : (x1 + x2).toNat + ((-x1).toNat + (-x2).toNat) = x1.toNat + x2.toNat + (-(x1 + x2)).toNat := by omega
  have e2 : (10 : Nat) ^ (x1 + x2).toNat * (10 ^ (-x1).toNat * 10 ^ (-x2).toNat) = 10 ^ x1.toNat * 10 ^ x2.toNat * 10 ^ (-(x1 + x2)).toNat := by rw [← Nat.pow_add, ← Nat.pow_add, ← Nat.pow_add, ← Nat.pow_add, e]
  rw [Nat.mul_assoc (n1 * n2), e2, Nat.mul_mul_mul_comm n1 _ n2, Nat.mul_assoc (n1 * n2)]
theorem walk (s1 s2 : ByteArray) (e1 e2 : Int) (w : World) (hv : G.Thr w) : Calls Tryz.prog 3 #[G.datD s1 e1, G.datD s2 e2] w fun e' w' => e' = .returned (.bool true) ∧ Below w.heap.size w w' := by
  by_cases hs1 : (s1.size : Int) > 2147483647
  · exact G.lawMul_long1 s1 s2 e1 e2 w (by unfold S.laws_zzFits1.f; rw [if_pos hs1])
  · have hz1 : S.laws_zzFits1.f s1 e1 = some true := by unfold S.laws_zzFits1.f; rw [if_neg hs1]
    by_cases hs2 : (s2.size : Int) > 2147483647
    · exact G.lawMul_long2 s1 s2 e1 e2 w hz1 (by unfold S.laws_zzFits1.f; rw [if_pos hs2])
    · have hz2 : S.laws_zzFits1.f s2 e2 = some true := by unfold S.laws_zzFits1.f; rw [if_neg hs2]
      obtain ⟨b1, n1, hb1, hn1, hf1⟩ := Lm.fit_some s1 (by omega) e1
      obtain ⟨b2, n2, hb2, hn2, hf2⟩ := Lm.fit_some s2 (by omega) e2
      obtain ⟨hx10, hx11⟩ := tmod61 e1
      obtain ⟨hx20, hx21⟩ := tmod61 e2
      generalize Int.tmod e1 61 = x1 at *
      generalize Int.tmod e2 61 = x2 at *
      have hr1 := Lm.fracOf_is b1 n1 x1 hb1 (by omega) (by omega) (by omega)
      have hr2 := Lm.fracOf_is b2 n2 x2 hb2 (by omega) (by omega) (by omega)
      have h45a := Lm.len400 (n := n1) (by omega)
      have h45b := Lm.len400 (n := n2) (by omega)
      have hp1 := Lm.len_prod h45a (Lm.len_pow10 x1.toNat (by omega))
      have hp2 := Lm.len_prod h45b (Lm.len_pow10 x2.toNat (by omega))
      have hd1 := Lm.len_pow10 (-x1).toNat (by omega)
      have hd2 := Lm.len_pow10 (-x2).toNat (by omega)
      have hfm := Lm.fracMul_is b1 b2 (n1 * 10 ^ x1.toNat) (10 ^ (-x1).toNat) (n2 * 10 ^ x2.toNat) (10 ^ (-x2).toNat) (by omega) (by omega)
      have hnn : Lm.ndig (n1 * n2) ≤ 120 := by
        refine Lm.ndig_le.2 ?_
        rw [show 120 = 60 + 60 from rfl, Nat.pow_add]
        exact Nat.mul_lt_mul'' (Lm.ndig_le.1 hn1) (Lm.ndig_le.1 hn2)
      have hc : G.sgM b1 b2 (n1 * n2) = true → n1 * n2 ≠ 0 := sgM_true
      have hne : n1 * n2 ≠ 0 → n1 * 10 ^ x1.toNat * (n2 * 10 ^ x2.toNat) ≠ 0 := fun h => by
        have h1 : n1 ≠ 0 := fun h0 => h (by rw [h0, Nat.zero_mul])
        have h2 : n2 ≠ 0 := fun h0 => h (by rw [h0, Nat.mul_zero])
        exact Nat.mul_ne_zero (Nat.mul_ne_zero h1 (Nat.pos_iff_ne_zero.1 (Nat.pow_pos (by omega)))) (Nat.mul_ne_zero h2 (Nat.pos_iff_ne_zero.1 (Nat.pow_pos (by omega))))
      have hsy := Lm.says_is (G.sgM b1 b2 (n1 * n2)) (n1 * n2) (x1 + x2) hc (by omega) (by omega) (by omega) (Lm.sg (b1 != b2) (n1 * 10 ^ x1.toNat * (n2 * 10 ^ x2.toNat))) (n1 * 10 ^ x1.toNat * (n2 * 10 ^ x2.toNat)) (10 ^ (-x1).toNat * 10 ^ (-x2).toNat)
        (fun h h0 => by rw [h0, Lm.sg_zero] at h; cases h) (Nat.mul_ne_zero (Nat.pos_iff_ne_zero.1 (Nat.pow_pos (by omega))) (Nat.pos_iff_ne_zero.1 (Nat.pow_pos (by omega)))) (Nat.le_trans (Lm.len_prod hp1 hp2) (by omega)) (Nat.le_trans (Lm.len_prod hd1 hd2) (by omega))
        (fun h => by rw [sgM_pos b1 b2 h, Lm.sg_pos (hne h)]) (pow_law n1 n2 x1 x2)
      obtain ⟨kf1, hf1⟩ := hf1
      obtain ⟨kf2, hf2⟩ := hf2
      obtain ⟨kr1, hr1⟩ := hr1
      obtain ⟨kr2, hr2⟩ := hr2
      obtain ⟨K, hK⟩ : ∃ K, K = kf1 + kf2 + kr1 + kr2 := ⟨_, rfl⟩
      obtain ⟨km, hfm⟩ := hfm.ex
      obtain ⟨ks, hsy⟩ := hsy.ex
      have hL1 : (L64.lim n1).length ≤ 4 := L64.len_le (lt_pow (k := 20) (Lm.ndig_le.1 (Nat.le_refl _)) (by omega) (by omega))
      have hL2 : (L64.lim n2).length ≤ 4 := L64.len_le (lt_pow (k := 20) (Lm.ndig_le.1 (Nat.le_refl _)) (by omega) (by omega))
      have hL3 : (L64.lim (n1 * n2)).length ≤ 8 := L64.len_le (lt_pow (k := 40) (Lm.ndig_le.1 (Nat.le_refl _)) (by omega) (by omega))
      obtain ⟨l0, hl0⟩ : ∃ l0 : List Int, G.sgM b1 b2 (n1 * n2) = decide (0 < l0.length) := by
        cases G.sgM b1 b2 (n1 * n2) with
        | false => exact ⟨[], rfl⟩
        | true => exact ⟨[0], rfl⟩
      obtain ⟨kg, hdg⟩ := (Lm.digits_some l0 (G.sgM b1 b2 (n1 * n2)) (n1 * n2) hc hl0 (by omega) (by omega)).ex
      have hsg : decide (G.sgnI (G.sgM b1 b2 (n1 * n2)) (L64.lim (n1 * n2)) < 0) = decide (0 < l0.length) := by
        rw [← hl0]
        have hcc := hc
        have := L64.len_zero (n := n1 * n2)
        generalize G.sgM b1 b2 (n1 * n2) = c at *
        unfold G.sgnI
        cases c with
        | false =>
          by_cases h : (L64.lim (n1 * n2)).length = 0
          · rw [if_pos h]; rfl
          · rw [if_neg h]; rfl
        | true =>
          have h2 := hcc rfl
          rw [if_neg (by omega)]; rfl
      exact G.lawMul_yes K km ks s1 s2 (Lm.text b1 n1) (Lm.text b2 n2) (Lm.text (G.sgM b1 b2 (n1 * n2)) (n1 * n2)) e1 e2 x1 x2 (x1 + x2) b1 b2 _ _ _ _ _ _ _ w hz1 hz2 (hf1 K (by omega)) (hf2 K (by omega)) (hr1 K (by omega)) (hr2 K (by omega))
        (fun w0 hb => G.implMul_is (Lm.text b1 n1) (Lm.text b2 n2) x1 x2 b1 b2 n1 n2 kg l0 _ w0 (made_text b1 n1 x1 hb1 (by omega) hx10 hx11) (made_text b2 n2 x2 hb2 (by omega) hx20 hx21) (hv.below hb) (by omega) (by omega) (by omega) (by omega) (by omega) (by omega) hsg hdg) hfm hsy

set_option maxRecDepth 100000 in
theorem contract (H : Type) (enc : TypeId × Value → H) (W : World) (base : Nat) (args : Array Value) (ds gs : List (DataW H)) (before : List MemPlace)
    (hval : ∀ (j : Nat) t v, Tryz.f3.params[j]? = some t → args[j]? = some v → Value.okWide Tryz.prog W .any base t v)
    (hW : DataW.Whole enc Tryz.prog Tryz.f3.params.toList Rows.fnDecMulSpec.vars false W args.toList ds gs before) (hL : laidMetH Tryz.prog Rows.fnDecMulRow.laid W) :
    Calls Tryz.prog 3 args W fun e W' => ∃ v, e = .returned v ∧ Rows.fnDecMulSpec.post enc Tryz.prog Tryz.f3 false true false false W args v W' := by
  have hW' := hW
  obtain ⟨p, q, hA0, hV, rfl, hfz, hnd⟩ := hW
  have hA : DataW.TrodAll enc Tryz.prog W 0 (fun _ => true) true Tryz.f3.params.toList args.toList ds p := hA0
  rw [Tryz.params3] at hA hval
  obtain ⟨v0, vs0, d0, ds0, p0, q0, hargs, rfl, rfl, h0, r0⟩ := trodAll_cons hA
  obtain ⟨v1, vs1, d1, ds1, p1, q1, rfl, rfl, rfl, h1, r1⟩ := trodAll_cons r0
  obtain ⟨rfl, rfl, rfl⟩ := trodAll_nil r1
  obtain rfl : args = #[v0, v1] := by cases args; simp_all
  obtain ⟨s0, e0, rfl, rfl, rfl, ws0, we0⟩ := G.openDec (hval 0 23 v0 rfl rfl) h0
  obtain ⟨s1, e1, rfl, rfl, rfl, ws1, we1⟩ := G.openDec (hval 1 23 v1 rfl rfl) h1
  clear hA0
  refine (walk s0 s1 e0 e1 W (laidThr hL)).mono fun e W' ⟨he, bel⟩ => ?_
  subst he
  have hV3 := Below.trodVars G.laidOut bel (by kernel_rfl) hV
  obtain ⟨x, y, z, hgs⟩ := vars3 hV
  subst hgs
  exact ⟨_, rfl, _, _, _, [], _, q, hW', trodAll_mk1 (shut_bool Tryz.underlying4 _), (trodAll_cons_mk (G.shutDec ws0 we0) (trodAll_cons_mk (G.shutDec ws1 we1) trodAll_mk0)), hV3, bel.frame _, fun h => by cases h⟩

/-- A WORLD FOR THE WITNESS: the settled one, the variables written. -/
noncomputable def laidWorld (os : Os) : World :=
  let w0 := World.holding Tryz.prog os ⟨#[], #[], []⟩
  { w0 with heap := ((w0.heap.modify 0 fun
      | .cells _ t frozen => .cells #[.int .i64 12] t frozen
      | o => o).modify 1 fun
      | .cells _ t frozen => .cells #[.int .i64 80] t frozen
      | o => o).modify 2 fun
      | .cells _ t frozen => .cells #[.int .i64 40] t frozen
      | o => o }
theorem laid_met (os : Os) : laidMet Tryz.prog Rows.fnDecMulRow.laid ((laidWorld os).forCall (fun _ _ => 0) ⟨#[], #[.agg #[.string ⟨#[]⟩, .int .i64 0], .agg #[.string ⟨#[]⟩, .int .i64 0]], []⟩).memory :=
  laidMet_of_run (ps := [.cell 2 0, .cell 0 0, .cell 1 0]) 8 (by kernel_rfl) (by kernel_rfl) (by kernel_rfl)
theorem reads (os : Os) {H : Type} (enc : TypeId × Value → H) : DataW.whole enc Tryz.prog ((laidWorld os).forCall (fun _ _ => 0) ⟨#[], #[.agg #[.string ⟨#[]⟩, .int .i64 0], .agg #[.string ⟨#[]⟩, .int .i64 0]], []⟩).memory Tryz.f3.params.toList Rows.fnDecMulSpec.vars false #[Value.agg #[.string ⟨#[]⟩, .int .i64 0], .agg #[.string ⟨#[]⟩, .int .i64 0]].toList 8 =
    some ([.agg [.lit (.string []), .lit (.int .i64 0)], .agg [.lit (.string []), .lit (.int .i64 0)]], [.lit (.int .i64 12), .lit (.int .i64 80), .lit (.int .i64 40)], [.cell 0 0, .cell 1 0, .cell 2 0]) := by kernel_rfl

set_option maxRecDepth 100000 in
theorem lifted (os : Os) (started : os.Started) (H : Type) (enc : TypeId × Value → H) (F : Stop.Interp) :
    ReturnsInHanded {} Tryz.checked os 3 .any ((OpenSpec.ofChange Rows.fnDecMulSpec).preRow enc Tryz.prog Tryz.f3 Rows.fnDecMulRow.domain false Rows.fnDecMulRow.laid) (((OpenSpec.ofChange Rows.fnDecMulSpec).at F).post enc Tryz.prog Tryz.f3 false true false false) := by
  have hx := reads os enc
  refine returnsInHanded_of_row (C := Tryz.checked) (s := OpenSpec.ofChange Rows.fnDecMulSpec) G.own started (by kernel_rfl) Tryz.func3
    (witness_row_atRef (enc := enc) (C := Tryz.checked) false (laidWorld os) #[.agg #[.string ⟨#[]⟩, .int .i64 0], .agg #[.string ⟨#[]⟩, .int .i64 0]] rfl (by kernel_rfl) (by kernel_rfl) (by kernel_rfl)
      (OpenSpec.preRow_of_cond 8 hx (by kernel_rfl) (fun k hk => by cases hk) (by kernel_rfl) (laid_met os))) ?_
  intro W base args ds gs before hval hW _ _ _ hL _ _
  exact contract H enc W base args ds gs before hval hW hL

theorem said : Rows.FnDecMulSaid :=
  OpenClaim.holds_of_cond 3 Tryz.f3 rfl rfl rfl rfl rfl rfl rfl ⟨rfl, rfl, rfl, rfl, rfl⟩ rfl rfl rfl rfl rfl (by kernel_rfl) Tryz.func3 (by kernel_rfl)
    (of_decide_eq_true (by kernel_rfl)) (by unfold Func.isWrapper; first | (rw [if_pos (by decide +kernel)]; kernel_rfl) | (rw [if_neg (by decide +kernel)]; exact ⟨rfl, rfl⟩))
    (fun os started H enc _ F => by rw [OpenClaim.pre_eq_preRow]; exact lifted os started H enc F)

theorem plain (f : FuncId) (fn : Func) (hf : Tryz.pinned.checked.prog.funcNamed "given.example/pub-alexandrine/laws.FnDecMul" = some f) (hfn : Tryz.pinned.checked.prog.funcs[f]? = some fn) :
    false = Tryz.pinned.checked.prog.looks [] ∧ ∀ (j : Nat) t, fn.params[j]? = some t → Tryz.pinned.checked.prog.wantsStandIn t = false := by
  obtain rfl : f = 3 := Option.some.inj ((show Tryz.prog.funcNamed "given.example/pub-alexandrine/laws.FnDecMul" = some 3 by kernel_rfl).symm.trans hf) |>.symm
  obtain rfl : fn = Tryz.f3 := (Option.some.inj (Tryz.func3.symm.trans hfn)).symm
  refine ⟨by kernel_rfl, fun j t ht => ?_⟩
  rw [Tryz.params3] at ht
  have hm : t = 23 := by simpa using Array.mem_of_getElem? ht
  subst hm
  exact (show Tryz.prog.wantsStandIn 23 = false by kernel_rfl)

theorem card : Rows.FnDecMulCardSaid :=
  Claim7.holds_tied_plain_at .later [] _ _ _ _ said (fun _ h => by cases h) (by kernel_rfl) (fun _ h => by cases h) fnDecMul_row_tie rfl ⟨rfl, rfl⟩ (by kernel_rfl) rfl plain (by kernel_rfl)
end Go.Proofs.YtghabdpbacgicaaGreatDoor.fnDecMul
namespace Go.Proofs.YtghabdpbacgicaaGreatDoor
theorem fnDecMul_holds : Rows.FnDecMulCardSaid := fnDecMul.card
#print axioms fnDecMul_holds
end Go.Proofs.YtghabdpbacgicaaGreatDoor
