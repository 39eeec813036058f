/-
  THE WALK of 'laws.FnFintShift': true, for every input, where the table of powers of ten lies in its place.
-/
import Derived.Test.YtcgdphciepdkiaaDoorGFin
import Derived.Test.YtcgdphciepdkiaaDoorGNat
import Derived.Outline
namespace Go.Proofs.YtcgdphciepdkiaaDoor.G
open Go.RowKit Go.Proofs.YtcgdphciepdkiaaDoorW.PrintWords Go.Proofs.YtcgdphciepdkiaaDoorW.PrintLast Go.Proofs.YtcgdphciepdkiaaDoorW.PrintMore Go.Proofs.YtcgdphciepdkiaaDoor.S Go.Proofs.YtcgdphciepdkiaaDoor.Lm
set_option linter.unusedVariables false
set_option linter.unusedSimpArgs false

/-- What lsh tells, of a number of at most 19 digits above 0. -/
theorem lshF_tells (x s : Nat) (h0 : 0 < x) (hx : x < 10 ^ 19) (hs : s ≤ 40) : ∃ (z : Nat) (ok : Bool), lshF (x : Int) (s : Int) = some ((z : Int), ok) ∧ z < 18446744073709551616 ∧ if x * 10 ^ s < 10 ^ 19 then z = x * 10 ^ s ∧ ok = true else ok = false := by
  unfold lshF
  by_cases h1 : (s : Int) ≤ 0
  · rw [if_pos h1]
    obtain rfl : s = 0 := by omega
    exact ⟨x, true, rfl, by omega, by rw [Nat.pow_zero, Nat.mul_one, if_pos hx]; exact ⟨rfl, rfl⟩⟩
  rw [if_neg h1]
  by_cases h2 : (s : Int) = 1 ∧ (x : Int) < 999999999999999999
  · rw [if_pos h2]
    obtain rfl : s = 1 := by omega
    exact ⟨x * 10, true, by rw [wu64 (by omega) (by omega)]; rfl, by omega, by rw [Nat.pow_one, if_pos (by omega)]; exact ⟨rfl, rfl⟩⟩
  rw [if_neg h2]
  by_cases h3 : (20 : Int) ≤ s
  · rw [if_pos h3]
    refine ⟨0, false, rfl, by omega, ?_⟩
    have h4 : 10 ^ 20 ≤ 10 ^ s := Nat.pow_le_pow_right (by omega) (by omega)
    have h5 := Nat.mul_le_mul h0 h4
    rw [if_neg (by omega)]
  rw [if_neg h3, Int.toNat_natCast]
  have hp : 0 < 10 ^ s := Nat.pow_pos (by omega)
  have hp2 : 10 ^ s ≤ 10 ^ 19 := Nat.pow_le_pow_right (by omega) (by omega)
  generalize 10 ^ s = p at *
  unfold govalues_fint_mul.f
  rw [if_neg (by omega)]
  have ew : IntKind.u64.wrap ((x : Int) * (p : Int)) = ((x * p % 18446744073709551616 : Nat) : Int) := by
    rw [IntKind.wrap_u64, ← Int.natCast_mul]; omega
  rw [ew]
  have hq : IntKind.u64.wrap (Int.tdiv ((x * p % 18446744073709551616 : Nat) : Int) (p : Int)) = ((x * p % 18446744073709551616 / p : Nat) : Int) := by
    rw [Int.tdiv_eq_ediv_of_nonneg (by omega), ← Int.natCast_ediv]
    have h4 := Nat.div_le_self (x * p % 18446744073709551616) p
    have h5 := Nat.mod_lt (x * p) (show 0 < 18446744073709551616 by omega)
    generalize x * p % 18446744073709551616 / p = q at *
    rw [wu64 (by omega) (by omega)]
  rw [hq]
  by_cases h4 : x * p < 18446744073709551616
  · rw [Nat.mod_eq_of_lt h4, Nat.mul_div_cancel _ hp, if_pos rfl]
    by_cases h5 : x * p < 10 ^ 19
    · rw [if_neg (by omega)]
      exact ⟨_, true, rfl, h4, by rw [if_pos h5]; exact ⟨rfl, rfl⟩⟩
    · rw [if_pos (by omega)]
      exact ⟨0, false, rfl, by omega, by rw [if_neg h5]⟩
  · have h8 : ¬ x * p < 10 ^ 19 := by omega
    by_cases h6 : x * p % 18446744073709551616 / p = x
    · have h7 := Nat.div_mul_le_self (x * p % 18446744073709551616) p
      rw [h6] at h7
      have := Nat.mod_lt (x * p) (show 0 < 18446744073709551616 by omega)
      omega
    · rw [if_neg (fun e => h6 (Int.ofNat_inj.1 e))]
      exact ⟨0, false, rfl, by omega, by rw [if_neg h8]⟩

/-- One number in a box of its own reads as a list of one. -/
theorem C_one (w : World) (k : IntKind) (x : Int) (t : TypeId) : Kd.C (Kd.int k) (w.alloc (.cells #[.int k x] t)) (some ⟨w.heap.size, 0, none⟩) 1 [x] := by
  refine ⟨rfl, by omega, fun _ => ⟨_, rfl, fun j p hj => ?_⟩⟩
  cases j with
  | zero =>
    obtain rfl : x = p := by simpa using hj
    refine ⟨[.int k x], rfl, rfl, fun i u hi => ?_⟩
    cases i with
    | zero =>
      obtain rfl : Value.int k x = u := by simpa using hi
      rw [add_plain]
      simp [go_sem]
    | succ i => simp at hi
  | succ j => simp at hj
theorem fnFintShift_out (x s : Int) (w : World) (h : 9999999999999999999 < x ∨ x = 0 ∨ s < 0 ∨ 40 < s) :
    Calls Tryd.prog 3 #[.int .u64 x, .int .i64 s] w fun e w' => e = .returned (.bool true) ∧ Below w.heap.size w w' := by
  obtain ⟨k, hm⟩ := (most [x] (by simp)).ex
  have HM := Aside0.mk hm
  clear hm
  by_cases h1 : 9999999999999999999 < x
  · have HM2 := Aside0.mk (show laws_gvMost.f k [x] = some false by rw [HM.out]; simp; omega)
    clear h HM
    go_enter Tryd.func3, Tryd.ntmps3
    go_wp2_with fail
    refine (laws_gvMost.calls k _ _ [x] false _ (C_one w .u64 x 22) (by simp) HM2.out).mono ?_
    rintro e w1 ⟨rfl, hd⟩
    have HB := Aside0.mk (below_step (below_alloc (Below.refl _ w) _) hd.below)
    clear hd
    go_wp2
    go_ret
    exact ⟨rfl, HB.out⟩
  have HM2 := Aside0.mk (show laws_gvMost.f k [x] = some true by rw [HM.out]; simp; omega)
  clear HM
  by_cases h2 : x = 0
  · subst h2
    clear h h1
    go_enter Tryd.func3, Tryd.ntmps3
    go_wp2_with fail
    refine (laws_gvMost.calls k _ _ [0] true _ (C_one w .u64 0 22) (by simp) HM2.out).mono ?_
    rintro e w1 ⟨rfl, hd⟩
    have HB := Aside0.mk (below_step (below_alloc (Below.refl _ w) _) hd.below)
    clear hd
    go_wp2
    go_ret
    exact ⟨rfl, HB.out⟩
  have b2 : (x == 0) = false := by simp [h2]
  by_cases h3 : s < 0
  · clear h h1 h2
    go_enter Tryd.func3, Tryd.ntmps3
    go_wp2_with fail
    refine (laws_gvMost.calls k _ _ [x] true _ (C_one w .u64 x 22) (by simp) HM2.out).mono ?_
    rintro e w1 ⟨rfl, hd⟩
    have HB := Aside0.mk (below_step (below_alloc (Below.refl _ w) _) hd.below)
    clear hd
    go_wp2
    go_ret
    exact ⟨rfl, HB.out⟩
  have h4 : 40 < s := by omega
  clear h h1 h2
  go_enter Tryd.func3, Tryd.ntmps3
  go_wp2_with fail
  refine (laws_gvMost.calls k _ _ [x] true _ (C_one w .u64 x 22) (by simp) HM2.out).mono ?_
  rintro e w1 ⟨rfl, hd⟩
  have HB := Aside0.mk (below_step (below_alloc (Below.refl _ w) _) hd.below)
  clear hd
  go_wp2
  go_ret
  exact ⟨rfl, HB.out⟩
theorem fnFintShift_in (x s : Nat) (w : World) (ht : Tab w) (h0 : 0 < x) (hx : x < 10 ^ 19) (hs : s ≤ 40) :
    Calls Tryd.prog 3 #[.int .u64 (x : Int), .int .i64 (s : Int)] w fun e w' => e = .returned (.bool true) ∧ Below w.heap.size w w' := by
  obtain ⟨z, ok, hl, hz, hc⟩ := lshF_tells x s h0 hx hs
  obtain ⟨k, hm⟩ := (most [(x : Int)] (by simp)).ex
  have hm2 : laws_gvMost.f k [(x : Int)] = some true := by rw [hm]; simp; omega
  have HL := Aside0.mk hl
  have HM := Aside0.mk hm2
  have HT := Aside0.mk ht
  have HC := Aside0.mk hc
  have b1 : ((x : Int) == 0) = false := by simp; omega
  clear hl hm hm2 ht hc
  go_enter Tryd.func3, Tryd.ntmps3
  go_wp2_with fail
  refine (laws_gvMost.calls k _ _ [(x : Int)] true _ (C_one w .u64 (x : Int) 22) (by simp) HM.out).mono ?_
  rintro e w1 ⟨rfl, hd⟩
  have HB := Aside0.mk (below_step (below_alloc (Below.refl _ w) _) hd.below)
  clear hd
  go_wp2_with fail
  refine (fintShift_calls x s z ok _ (by omega) (HT.out.below HB.out) HL.out).mono ?_
  rintro e w2 ⟨rfl, hd⟩
  have HB2 := Aside0.mk (below_step HB.out hd.below)
  clear hd HB
  go_wp2_with fail
  refine (natFrom_is x _ (by omega)).mono ?_
  rintro e w3 ⟨A3, c3, rfl, hr3, hb⟩
  have HB3 := Aside0.mk (below_step HB2.out hb)
  have HR3 := Aside0.mk hr3
  clear hb HB2 hr3
  go_wp2_with fail
  refine (pow10_is s _ (by omega)).mono ?_
  rintro e w4 ⟨A4, c4, rfl, hr4, hb⟩
  have HB4 := Aside0.mk (below_step HB3.out hb)
  have HR4 := Aside0.mk hr4
  have HR3' := Aside0.mk (HR3.out.below hb)
  clear hb HB3 hr4 HR3
  go_wp2_with fail
  have l3 : (lim x).length ≤ 3 := len_le (by omega)
  have l4 : (lim (10 ^ s)).length ≤ 5 := len_le (Nat.lt_of_le_of_lt (Nat.pow_le_pow_right (by omega) hs) (by decide))
  refine (natMul_is x (10 ^ s) _ _ _ _ _ HR3'.out HR4.out (by omega)).mono ?_
  rintro e w5 ⟨A5, c5, rfl, hr5, hb⟩
  have HB5 := Aside0.mk (below_step HB4.out hb)
  have HR5 := Aside0.mk hr5
  clear hb HB4 hr5 HR4 HR3'
  have l5 : (lim (x * 10 ^ s)).length ≤ 8 := len_le (by
    have h1 : 10 ^ s ≤ 10 ^ 40 := Nat.pow_le_pow_right (by omega) hs
    exact Nat.lt_of_le_of_lt (Nat.mul_le_mul (Nat.le_of_lt hx) h1) (by decide))
  have e1 : (if x * 10 ^ s < 10 ^ 19 then ok && decide (z = x * 10 ^ s) else !ok) = true := by
    have := HC.out
    by_cases h : x * 10 ^ s < 10 ^ 19
    · rw [if_pos h] at this ⊢
      rw [this.2, this.1]; simp
    · rw [if_neg h] at this ⊢
      rw [this]; rfl
  have hw := whole_is z ok (x * 10 ^ s) A5 c5 w5 HR5.out hz (by omega)
  rw [e1] at hw
  have HW := Aside0.mk hw
  clear hw e1 l5 l3 l4 HC HR5
  go_wp2_with fail
  refine HW.out.mono ?_
  rintro e w6 ⟨rfl, hb⟩
  have HB6 := Aside0.mk (below_step HB5.out hb)
  clear hb HB5 HW
  go_wp2_with fail
  go_ret
  exact ⟨rfl, HB6.out⟩
end Go.Proofs.YtcgdphciepdkiaaDoor.G
