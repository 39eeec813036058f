/-
  CONTRACTS of the fint functions that divide by a power of ten and round.
-/
import Derived.Test.YtcgdphciepdkiaaDoorGFin
import Derived.Test.YtcgdphciepdkiaaDoorGMake
import Derived.WalkSmall
import Derived.Outline
namespace Go.Proofs.YtcgdphciepdkiaaDoor.G
open Go.RowKit Go.Proofs.YtcgdphciepdkiaaDoorW.PrintWords Go.Proofs.YtcgdphciepdkiaaDoorW.PrintLast Go.Proofs.YtcgdphciepdkiaaDoorW.PrintMore Go.Proofs.YtcgdphciepdkiaaDoor.S Go.Proofs.YtcgdphciepdkiaaDoor.Lm
set_option linter.unusedVariables false
set_option linter.unusedSimpArgs false

/-- Rounded half to even. -/
def heN (x p : Nat) : Nat := if p / 2 < x % p ∨ (p / 2 = x % p ∧ x / p % 2 = 1) then x / p + 1 else x / p
theorem isOdd_is (q : Nat) (w : World) (hq : q < 18446744073709551616) : Calls Tryd.prog 70 #[.int .u64 (q : Int)] w fun e w' => e = .returned (.bool (decide (q % 2 = 1))) ∧ Drawn0 w w' := by
  have e1 : govalues_fint_isOdd.f (q : Int) = some (decide (q % 2 = 1)) := by
    unfold govalues_fint_isOdd.f
    rw [and_one_u64 (q : Int) (by omega) (by omega)]
    congr 1
    rw [Bool.eq_iff_iff]; simp; omega
  exact govalues_fint_isOdd.calls (q : Int) _ w e1
/-- What is left, as the walk spells it. -/
abbrev rawR (x p : Nat) : Int := IntKind.u64.wrap ((x : Int) - IntKind.u64.wrap (IntKind.u64.wrap ((x : Int) / (p : Int)) * (p : Int)))
theorem raw_q (x p : Nat) (hx : x < 10 ^ 19) : IntKind.u64.wrap ((x : Int) / (p : Int)) = ((x / p : Nat) : Int) := by
  have h2 := Nat.div_le_self x p
  rw [← Int.natCast_ediv]; generalize x / p = q at *; exact wu64 (by omega) (by omega)
theorem raw_r (x p : Nat) (hx : x < 10 ^ 19) : rawR x p = ((x % p : Nat) : Int) := by
  unfold rawR
  have h1 := Nat.div_add_mod x p
  have h3 : x / p * p = p * (x / p) := Nat.mul_comm _ _
  rw [raw_q x p hx, ← Int.natCast_mul]
  generalize x / p * p = m at *
  generalize p * (x / p) = m' at *
  generalize x % p = r at *
  rw [wu64 (i := (m : Int)) (by omega) (by omega), wu64 (by omega) (by omega)]; omega
theorem isOdd_raw (x p : Nat) (b : Bool) (w : World) (hx : x < 10 ^ 19) (hb : decide (x / p % 2 = 1) = b) : Calls Tryd.prog 70 #[.int .u64 (IntKind.u64.wrap ((x : Int) / (p : Int)))] w fun e w' => e = .returned (.bool b) ∧ Drawn0 w w' := by
  have h := Nat.div_le_self x p
  rw [raw_q x p hx, ← hb]
  exact isOdd_is _ w (by generalize x / p = q at *; omega)
set_option maxRecDepth 100000 in
theorem rshHE_up (x j p : Nat) (w : World) (h0 : 0 < x) (hx : x < 10 ^ 19) (hj0 : 1 ≤ j) (hj : j < 20) (hp0 : 10 ≤ p) (hc : w.cell? ⟨0, j, none⟩ = some (.int .u64 (p : Int))) (hy : p / 2 < x % p) :
    Calls Tryd.prog 58 #[.int .u64 (x : Int), .int .i64 (j : Int)] w fun e w' => e = .returned (.int .u64 ((x / p + 1 : Nat) : Int)) ∧ Drawn0 w w' := by
  have b0 : ((x : Int) == 0) = false := by simp; omega
  have b1 : ((p : Int) == 0) = false := by simp; omega
  have b2 : decide ((p : Int) / 2 < rawR x p) = true := by rw [raw_r x p hx]; simp; omega
  have HQ := Aside0.mk (raw_q x p hx)
  have HL := Aside0.mk (Nat.div_le_self x p)
  have HX := Aside0.mk hx
  clear hy hx
  go_enter Tryd.func58, Tryd.ntmps58
  go_wp2
  go_ret
  refine ⟨?_, Drawn0.refl w⟩
  have h1 := HL.out
  have h2 := HX.out
  rw [HQ.out]
  generalize x / p = q at *
  rw [wu64 (by omega) (by omega)]; rfl
set_option maxRecDepth 100000 in
theorem rshHE_odd (x j p : Nat) (w : World) (h0 : 0 < x) (hx : x < 10 ^ 19) (hj0 : 1 ≤ j) (hj : j < 20) (hp0 : 10 ≤ p) (hc : w.cell? ⟨0, j, none⟩ = some (.int .u64 (p : Int))) (hy : p / 2 = x % p) (ho : x / p % 2 = 1) :
    Calls Tryd.prog 58 #[.int .u64 (x : Int), .int .i64 (j : Int)] w fun e w' => e = .returned (.int .u64 ((x / p + 1 : Nat) : Int)) ∧ Drawn0 w w' := by
  have b0 : ((x : Int) == 0) = false := by simp; omega
  have b1 : ((p : Int) == 0) = false := by simp; omega
  have b2 : decide ((p : Int) / 2 < rawR x p) = false := by rw [raw_r x p hx]; simp; omega
  have b3 : ((p : Int) / 2 == rawR x p) = true := by rw [raw_r x p hx]; simp; omega
  have HO := Aside0.mk (decide_eq_true ho)
  clear ho
  have HQ := Aside0.mk (raw_q x p hx)
  have HL := Aside0.mk (Nat.div_le_self x p)
  have HX := Aside0.mk hx
  clear hy hx
  go_enter Tryd.func58, Tryd.ntmps58
  go_wp2_with (go_at_call 70; refine (isOdd_raw x p true _ HX.out HO.out).mono ?_; rintro e w1 ⟨rfl, hd⟩)
  go_ret
  refine ⟨?_, hd⟩
  have h1 := HL.out
  have h2 := HX.out
  rw [HQ.out]
  generalize x / p = q at *
  rw [wu64 (by omega) (by omega)]; rfl
set_option maxRecDepth 100000 in
theorem rshHE_even (x j p : Nat) (w : World) (h0 : 0 < x) (hx : x < 10 ^ 19) (hj0 : 1 ≤ j) (hj : j < 20) (hp0 : 10 ≤ p) (hc : w.cell? ⟨0, j, none⟩ = some (.int .u64 (p : Int))) (hy : p / 2 = x % p) (ho : ¬ x / p % 2 = 1) :
    Calls Tryd.prog 58 #[.int .u64 (x : Int), .int .i64 (j : Int)] w fun e w' => e = .returned (.int .u64 ((x / p : Nat) : Int)) ∧ Drawn0 w w' := by
  have b0 : ((x : Int) == 0) = false := by simp; omega
  have b1 : ((p : Int) == 0) = false := by simp; omega
  have b2 : decide ((p : Int) / 2 < rawR x p) = false := by rw [raw_r x p hx]; simp; omega
  have b3 : ((p : Int) / 2 == rawR x p) = true := by rw [raw_r x p hx]; simp; omega
  have HO := Aside0.mk (decide_eq_false ho)
  clear ho
  have HQ := Aside0.mk (raw_q x p hx)
  have HL := Aside0.mk (Nat.div_le_self x p)
  have HX := Aside0.mk hx
  clear hy hx
  go_enter Tryd.func58, Tryd.ntmps58
  go_wp2_with (go_at_call 70; refine (isOdd_raw x p false _ HX.out HO.out).mono ?_; rintro e w1 ⟨rfl, hd⟩)
  go_ret
  refine ⟨?_, hd⟩
  rw [HQ.out]; rfl
set_option maxRecDepth 100000 in
theorem rshHE_down (x j p : Nat) (w : World) (h0 : 0 < x) (hx : x < 10 ^ 19) (hj0 : 1 ≤ j) (hj : j < 20) (hp0 : 10 ≤ p) (hc : w.cell? ⟨0, j, none⟩ = some (.int .u64 (p : Int))) (hy : x % p < p / 2) :
    Calls Tryd.prog 58 #[.int .u64 (x : Int), .int .i64 (j : Int)] w fun e w' => e = .returned (.int .u64 ((x / p : Nat) : Int)) ∧ Drawn0 w w' := by
  have b0 : ((x : Int) == 0) = false := by simp; omega
  have b1 : ((p : Int) == 0) = false := by simp; omega
  have b2 : decide ((p : Int) / 2 < rawR x p) = false := by rw [raw_r x p hx]; simp; omega
  have b3 : ((p : Int) / 2 == rawR x p) = false := by rw [raw_r x p hx]; simp; omega
  have HQ := Aside0.mk (raw_q x p hx)
  have HL := Aside0.mk (Nat.div_le_self x p)
  have HX := Aside0.mk hx
  clear hy hx
  go_enter Tryd.func58, Tryd.ntmps58
  go_wp2
  go_ret
  refine ⟨?_, Drawn0.refl w⟩
  rw [HQ.out]; rfl
theorem rshHE_is (x j : Nat) (w : World) (hx : x < 10 ^ 19) (hj0 : 1 ≤ j) (hj : j < 20) (ht : Tab w) :
    Calls Tryd.prog 58 #[.int .u64 (x : Int), .int .i64 (j : Int)] w fun e w' => e = .returned (.int .u64 ((heN x (10 ^ j) : Nat) : Int)) ∧ Drawn0 w w' := by
  by_cases h0 : x = 0
  · subst h0
    have e : heN 0 (10 ^ j) = 0 := by
      unfold heN
      have : 1 ≤ 10 ^ j / 2 := by
        have : 10 ^ 1 ≤ 10 ^ j := Nat.pow_le_pow_right (by omega) hj0
        omega
      rw [Nat.zero_mod, Nat.zero_div, if_neg (by omega)]
    rw [e]
    clear e ht
    go_enter Tryd.func58, Tryd.ntmps58
    go_wp2
    go_ret
    exact ⟨rfl, Drawn0.refl w⟩
  · have hp : 10 ^ 1 ≤ 10 ^ j := Nat.pow_le_pow_right (by omega) hj0
    have hc := ht j hj
    unfold heN
    generalize 10 ^ j = p at *
    rcases Nat.lt_trichotomy (p / 2) (x % p) with h | h | h
    · rw [if_pos (Or.inl h)]; exact rshHE_up x j p w (by omega) hx hj0 hj (by omega) hc h
    · by_cases ho : x / p % 2 = 1
      · rw [if_pos (Or.inr ⟨h, ho⟩)]; exact rshHE_odd x j p w (by omega) hx hj0 hj (by omega) hc h ho
      · rw [if_neg (by rintro (h' | ⟨_, h'⟩) <;> omega)]; exact rshHE_even x j p w (by omega) hx hj0 hj (by omega) hc h ho
    · rw [if_neg (by rintro (h' | ⟨h', _⟩) <;> omega)]; exact rshHE_down x j p w (by omega) hx hj0 hj (by omega) hc h
/-! ### rshUp, rshDown -/
set_option maxRecDepth 100000 in
theorem rshDown_pos (x j p : Nat) (w : World) (h0 : 0 < x) (hx : x < 10 ^ 19) (hj0 : 1 ≤ j) (hj : j < 20) (hp0 : 10 ≤ p) (hc : w.cell? ⟨0, j, none⟩ = some (.int .u64 (p : Int))) :
    Calls Tryd.prog 66 #[.int .u64 (x : Int), .int .i64 (j : Int)] w fun e w' => e = .returned (.int .u64 ((x / p : Nat) : Int)) ∧ Drawn0 w w' := by
  have b0 : ((x : Int) == 0) = false := by simp; omega
  have b1 : ((p : Int) == 0) = false := by simp; omega
  have HQ := Aside0.mk (raw_q x p hx)
  clear hx
  go_enter Tryd.func66, Tryd.ntmps66
  go_wp2
  go_ret
  refine ⟨?_, Drawn0.refl w⟩
  rw [HQ.out]; rfl
theorem rshDown_is (x j : Nat) (w : World) (hx : x < 10 ^ 19) (hj0 : 1 ≤ j) (hj : j < 20) (ht : Tab w) :
    Calls Tryd.prog 66 #[.int .u64 (x : Int), .int .i64 (j : Int)] w fun e w' => e = .returned (.int .u64 ((x / 10 ^ j : Nat) : Int)) ∧ Drawn0 w w' := by
  by_cases h0 : x = 0
  · subst h0
    rw [Nat.zero_div]
    clear ht
    go_enter Tryd.func66, Tryd.ntmps66
    go_wp2
    go_ret
    exact ⟨rfl, Drawn0.refl w⟩
  · have hp : 10 ^ 1 ≤ 10 ^ j := Nat.pow_le_pow_right (by omega) hj0
    have hc := ht j hj
    generalize 10 ^ j = p at *
    exact rshDown_pos x j p w (by omega) hx hj0 hj (by omega) hc
set_option maxRecDepth 100000 in
theorem rshUp_more (x j p : Nat) (w : World) (h0 : 0 < x) (hx : x < 10 ^ 19) (hj0 : 1 ≤ j) (hj : j < 20) (hp0 : 10 ≤ p) (hc : w.cell? ⟨0, j, none⟩ = some (.int .u64 (p : Int))) (hy : 0 < x % p) :
    Calls Tryd.prog 65 #[.int .u64 (x : Int), .int .i64 (j : Int)] w fun e w' => e = .returned (.int .u64 ((x / p + 1 : Nat) : Int)) ∧ Drawn0 w w' := by
  have b0 : ((x : Int) == 0) = false := by simp; omega
  have b1 : ((p : Int) == 0) = false := by simp; omega
  have b2 : decide (0 < rawR x p) = true := by rw [raw_r x p hx]; simp; omega
  have HQ := Aside0.mk (raw_q x p hx)
  have HL := Aside0.mk (Nat.div_le_self x p)
  have HX := Aside0.mk hx
  clear hy hx
  go_enter Tryd.func65, Tryd.ntmps65
  go_wp2
  go_ret
  refine ⟨?_, Drawn0.refl w⟩
  have h1 := HL.out
  have h2 := HX.out
  rw [HQ.out]
  generalize x / p = q at *
  rw [wu64 (by omega) (by omega)]; rfl
set_option maxRecDepth 100000 in
theorem rshUp_none (x j p : Nat) (w : World) (h0 : 0 < x) (hx : x < 10 ^ 19) (hj0 : 1 ≤ j) (hj : j < 20) (hp0 : 10 ≤ p) (hc : w.cell? ⟨0, j, none⟩ = some (.int .u64 (p : Int))) (hy : x % p = 0) :
    Calls Tryd.prog 65 #[.int .u64 (x : Int), .int .i64 (j : Int)] w fun e w' => e = .returned (.int .u64 ((x / p : Nat) : Int)) ∧ Drawn0 w w' := by
  have b0 : ((x : Int) == 0) = false := by simp; omega
  have b1 : ((p : Int) == 0) = false := by simp; omega
  have b2 : decide (0 < rawR x p) = false := by rw [raw_r x p hx]; simp; omega
  have HQ := Aside0.mk (raw_q x p hx)
  clear hy hx
  go_enter Tryd.func65, Tryd.ntmps65
  go_wp2
  go_ret
  refine ⟨?_, Drawn0.refl w⟩
  rw [HQ.out]; rfl
/-- Rounded up. -/
def upN (x p : Nat) : Nat := if 0 < x % p then x / p + 1 else x / p
theorem rshUp_is (x j : Nat) (w : World) (hx : x < 10 ^ 19) (hj0 : 1 ≤ j) (hj : j < 20) (ht : Tab w) :
    Calls Tryd.prog 65 #[.int .u64 (x : Int), .int .i64 (j : Int)] w fun e w' => e = .returned (.int .u64 ((upN x (10 ^ j) : Nat) : Int)) ∧ Drawn0 w w' := by
  by_cases h0 : x = 0
  · subst h0
    have e : upN 0 (10 ^ j) = 0 := by unfold upN; rw [Nat.zero_mod, Nat.zero_div, if_neg (by omega)]
    rw [e]
    clear e ht
    go_enter Tryd.func65, Tryd.ntmps65
    go_wp2
    go_ret
    exact ⟨rfl, Drawn0.refl w⟩
  · have hp : 10 ^ 1 ≤ 10 ^ j := Nat.pow_le_pow_right (by omega) hj0
    have hc := ht j hj
    unfold upN
    generalize 10 ^ j = p at *
    by_cases h : 0 < x % p
    · rw [if_pos h]; exact rshUp_more x j p w (by omega) hx hj0 hj (by omega) hc h
    · rw [if_neg h]; exact rshUp_none x j p w (by omega) hx hj0 hj (by omega) hc (by omega)
end Go.Proofs.YtcgdphciepdkiaaDoor.G
