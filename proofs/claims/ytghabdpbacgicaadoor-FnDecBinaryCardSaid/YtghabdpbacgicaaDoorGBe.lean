/-
  CONTRACTS: bigall_beUint32 bigall_beUint64 bigall_bigEndianWord. (Began as print.sh's text over a scratch copy; turned by wip/tools/transplant.py and by hand.)
-/
import Derived.Test.YtghabdpbacgicaaDoorS0
import Derived.Test.YtghabdpbacgicaaDoorTI
namespace Go.Proofs.YtghabdpbacgicaaDoor.S
open Go.RowKit Go.Proofs.YtghabdpbacgicaaDoorW.PrintWords Go.Proofs.YtghabdpbacgicaaDoorW.PrintLast Go.Proofs.YtghabdpbacgicaaDoorW.PrintMore
attribute [local go_sem] max2_int min2_int max_two min_two max_three min_three max_four min_four
set_option linter.unusedVariables false
set_option linter.unusedSimpArgs false

/-! ### bigall_beUint32 -/

def bigall_beUint32.f (l0 : List Int) : Option (Int) := if 3 < (l0.length : Int) then (if 2 < (l0.length : Int) then (if 1 < (l0.length : Int) then (if 0 < (l0.length : Int) then (some (Go.bits .or .u32 (Go.bits .or .u32 (Go.bits .or .u32 ((rd l0 3) % 4294967296) ((((rd l0 2) % 4294967296) * 256) % 4294967296)) ((((rd l0 1) % 4294967296) * 65536) % 4294967296)) ((((rd l0 0) % 4294967296) * 16777216) % 4294967296))) else (none)) else (none)) else (none)) else (none)
set_option maxHeartbeats 8000000 in
set_option maxRecDepth 100000 in
theorem bigall_beUint32.calls (A0 : Option Addr) (c0 : Nat) (l0 : List Int) (r : Int) (w : World) (hr0 : Kd.C (Kd.int .u8) w A0 l0.length l0) (hc0 : l0.length ≤ c0) (h : bigall_beUint32.f l0 = some r) :
    Calls Tryd.prog 58 #[.slice A0 l0.length c0] w fun e w' => e = .returned (.int .u32 r) ∧ Drawn0 w w' := by
  have HR0 := Aside0.mk hr0
  have HC0 := Aside0.mk hc0
  clear hr0 hc0
  have H : (if 3 < (l0.length : Int) then (if 2 < (l0.length : Int) then (if 1 < (l0.length : Int) then (if 0 < (l0.length : Int) then (some (Go.bits .or .u32 (Go.bits .or .u32 (Go.bits .or .u32 ((rd l0 3) % 4294967296) ((((rd l0 2) % 4294967296) * 256) % 4294967296)) ((((rd l0 1) % 4294967296) * 65536) % 4294967296)) ((((rd l0 0) % 4294967296) * 16777216) % 4294967296))) else (none)) else (none)) else (none)) else (none)) = some r := h
  clear h
  by_cases c2 : 3 < (l0.length : Int)
  · rw [if_pos c2] at H
    have c2b0 : decide (3 < (l0.length : Int)) = true := decide_eq_true c2
    have c2b1 : decide (3 < l0.length) = true := decide_eq_true (by omega)
    clear c2
    by_cases c3 : 2 < (l0.length : Int)
    · rw [if_pos c3] at H
      have c3b0 : decide (2 < (l0.length : Int)) = true := decide_eq_true c3
      have c3b1 : decide (2 < l0.length) = true := decide_eq_true (by omega)
      clear c3
      by_cases c4 : 1 < (l0.length : Int)
      · rw [if_pos c4] at H
        have c4b0 : decide (1 < (l0.length : Int)) = true := decide_eq_true c4
        have c4b1 : decide (1 < l0.length) = true := decide_eq_true (by omega)
        clear c4
        by_cases c5 : 0 < (l0.length : Int)
        · rw [if_pos c5] at H
          have c5b0 : decide (0 < (l0.length : Int)) = true := decide_eq_true c5
          have c5b1 : decide (0 < l0.length) = true := decide_eq_true (by omega)
          clear c5
          obtain rfl := Option.some.inj H
          have p151 : 0 ≤ (3 : Int) := (by omega)
          have q151 : 3 < (l0.length : Int) := of_decide_eq_true (by first | (with_reducible assumption) | assumption)
          obtain ⟨ad151, e151, hx151_0⟩ := Kd.at_int HR0.out 3 p151 q151
          cases e151
          (try simp only [show (3 : Int).toNat = 3 from rfl, Nat.reduceMul, Nat.reduceEqDiff, Go.Addr.add, ↓reduceIte] at hx151_0)
          have qi151 : (3 < l0.length) = True := eq_true (by omega)
          (try rw [show ((3 : Int)).toNat = 3 from rfl] at hx151_0)
          replace p151 := eq_true p151
          replace q151 := eq_true q151
          have p152 : 0 ≤ (3 : Int) := (by omega)
          have q152 : 3 < (l0.length : Int) := of_decide_eq_true (by first | (with_reducible assumption) | assumption)
          obtain ⟨ad152, e152, hx152_0⟩ := Kd.at_int HR0.out 3 p152 q152
          obtain rfl : ad151 = ad152 := (by injection e152)
          (try simp only [show (3 : Int).toNat = 3 from rfl, Nat.reduceMul, Nat.reduceEqDiff, Go.Addr.add, ↓reduceIte] at hx152_0)
          have qi152 : (3 < l0.length) = True := eq_true (by omega)
          (try rw [show ((3 : Int)).toNat = 3 from rfl] at hx152_0)
          replace p152 := eq_true p152
          replace q152 := eq_true q152
          have p153 : 0 ≤ (2 : Int) := (by omega)
          have q153 : 2 < (l0.length : Int) := of_decide_eq_true (by first | (with_reducible assumption) | assumption)
          obtain ⟨ad153, e153, hx153_0⟩ := Kd.at_int HR0.out 2 p153 q153
          obtain rfl : ad151 = ad153 := (by injection e153)
          (try simp only [show (2 : Int).toNat = 2 from rfl, Nat.reduceMul, Nat.reduceEqDiff, Go.Addr.add, ↓reduceIte] at hx153_0)
          have qi153 : (2 < l0.length) = True := eq_true (by omega)
          (try rw [show ((2 : Int)).toNat = 2 from rfl] at hx153_0)
          replace p153 := eq_true p153
          replace q153 := eq_true q153
          have p154 : 0 ≤ (1 : Int) := (by omega)
          have q154 : 1 < (l0.length : Int) := of_decide_eq_true (by first | (with_reducible assumption) | assumption)
          obtain ⟨ad154, e154, hx154_0⟩ := Kd.at_int HR0.out 1 p154 q154
          obtain rfl : ad151 = ad154 := (by injection e154)
          (try simp only [show (1 : Int).toNat = 1 from rfl, Nat.reduceMul, Nat.reduceEqDiff, Go.Addr.add, ↓reduceIte] at hx154_0)
          have qi154 : (1 < l0.length) = True := eq_true (by omega)
          (try rw [show ((1 : Int)).toNat = 1 from rfl] at hx154_0)
          replace p154 := eq_true p154
          replace q154 := eq_true q154
          have p155 : 0 ≤ (0 : Int) := (by omega)
          have q155 : 0 < (l0.length : Int) := of_decide_eq_true (by first | (with_reducible assumption) | assumption)
          obtain ⟨ad155, e155, hx155_0⟩ := Kd.at_int HR0.out 0 p155 q155
          obtain rfl : ad151 = ad155 := (by injection e155)
          have qi155 : (0 < l0.length) = True := eq_true (by omega)
          (try rw [show ((0 : Int)).toNat = 0 from rfl] at hx155_0)
          (try rw [Addr.add_zero'] at hx155_0)
          replace p155 := eq_true p155
          replace q155 := eq_true q155
          go_enter Tryd.func58, Tryd.ntmps58
          go_wp2
          repeat (go_quiet (fail); try go_wp2)
          go_ret
          exact ⟨by first | rfl | (simp; done) | (simp [*]; done), by repeat (first | exact Drawn0.refl _ | apply Drawn0.step)⟩
        · rw [if_neg c5] at H
          exact absurd H (by simp)
      · rw [if_neg c4] at H
        exact absurd H (by simp)
    · rw [if_neg c3] at H
      exact absurd H (by simp)
  · rw [if_neg c2] at H
    exact absurd H (by simp)

/-! ### bigall_beUint64 -/

def bigall_beUint64.f (l0 : List Int) : Option (Int) := if 7 < (l0.length : Int) then ((bigall_beUint32.f l0).bind fun t157 => (if 4 ≤ (l0.length : Int) then ((bigall_beUint32.f (l0.drop 4)).bind fun t159 => (some (Go.bits .or .u64 (IntKind.u64.wrap ((IntKind.u64.wrap (t157)) * 4294967296)) (IntKind.u64.wrap (t159))))) else (none))) else (none)
set_option maxHeartbeats 8000000 in
set_option maxRecDepth 100000 in
theorem bigall_beUint64.calls (A0 : Option Addr) (c0 : Nat) (l0 : List Int) (r : Int) (w : World) (hr0 : Kd.C (Kd.int .u8) w A0 l0.length l0) (hc0 : l0.length ≤ c0) (h : bigall_beUint64.f l0 = some r) :
    Calls Tryd.prog 57 #[.slice A0 l0.length c0] w fun e w' => e = .returned (.int .u64 r) ∧ Drawn0 w w' := by
  have HR0 := Aside0.mk hr0
  have HC0 := Aside0.mk hc0
  clear hr0 hc0
  have H : (if 7 < (l0.length : Int) then ((bigall_beUint32.f l0).bind fun t157 => (if 4 ≤ (l0.length : Int) then ((bigall_beUint32.f (l0.drop 4)).bind fun t159 => (some (Go.bits .or .u64 (IntKind.u64.wrap ((IntKind.u64.wrap (t157)) * 4294967296)) (IntKind.u64.wrap (t159))))) else (none))) else (none)) = some r := h
  clear h
  by_cases c2 : 7 < (l0.length : Int)
  · rw [if_pos c2] at H
    have c2b0 : decide (7 < (l0.length : Int)) = true := decide_eq_true c2
    have c2b1 : decide (7 < l0.length) = true := decide_eq_true (by omega)
    clear c2
    replace H := Option.bind_eq_some_iff.mp H
    obtain ⟨t157, A30, H⟩ := H
    replace H : (if 4 ≤ (l0.length : Int) then ((bigall_beUint32.f (l0.drop 4)).bind fun t159 => (some (Go.bits .or .u64 (IntKind.u64.wrap ((IntKind.u64.wrap (t157)) * 4294967296)) (IntKind.u64.wrap (t159))))) else (none)) = some r := H
    have A3 := Aside0.mk A30
    clear A30
    by_cases c4 : 4 ≤ (l0.length : Int)
    · rw [if_pos c4] at H
      have c4b0 := eq_true c4
      have c4b1 : decide (4 ≤ (l0.length : Int)) = true := decide_eq_true c4
      clear c4
      replace H := Option.bind_eq_some_iff.mp H
      obtain ⟨t159, A50, H⟩ := H
      replace H : (some (Go.bits .or .u64 (IntKind.u64.wrap ((IntKind.u64.wrap (t157)) * 4294967296)) (IntKind.u64.wrap (t159)))) = some r := H
      have A5 := Aside0.mk A50
      clear A50
      obtain rfl := Option.some.inj H
      have p156 : 0 ≤ (7 : Int) := (by omega)
      have q156 : 7 < (l0.length : Int) := of_decide_eq_true (by first | (with_reducible assumption) | assumption)
      obtain ⟨ad156, e156, hx156_0⟩ := Kd.at_int HR0.out 7 p156 q156
      cases e156
      (try simp only [show (7 : Int).toNat = 7 from rfl, Nat.reduceMul, Nat.reduceEqDiff, Go.Addr.add, ↓reduceIte] at hx156_0)
      have qi156 : (7 < l0.length) = True := eq_true (by omega)
      (try rw [show ((7 : Int)).toNat = 7 from rfl] at hx156_0)
      replace p156 := eq_true p156
      replace q156 := eq_true q156
      obtain ⟨i06, hi06, _, hsz6, _⟩ := info_parts tinfo_u8
      obtain ⟨A6, hcut6, hA6, hC6⟩ := print_drop_of (P := Tryd.prog) (Value.int .u8) 0 34 5 .i64 Tryd.underlying34 hi06 hsz6 (some ad156) c0 l0 4 (by omega) (of_decide_eq_true (by first | (with_reducible assumption) | assumption)) HC0.out
      have HR6 := Aside0.mk (Kd.C_of_reads (h1 := fun _ => rfl) (hA6 _ (Kd.reads_of_C HR0.out)))
      have K1 := Aside0.mk (fun n => bigall_beUint32.calls (some ad156) c0 l0 t157 (w.drewN n) (Kd.C_drewN HR0.out n) HC0.out A3.out)
      have k2 := fun n => bigall_beUint32.calls A6 _ _ t159 (w.drewN n) (Kd.C_drewN HR6.out n) hC6 A5.out
      rw [show (List.drop (4 : Int).toNat l0).length = l0.length - 4 from List.length_drop, show (4 : Int).toNat = 4 from rfl] at k2
      have K2 := Aside0.mk k2
      clear k2 hA6 hC6 hi06 hsz6
      go_enter Tryd.func57, Tryd.ntmps57
      go_wp2_with fail
      go_quiet (first | (go_at_call 58; (with_reducible refine (K1.out _).mono ?_); rintro e w' ⟨rfl, ⟨nd, rfl⟩⟩; exact ⟨rfl, _, World.drewN_drewN _ _ _⟩) | (go_at_call 58; (with_reducible refine (K2.out _).mono ?_); rintro e w' ⟨rfl, ⟨nd, rfl⟩⟩; exact ⟨rfl, _, World.drewN_drewN _ _ _⟩))
      go_wp2
      go_ret
      exact ⟨by first | rfl | (simp; done) | (simp [*]; done), by repeat (first | exact Drawn0.refl _ | apply Drawn0.step)⟩
    · rw [if_neg c4] at H
      exact absurd H (by simp)
  · rw [if_neg c2] at H
    exact absurd H (by simp)

/-! ### bigall_bigEndianWord -/

def bigall_bigEndianWord.f (l0 : List Int) : Option (Int) := (bigall_beUint64.f l0).bind fun t160 => (some t160)
set_option maxHeartbeats 8000000 in
set_option maxRecDepth 100000 in
theorem bigall_bigEndianWord.calls (A0 : Option Addr) (c0 : Nat) (l0 : List Int) (r : Int) (w : World) (hr0 : Kd.C (Kd.int .u8) w A0 l0.length l0) (hc0 : l0.length ≤ c0) (h : bigall_bigEndianWord.f l0 = some r) :
    Calls Tryd.prog 54 #[.slice A0 l0.length c0] w fun e w' => e = .returned (.int .u64 r) ∧ Drawn0 w w' := by
  have HR0 := Aside0.mk hr0
  have HC0 := Aside0.mk hc0
  clear hr0 hc0
  have H : ((bigall_beUint64.f l0).bind fun t160 => (some t160)) = some r := h
  clear h
  replace H := Option.bind_eq_some_iff.mp H
  obtain ⟨t160, A20, H⟩ := H
  replace H : (some t160) = some r := H
  have A2 := Aside0.mk A20
  clear A20
  obtain rfl := Option.some.inj H
  go_enter Tryd.func54, Tryd.ntmps54
  go_wp2_with (first | ((with_reducible refine gate_callee (f := 57) rfl ?_); refine goesL_ (some 4) rfl rfl Tryd.func57 (by kernel_rfl) rfl #[.slice A0 l0.length c0] rfl (by (try simp only [List.map_toArray, List.map_cons, List.map_nil]); first | done | rfl | (simp only [List.length_drop, List.length_take]; rfl)) ?_; (with_reducible refine (bigall_beUint64.calls _ _ l0 t160 _ ?side1 ?side2 A2.out).mono ?_); (case side1 => repeat (first | exact HR0.out | (with_reducible refine Kd.C_alloc ?_ _) | (with_reducible refine Kd.C_drewN ?_ _) | (with_reducible refine Kd.C_drew ?_))); (case side2 => exact HC0.out); rintro e w' ⟨rfl, ⟨nd, rfl⟩⟩; refine ⟨_, rfl, ?_⟩))
  go_ret
  exact ⟨by first | rfl | (simp; done) | (simp [*]; done), by repeat (first | exact Drawn0.refl _ | apply Drawn0.step)⟩

end Go.Proofs.YtghabdpbacgicaaDoor.S
