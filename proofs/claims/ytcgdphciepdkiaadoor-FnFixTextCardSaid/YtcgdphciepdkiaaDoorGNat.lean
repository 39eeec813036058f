/-
  CONTRACTS of the reference's numbers, as numbers: a Nat of the reference that reads as 'lim n' goes in, one that reads as the answer comes out; nothing that was there has changed.
-/
import Derived.Test.YtcgdphciepdkiaaDoorLmB
import Derived.Test.YtcgdphciepdkiaaDoorLmWho
namespace Go.Proofs.YtcgdphciepdkiaaDoor.G
open Go.RowKit Go.Proofs.YtcgdphciepdkiaaDoorW.PrintWords Go.Proofs.YtcgdphciepdkiaaDoorW.PrintLast Go.Proofs.YtcgdphciepdkiaaDoorW.PrintMore Go.Proofs.YtcgdphciepdkiaaDoor.S Go.Proofs.YtcgdphciepdkiaaDoor.Lm
set_option linter.unusedVariables false

/-- The slice at A, of capacity c, reads as the limbs of n. -/
structure Rd (w : World) (A : Option Addr) (c : Nat) (n : Nat) : Prop where mk :: (cap : (lim n).length ≤ c) (reads : Kd.C (Kd.int .u32) w A (lim n).length (lim n))
theorem Rd.below {w w1 : World} {A : Option Addr} {c n : Nat} (h : Rd w A c n) (hb : Below w.heap.size w w1) : Rd w1 A c n := ⟨h.cap, Kd.C_below h.reads hb⟩
theorem Rd.of_R {w : World} {e base n : Nat} {ok : Nat → Prop} {v : Value} (h : Kd.R (Kd.int .u32) e w base ok v (lim n)) : ∃ A c, v = .slice A (lim n).length c ∧ Rd w A c n := by
  obtain ⟨A, c, rfl, h1, h2⟩ := Kd.R_reads h
  exact ⟨A, c, rfl, h1, h2⟩
theorem Rd.of_V {w : World} {e base n : Nat} {ok : Nat → Prop} {v : Value} (h : Kd.V (Kd.int .u32) e w base ok v (lim n)) : ∃ A c, v = .slice A (lim n).length c ∧ Rd w A c n := by
  obtain ⟨A, c, rfl, h1, h2⟩ := h
  exact ⟨A, c, rfl, h1, Kd.F_now h2⟩
/-- What a number made by a call is. -/
def Made (n : Nat) (w : World) (e : Ending) (w' : World) : Prop := ∃ A c, e = .returned (.slice A (lim n).length c) ∧ Rd w' A c n ∧ Below w.heap.size w w'

theorem natFrom_is (n : Nat) (w : World) (hn : n < 18446744073709551616) : Calls Tryd.prog 13 #[.int .u64 (n : Int)] w (Made n w) := by
  obtain ⟨k, h⟩ := (natFrom n hn).ex
  refine (spec_NatFrom.calls k _ _ w h).mono ?_
  rintro e w' ⟨v, rfl, hv, hb⟩
  obtain ⟨A, c, rfl, hr⟩ := Rd.of_R hv
  exact ⟨A, c, rfl, hr, hb⟩
theorem natMul_is (a b : Nat) (A0 A1 : Option Addr) (c0 c1 : Nat) (w : World) (h0 : Rd w A0 c0 a) (h1 : Rd w A1 c1 b) (hs : (lim a).length + (lim b).length ≤ 70368744177664) :
    Calls Tryd.prog 12 #[.slice A0 (lim a).length c0, .slice A1 (lim b).length c1] w (Made (a * b) w) := by
  obtain ⟨k, h⟩ := (natMul a b hs).ex
  refine (spec_NatMul.calls k _ _ _ _ _ _ _ w h0.reads h0.cap h1.reads h1.cap h).mono ?_
  rintro e w' ⟨v, rfl, hv, hb⟩
  obtain ⟨A, c, rfl, hr⟩ := Rd.of_V hv
  exact ⟨A, c, rfl, hr, hb⟩
theorem pow10_is (n : Nat) (w : World) (hn : n ≤ 1000000) : Calls Tryd.prog 14 #[.int .i64 (n : Int)] w (Made (10 ^ n) w) := by
  obtain ⟨k, h⟩ := (pow10 n hn).ex
  refine (spec_Pow10.calls k _ _ w h).mono ?_
  rintro e w' ⟨v, rfl, hv, hb⟩
  obtain ⟨A, c, rfl, hr⟩ := Rd.of_R hv
  exact ⟨A, c, rfl, hr, hb⟩
theorem whole_is (z : Nat) (ok : Bool) (n : Nat) (A : Option Addr) (c : Nat) (w : World) (h0 : Rd w A c n) (hz : z < 18446744073709551616) (hn : 9 * (lim n).length + 20 < 140737488355328) :
    Calls Tryd.prog 11 #[.int .u64 (z : Int), .bool ok, .slice A (lim n).length c] w fun e w' => e = .returned (.bool (if n < 10 ^ 19 then ok && decide (z = n) else !ok)) ∧ Below w.heap.size w w' := by
  obtain ⟨k, h⟩ := (whole z ok n hz hn).ex
  exact laws_gvWhole.calls k _ _ A c _ _ w h0.reads h0.cap h
end Go.Proofs.YtcgdphciepdkiaaDoor.G
