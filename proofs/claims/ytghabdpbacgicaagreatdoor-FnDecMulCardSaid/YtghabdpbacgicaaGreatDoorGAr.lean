/-
  CONTRACTS: the package's arithmetic on words.
-/
import Derived.Test.YtghabdpbacgicaaGreatDoorSBit
import Derived.Test.YtghabdpbacgicaaGreatDoorLmBit
import Derived.Laws.Externs
import Derived.Lib.Mul64
import Derived.Outline
namespace Go.Proofs.YtghabdpbacgicaaGreatDoor.Lm
open Go.RowKit Go.Proofs.YtghabdpbacgicaaGreatDoorW.PrintWords Go.Proofs.YtghabdpbacgicaaGreatDoor.S
set_option linter.unusedVariables false

theorem wrap_nat {n : Nat} (h : n < 18446744073709551616) : IntKind.u64.wrap (n : Int) = (n : Int) := wu64 (Int.natCast_nonneg n) (by omega)
theorem wrap_mul (a b : Nat) (h : a * b < 18446744073709551616) : IntKind.u64.wrap ((a : Int) * (b : Int)) = ((a * b : Nat) : Int) := by
  rw [← Int.natCast_mul]
  exact wrap_nat h
theorem wrap_add (a b : Nat) (h : a + b < 18446744073709551616) : IntKind.u64.wrap ((a : Int) + (b : Int)) = ((a + b : Nat) : Int) := by
  rw [← Int.natCast_add]
  exact wrap_nat h
theorem div32 (a : Nat) : (a : Int) / 4294967296 = ((a / 4294967296 : Nat) : Int) := by omega
theorem mul64_core (x1 x0 y1 y0 : Nat) (h0 : x0 * y0 < 18446744073709551616) (h1 : x1 * y0 + x0 * y0 / 4294967296 < 18446744073709551616) (h2 : (x1 * y0 + x0 * y0 / 4294967296) % 4294967296 + x0 * y1 < 18446744073709551616)
    (h3 : x1 * y1 + (x1 * y0 + x0 * y0 / 4294967296) / 4294967296 + ((x1 * y0 + x0 * y0 / 4294967296) % 4294967296 + x0 * y1) / 4294967296 < 18446744073709551616) :
    IntKind.u64.wrap ((IntKind.u64.wrap ((IntKind.u64.wrap ((x1 : Int) * (y1 : Int))) + ((IntKind.u64.wrap ((IntKind.u64.wrap ((x1 : Int) * (y0 : Int))) + ((IntKind.u64.wrap ((x0 : Int) * (y0 : Int))) / 4294967296))) / 4294967296))) + ((IntKind.u64.wrap ((Go.bits .and .u64 (IntKind.u64.wrap ((IntKind.u64.wrap ((x1 : Int) * (y0 : Int))) + ((IntKind.u64.wrap ((x0 : Int) * (y0 : Int))) / 4294967296))) 4294967295) + (IntKind.u64.wrap ((x0 : Int) * (y1 : Int))))) / 4294967296)) =
    ((x1 * y1 + (x1 * y0 + x0 * y0 / 4294967296) / 4294967296 + ((x1 * y0 + x0 * y0 / 4294967296) % 4294967296 + x0 * y1) / 4294967296 : Nat) : Int) := by
  have b1 : x1 * y1 < 18446744073709551616 := by generalize (x1 * y0 + x0 * y0 / 4294967296) = a at *; omega
  have b2 : x1 * y0 < 18446744073709551616 := by omega
  have b3 : x0 * y1 < 18446744073709551616 := by omega
  rw [wrap_mul x1 y1 b1, wrap_mul x1 y0 b2, wrap_mul x0 y0 h0, wrap_mul x0 y1 b3, div32, wrap_add _ _ h1, div32, and32 _ h1]
  clear b1 b2 b3 h0
  generalize x1 * y0 + x0 * y0 / 4294967296 = a at *
  rw [wrap_add _ _ (by omega), wrap_add _ _ h2, div32, wrap_add _ _ h3]
theorem mul64_f (x y : Nat) (hx : x < 18446744073709551616) (hy : y < 18446744073709551616) : bits_Mul.f (x : Int) (y : Int) = some (((x * y / 18446744073709551616 : Nat) : Int), ((x * y % 18446744073709551616 : Nat) : Int)) := by
  obtain ⟨h0, h1, h2, h3⟩ := Go.Lib.mul64_hi x y hx hy
  have hxy : x * y ≤ 18446744073709551615 * 18446744073709551615 := Nat.mul_le_mul (by omega) (by omega)
  have h4 : x * y / 18446744073709551616 < 18446744073709551616 := by generalize x * y = p at hxy; omega
  have hc := mul64_core (x / 4294967296) (x % 4294967296) (y / 4294967296) (y % 4294967296) h0 h1 h2 (by rw [h3]; exact h4)
  rw [h3] at hc
  have hl : IntKind.u64.wrap ((x : Int) * (y : Int)) = ((x * y % 18446744073709551616 : Nat) : Int) := by
    rw [← Int.natCast_mul, IntKind.wrap_u64]
    omega
  unfold bits_Mul.f bits_Mul64.f
  rw [div32, div32, and32 x hx, and32 y hy, hc, hl]
  rfl
end Go.Proofs.YtghabdpbacgicaaGreatDoor.Lm
namespace Go.Proofs.YtghabdpbacgicaaGreatDoor.G
open Go.RowKit Go.Proofs.YtghabdpbacgicaaGreatDoorW.PrintWords Go.Proofs.YtghabdpbacgicaaGreatDoorW.PrintLast Go.Proofs.YtghabdpbacgicaaGreatDoorW.PrintMore Go.Proofs.YtghabdpbacgicaaGreatDoor.S
set_option linter.unusedVariables false
set_option linter.unusedSimpArgs false

theorem add64_at (x y : Int) (hx : 0 ≤ x) (hy : 0 ≤ y) (w : World) : (callFunc 95 #[.int .u64 x, .int .u64 y, .int .u64 0]).run Tryz.prog w =
    .ok (.value (.tuple #[.int .u64 ((x + y) % 18446744073709551616), .int .u64 ((x + y) / 18446744073709551616)])) w := by
  rw [run_callFunc_extern (P := Tryz.prog) Tryz.func95 (by kernel_rfl) (by kernel_rfl) (by kernel_rfl) (e := add64Entry) (by kernel_rfl) #[.int .u64 x, .int .u64 y, .int .u64 0] w, run_add64 x y 0 hx hy (by omega) (by omega), Int.add_zero]
  rfl
set_option maxRecDepth 100000 in
theorem add_is (x y : Int) (hx : 0 ≤ x) (hy : 0 ≤ y) (w : World) :
    Calls Tryz.prog 90 #[.int .u64 x, .int .u64 y, .int .u64 0] w fun e w' => e = .returned (.tuple #[.int .u64 ((x + y) % 18446744073709551616), .int .u64 ((x + y) / 18446744073709551616)]) ∧ Below w.heap.size w w' := by
  have HB := Aside0.mk (Below.refl w.heap.size w)
  have HA := fun w0 => add64_at x y hx hy w0
  go_enter Tryz.func90, Tryz.ntmps90
  go_wp2_with (simp only [HA])
  go_ret2
  exact ⟨rfl, HB.out⟩
set_option maxRecDepth 100000 in
theorem mulAddWWW_is (X Y C : Nat) (hx : X < 18446744073709551616) (hy : Y < 18446744073709551616) (hc : C < 18446744073709551616) (w : World) :
    Calls Tryz.prog 91 #[.int .u64 (X : Int), .int .u64 (Y : Int), .int .u64 (C : Int)] w fun e w' => e = .returned (.tuple #[.int .u64 (((X * Y + C) / 18446744073709551616 : Nat) : Int), .int .u64 (((X * Y + C) % 18446744073709551616 : Nat) : Int)]) ∧ Below w.heap.size w w' := by
  have HB := Aside0.mk (Below.refl w.heap.size w)
  have HM := Aside0.mk (fun w0 => bits_Mul.calls (X : Int) (Y : Int) _ _ w0 (Lm.mul64_f X Y hx hy))
  have hp : X * Y ≤ 18446744073709551615 * 18446744073709551615 := Nat.mul_le_mul (by omega) (by omega)
  have e1 : IntKind.u64.wrap (((X * Y / 18446744073709551616 : Nat) : Int) + (((X * Y % 18446744073709551616 : Nat) : Int) + (C : Int)) / 18446744073709551616) = (((X * Y + C) / 18446744073709551616 : Nat) : Int) := by
    clear HM
    generalize X * Y = p at *
    rw [IntKind.wrap_u64]
    omega
  have e2 : (((X * Y % 18446744073709551616 : Nat) : Int) + (C : Int)) % 18446744073709551616 = (((X * Y + C) % 18446744073709551616 : Nat) : Int) := by
    clear HM e1
    generalize X * Y = p at *
    omega
  clear hp
  obtain ⟨h, hh⟩ : ∃ h : Int, ((X * Y / 18446744073709551616 : Nat) : Int) = h := ⟨_, rfl⟩
  obtain ⟨l, hl⟩ : ∃ l : Int, ((X * Y % 18446744073709551616 : Nat) : Int) = l := ⟨_, rfl⟩
  obtain ⟨r1, hr1⟩ : ∃ r1 : Int, (((X * Y + C) / 18446744073709551616 : Nat) : Int) = r1 := ⟨_, rfl⟩
  obtain ⟨r2, hr2⟩ : ∃ r2 : Int, (((X * Y + C) % 18446744073709551616 : Nat) : Int) = r2 := ⟨_, rfl⟩
  obtain ⟨c, hcc⟩ : ∃ c : Int, (C : Int) = c := ⟨_, rfl⟩
  have HA := Aside0.mk (fun w0 => add_is l c (by omega) (by omega) w0)
  rw [hh, hl] at HM
  rw [hh, hl, hr1, hcc] at e1
  rw [hl, hr2, hcc] at e2
  rw [hr1, hr2, hcc]
  have E1 := Aside0.mk e1
  have E2 := Aside0.mk e2
  clear hh hl hr1 hr2 hcc e1 e2
  go_enter Tryz.func91, Tryz.ntmps91
  go_wp2_with fail
  refine (HM.out _).mono ?_
  rintro e w1 ⟨rfl, hd⟩
  have HB1 := Aside0.mk (below_step HB.out (Drawn0.below hd))
  clear hd HB
  go_wp2_with fail
  refine (HA.out _).mono ?_
  rintro e w2 ⟨rfl, hb⟩
  have HB2 := Aside0.mk (below_step HB1.out hb)
  clear hb HB1
  go_wp2_with fail
  rw [E1.out, E2.out]
  go_ret2
  exact ⟨rfl, HB2.out⟩
end Go.Proofs.YtghabdpbacgicaaGreatDoor.G
