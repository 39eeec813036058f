/-
  CONTRACTS of the fint functions that read the table of powers of ten: lsh, and what calls it. The table's cells are a hypothesis ('Tab').
-/
import Derived.Test.YtcgdphciepdkiaaDoorSFin
namespace Go.Proofs.YtcgdphciepdkiaaDoor.G
open Go.RowKit Go.Proofs.YtcgdphciepdkiaaDoorW.PrintWords Go.Proofs.YtcgdphciepdkiaaDoorW.PrintLast Go.Proofs.YtcgdphciepdkiaaDoorW.PrintMore Go.Proofs.YtcgdphciepdkiaaDoor.S
attribute [local go_sem] max2_int min2_int max_two min_two max_three min_three max_four min_four
set_option linter.unusedVariables false
set_option linter.unusedSimpArgs false

/-- The table of powers of ten lies in its place. -/
def Tab (w : World) : Prop := ∀ i : Nat, i < 20 → w.cell? ⟨0, i, none⟩ = some (.int .u64 ((10 ^ i : Nat) : Int))
theorem Tab.below {w w1 : World} (h : Tab w) (hb : Below w.heap.size w w1) : Tab w1 := fun i hi => pw_cell_below hb (h i hi)

def lshF (x s : Int) : Option (Int × Bool) := if s ≤ 0 then some (x, true) else if s = 1 ∧ x < 999999999999999999 then some (IntKind.u64.wrap (x * 10), true) else if 20 ≤ s then some (0, false) else govalues_fint_mul.f x ((10 ^ s.toNat : Nat) : Int)

theorem lsh_le (x s : Int) (w : World) (h : s ≤ 0) : Calls Tryd.prog 53 #[.int .u64 x, .int .i64 s] w fun e w' => e = .returned (.tuple #[.int .u64 x, .bool true]) ∧ w = w' := by
  go_enter Tryd.func53, Tryd.ntmps53
  go_wp2
  go_ret2
  exact ⟨rfl, rfl⟩
theorem lsh_one (x : Int) (w : World) (h : x < 999999999999999999) : Calls Tryd.prog 53 #[.int .u64 x, .int .i64 1] w fun e w' => e = .returned (.tuple #[.int .u64 (IntKind.u64.wrap (x * 10)), .bool true]) ∧ w = w' := by
  go_enter Tryd.func53, Tryd.ntmps53
  go_wp2
  go_ret2
  exact ⟨rfl, rfl⟩
theorem lsh_ge (x s : Int) (w : World) (h : 20 ≤ s) : Calls Tryd.prog 53 #[.int .u64 x, .int .i64 s] w fun e w' => e = .returned (.tuple #[.int .u64 0, .bool false]) ∧ w = w' := by
  have h1 : (s == 1) = false := by simp; omega
  go_enter Tryd.func53, Tryd.ntmps53
  go_wp2
  go_ret2
  exact ⟨rfl, rfl⟩
theorem lsh_tab (x : Int) (n : Nat) (p r1 : Int) (r2 : Bool) (w : World) (h0 : 1 ≤ n) (h1 : n < 20) (hx : n = 1 → ¬ x < 999999999999999999) (hc : w.cell? ⟨0, n, none⟩ = some (.int .u64 p)) (hm : govalues_fint_mul.f x p = some (r1, r2)) :
    Calls Tryd.prog 53 #[.int .u64 x, .int .i64 (n : Int)] w fun e w' => e = .returned (.tuple #[.int .u64 r1, .bool r2]) ∧ Drawn0 w w' := by
  have HM := Aside0.mk hm
  clear hm
  by_cases h : n = 1
  · subst h
    have h2 := hx rfl
    clear hx
    go_enter Tryd.func53, Tryd.ntmps53
    go_wp2_with (go_at_call 69; refine (govalues_fint_mul.calls x p r1 r2 _ HM.out).mono ?_; rintro e w' ⟨rfl, hd⟩)
    go_ret2
    exact ⟨rfl, hd⟩
  · have h2 : ((n : Int) == 1) = false := by simp; omega
    clear hx h
    go_enter Tryd.func53, Tryd.ntmps53
    go_wp2_with (go_at_call 69; refine (govalues_fint_mul.calls x p r1 r2 _ HM.out).mono ?_; rintro e w' ⟨rfl, hd⟩)
    go_ret2
    exact ⟨rfl, hd⟩
theorem lsh_calls (x s r1 : Int) (r2 : Bool) (w : World) (ht : Tab w) (h : lshF x s = some (r1, r2)) :
    Calls Tryd.prog 53 #[.int .u64 x, .int .i64 s] w fun e w' => e = .returned (.tuple #[.int .u64 r1, .bool r2]) ∧ Drawn0 w w' := by
  unfold lshF at h
  by_cases h1 : s ≤ 0
  · rw [if_pos h1] at h
    obtain ⟨rfl, rfl⟩ := h
    exact (lsh_le x s w h1).mono fun e w' ⟨he, hw⟩ => ⟨he, hw ▸ Drawn0.refl w⟩
  · rw [if_neg h1] at h
    by_cases h2 : s = 1 ∧ x < 999999999999999999
    · rw [if_pos h2] at h
      obtain ⟨rfl, rfl⟩ := h
      obtain ⟨rfl, h3⟩ := h2
      exact (lsh_one x w h3).mono fun e w' ⟨he, hw⟩ => ⟨he, hw ▸ Drawn0.refl w⟩
    · rw [if_neg h2] at h
      by_cases h3 : 20 ≤ s
      · rw [if_pos h3] at h
        obtain ⟨rfl, rfl⟩ := h
        exact (lsh_ge x s w h3).mono fun e w' ⟨he, hw⟩ => ⟨he, hw ▸ Drawn0.refl w⟩
      · rw [if_neg h3] at h
        obtain ⟨n, rfl⟩ := Int.eq_ofNat_of_zero_le (show 0 ≤ s by omega)
        rw [Int.toNat_natCast] at h
        exact lsh_tab x n _ r1 r2 w (by omega) (by omega) (fun e hx => h2 ⟨by omega, hx⟩) (ht n (by omega)) h
theorem zzShift_calls (x s r1 : Int) (r2 : Bool) (w : World) (ht : Tab w) (h : lshF x s = some (r1, r2)) :
    Calls Tryd.prog 28 #[.int .u64 x, .int .i64 s] w fun e w' => e = .returned (.tuple #[.int .u64 r1, .bool r2]) ∧ Drawn0 w w' := by
  have HM := Aside0.mk h
  have HT := Aside0.mk ht
  clear h ht
  go_enter Tryd.func28, Tryd.ntmps28
  go_wp2_with (go_at_call 53; refine (lsh_calls x s r1 r2 _ HT.out HM.out).mono ?_; rintro e w' ⟨rfl, hd⟩)
  go_ret2
  exact ⟨rfl, hd⟩
theorem fintShift_calls (x s r1 : Int) (r2 : Bool) (w : World) (hx : x ≤ 9999999999999999999) (ht : Tab w) (h : lshF x s = some (r1, r2)) :
    Calls Tryd.prog 10 #[.int .u64 x, .int .i64 s] w fun e w' => e = .returned (.tuple #[.int .u64 r1, .bool r2]) ∧ Drawn0 w w' := by
  have HM := Aside0.mk h
  have HT := Aside0.mk ht
  clear h ht
  go_enter Tryd.func10, Tryd.ntmps10
  go_wp2_with (go_at_call 28; refine (zzShift_calls x s r1 r2 _ HT.out HM.out).mono ?_; rintro e w' ⟨rfl, hd⟩)
  go_ret2
  exact ⟨rfl, hd⟩
end Go.Proofs.YtcgdphciepdkiaaDoor.G
