/-
  CONTRACT of nat.make, of a number that has no memory yet.
-/
import Derived.Test.YtghabdpbacgicaaGreatDoorTI
import Derived.Outline
namespace Go.Proofs.YtghabdpbacgicaaGreatDoor.S
open Go.RowKit Go.Proofs.YtghabdpbacgicaaGreatDoorW.PrintWords Go.Proofs.YtghabdpbacgicaaGreatDoorW.PrintLast Go.Proofs.YtghabdpbacgicaaGreatDoorW.PrintMore
set_option linter.unusedVariables false
set_option linter.unusedSimpArgs false

/-- A row of the call's own, out of its block. -/
theorem R_row (k : IntKind) (e base g cap : Nat) (cur : Array Value) (xs : List Int) (w : World) (ok : Nat → Prop) (hB : w.heap[g]? = some (.cells cur e (0, 0))) (hbase : base ≤ g) (hc : xs.length ≤ cap) (hcm : cap ≤ maxLen) (hs : cur.size = cap)
    (ht : cur.toList.take xs.length = xs.map (Value.int k)) (hok : ok g) : Kd.R (Kd.int k) e w base ok (.slice (some ⟨g, 0, none⟩) xs.length cap) xs := by
  refine ⟨fun j hj => ?_, encs (Value.int k) xs, ⟨?_, .inr ⟨g, cap, cur, rfl, hbase, hB, hc, hcm, ?_, ?_⟩⟩, Kd.reps_scalar xs⟩
  · simp [Value.ownBlock] at hj
    subst hj
    exact hok
  · simp [encs, Kd.int, Kd.scalar]
  · simpa [Kd.int, Kd.scalar] using hs
  · simpa [encs, Kd.int, Kd.scalar] using ht
theorem made_zero (n : Nat) : madeCells #[Value.int .u64 0] n = Array.replicate n (.int .u64 0) := by
  unfold madeCells
  apply Array.ext
  · simp
  · intro i h1 h2
    simp [Nat.mod_one]
def bigall_nat_make.f (l0 : List Int) (a1 : Int) : Option (List Int) := if 0 ≤ a1 then (if (a1 : Int).toNat ≤ 1000000 then (some (List.replicate (a1 : Int).toNat 0)) else (none)) else (none)
theorem makeW_at (n c : Nat) (w : World) (h : n ≤ c) (hc : c ≤ 2000000) : (Instr.makeSlice 63 (.int .i64 (n : Int)) (.int .i64 (c : Int))).run Tryz.prog w = .ok (.slice (some ⟨w.heap.size, 0, none⟩) n c) (w.alloc (.cells (Array.replicate c (.int .u64 0)) 81)) := by
  obtain ⟨i0, hi, hz0, hz1, hz2⟩ := info_parts tinfo_word
  have hr := run_make (P := Tryz.prog) w 63 81 i0 (.int .u64 0) Tryz.underlying63 hi hz0 .i64 .i64 (n : Int) (c : Int) (by omega) (by omega) (by rw [hz2]; omega) (by omega)
  rw [hr, Int.toNat_natCast, Int.toNat_natCast, hz1, Nat.mul_one]
  rw [show (Value.int .u64 0).cells = #[Value.int .u64 0] from rfl, made_zero]
theorem made_row (n c : Nat) (w : World) (h : n ≤ c) (hc : c ≤ 2000000) : Kd.R (Kd.int .u64) 81 (w.alloc (.cells (Array.replicate c (.int .u64 0)) 81)) w.heap.size (fun _ => True) (.slice (some ⟨w.heap.size, 0, none⟩) n c) (List.replicate n 0) := by
  have hr := R_row .u64 81 w.heap.size w.heap.size c (Array.replicate c (.int .u64 0)) (List.replicate n 0) (w.alloc (.cells (Array.replicate c (.int .u64 0)) 81)) (fun _ => True) (blk_new w _) (Nat.le_refl _) (by simpa using h) (by unfold maxLen; omega) (by simp) (by simp [Nat.min_eq_left h]) trivial
  rw [List.length_replicate] at hr
  exact hr
set_option maxRecDepth 100000 in
theorem bigall_nat_make.calls (l0 : List Int) (a1 : Int) (r : List Int) (w : World) (h : bigall_nat_make.f l0 a1 = some r) :
    Calls Tryz.prog 52 #[.slice none 0 0, .int .i64 a1] w fun e w' => ∃ v0_ : Value, e = .returned (v0_) ∧ Kd.R (Kd.int .u64) 81 w' w.heap.size (fun _ => True) v0_ r ∧ Below w.heap.size w w' := by
  unfold bigall_nat_make.f at h
  by_cases c3 : 0 ≤ a1
  · rw [if_pos c3] at h
    by_cases c4 : (a1 : Int).toNat ≤ 1000000
    · rw [if_pos c4] at h
      obtain rfl := Option.some.inj h
      obtain ⟨n, rfl⟩ := Int.eq_ofNat_of_zero_le c3
      rw [Int.toNat_natCast] at c4 ⊢
      have C4 := Aside0.mk c4
      clear c3 c4 h
      rcases Nat.lt_trichotomy n 1 with hn | hn | hn
      · obtain rfl : n = 0 := by omega
        go_enter Tryz.func52, Tryz.ntmps52
        go_wp2_with fail
        exact bodyPost_ret (v := .slice none 0 0) (by simp [results, Tryz.results52, go_sem]) rfl ⟨_, rfl, Kd.R_nil _ _ _ _ _, Below.refl _ _⟩
      · subst hn
        have hmk := fun w => (show (Instr.makeSlice 63 (.int .i64 1) (.int .i64 1)).run Tryz.prog w = .ok (.slice (some ⟨w.heap.size, 0, none⟩) 1 1) (w.alloc (.cells (Array.replicate 1 (.int .u64 0)) 81)) from makeW_at 1 1 w (Nat.le_refl _) (by omega))
        have HR := Aside0.mk (made_row 1 1 w (Nat.le_refl _) (by omega))
        go_enter Tryz.func52, Tryz.ntmps52
        go_wp2_with fail
        exact bodyPost_ret (v := .slice (some ⟨w.heap.size, 0, none⟩) 1 1) (by simp [results, Tryz.results52, go_sem]) rfl ⟨_, rfl, HR.out, below_alloc (Below.refl _ _) _⟩
      · have hmk := fun w => makeW_at n (n + 4) w (by omega) (by have := C4.out; omega)
        have HR := Aside0.mk (made_row n (n + 4) w (by omega) (by have := C4.out; omega))
        have hw : wrap64 ((n : Int) + 4) = ((n + 4 : Nat) : Int) := by have := C4.out; unfold wrap64; omega
        rw [← hw] at hmk
        have hn0 : ¬ n = 0 := by omega
        have hn1 : ((n : Int) == 1) = false := by simp; omega
        have HW := Aside0.mk hw
        clear hw
        go_enter Tryz.func52, Tryz.ntmps52
        go_wp2_with fail
        exact bodyPost_ret (v := .slice (some ⟨w.heap.size, 0, none⟩) n (n + 4)) (by simp [results, Tryz.results52, go_sem]) rfl ⟨_, rfl, HR.out, below_alloc (Below.refl _ _) _⟩
    · rw [if_neg c4] at h
      exact absurd h (by simp)
  · rw [if_neg c3] at h
    exact absurd h (by simp)
end Go.Proofs.YtghabdpbacgicaaGreatDoor.S
