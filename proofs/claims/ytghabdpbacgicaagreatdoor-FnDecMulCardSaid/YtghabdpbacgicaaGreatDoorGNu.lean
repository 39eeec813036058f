/-
  CONTRACTS: the product of two numbers without sign (nat.mul).
-/
import Derived.Test.YtghabdpbacgicaaGreatDoorLmNm
import Derived.Test.YtghabdpbacgicaaGreatDoorLmWh
import Derived.Test.YtghabdpbacgicaaGreatDoorGMk
namespace Go.Proofs.YtghabdpbacgicaaGreatDoor.G
open Go.RowKit Go.Proofs.YtghabdpbacgicaaGreatDoorW.PrintWords Go.Proofs.YtghabdpbacgicaaGreatDoorW.PrintLast Go.Proofs.YtghabdpbacgicaaGreatDoorW.PrintMore Go.Proofs.YtghabdpbacgicaaGreatDoor.S
set_option linter.unusedVariables false
set_option linter.unusedSimpArgs false

theorem u64s_zeros (c : Nat) : (u64s (List.replicate c 0)).toArray = Array.replicate c (Value.int .u64 0) := by
  show (List.map _ _).toArray = _
  rw [List.map_replicate, List.toArray_replicate]
set_option maxRecDepth 100000 in
theorem make_is (n : Nat) (h0 : 0 < n) (hn : n ≤ 1000) (w : World) :
    Calls Tryz.prog 52 #[.slice none 0 0, .int .i64 (n : Int)] w fun e w' => ∃ g c, e = .returned (.slice (some ⟨g, 0, none⟩) n c) ∧ w.heap.size ≤ g ∧ n ≤ c ∧ c ≤ 2000 ∧ RowAt w' g (List.replicate c 0) ∧ Below w.heap.size w w' := by
  have hrow : ∀ c, RowAt (w.alloc (.cells (Array.replicate c (.int .u64 0)) 81)) w.heap.size (List.replicate c 0) := fun c => by
    unfold RowAt
    rw [u64s_zeros]
    exact blk_new w _
  have HN := Aside0.mk hn
  by_cases hn1 : n = 1
  · subst hn1
    have hmk := fun w => (show (Instr.makeSlice 63 (.int .i64 1) (.int .i64 1)).run Tryz.prog w = .ok (.slice (some ⟨w.heap.size, 0, none⟩) 1 1) (w.alloc (.cells (Array.replicate 1 (.int .u64 0)) 81)) from makeW_at 1 1 w (Nat.le_refl _) (by omega))
    have HR := Aside0.mk (hrow 1)
    clear hrow h0 hn
    go_enter Tryz.func52, Tryz.ntmps52
    go_wp2_with fail
    exact bodyPost_ret (v := .slice (some ⟨w.heap.size, 0, none⟩) 1 1) (by simp [results, Tryz.results52, go_sem]) rfl ⟨_, _, rfl, Nat.le_refl _, Nat.le_refl _, by omega, HR.out, below_alloc (Below.refl _ _) _⟩
  · have hmk := fun w => makeW_at n (n + 4) w (by omega) (by omega)
    have HR := Aside0.mk (hrow (n + 4))
    have hw : wrap64 ((n : Int) + 4) = ((n + 4 : Nat) : Int) := by unfold wrap64; omega
    rw [← hw] at hmk
    have hn0 : ¬ n = 0 := by omega
    have hn1' : ((n : Int) == 1) = false := by simp; omega
    have HW := Aside0.mk hw
    clear hw hrow h0 hn
    go_enter Tryz.func52, Tryz.ntmps52
    go_wp2_with fail
    exact bodyPost_ret (v := .slice (some ⟨w.heap.size, 0, none⟩) n (n + 4)) (by simp [results, Tryz.results52, go_sem]) rfl ⟨_, _, rfl, Nat.le_refl _, by omega, by have := HN.out; omega, HR.out, below_alloc (Below.refl _ _) _⟩
/-- A block's beginning as a number's row. -/
theorem row_V {w : World} {g n : Nat} {L : List Int} (base : Nat) (ok : Nat → Prop) (h : RowAt w g L) (hn : n ≤ L.length) (hm : L.length ≤ 1000000) (hok : ok g) : Kd.V (Kd.int .u64) 81 w base ok (.slice (some ⟨g, 0, none⟩) (L.take n).length L.length) (L.take n) := by
  refine Kd.R_V (base := g) (R_row .u64 81 g g L.length _ (L.take n) w ok h (Nat.le_refl _) (by rw [List.length_take]; omega) (by unfold maxLen; omega) (by simp) ?_ hok)
  show (List.map _ L).take _ = _
  rw [List.length_take, Nat.min_eq_left hn, List.map_take]
/-- A number without sign as a result: a new row of its words. -/
def NatAt (w : World) (bs : Nat) (v : Value) (n : Nat) : Prop := ∃ A c, v = .slice A (L64.lim n).length c ∧ Kd.V (Kd.int .u64) 81 w 0 (fun k => bs ≤ k) (.slice A (L64.lim n).length c) (L64.lim n)
theorem NatAt.of {w : World} {bs base : Nat} {ok : Nat → Prop} {v : Value} {n : Nat} (h : Kd.V (Kd.int .u64) 81 w base ok v (L64.lim n)) (hok : ∀ k, ok k → bs ≤ k) : NatAt w bs v n := by
  obtain ⟨A, c, rfl⟩ := Kd.V_slice h
  exact ⟨A, c, rfl, Kd.V_mono (Kd.V_lower h (Nat.zero_le _)) hok⟩
theorem norm_row (g c M bs n : Nat) (L : List Int) (w : World) (hR : RowAt w g L) (hc : L.length = c) (hM : M ≤ c) (hm : c ≤ 1000000) (hok : L64.Ok (L.take M)) (hv : L64.val (L.take M) = n) (hg : bs ≤ g) (hbs : bs ≤ w.heap.size) :
    Calls Tryz.prog 46 #[.slice (some ⟨g, 0, none⟩) M c] w fun e w' => ∃ v, e = .returned v ∧ NatAt w' bs v n ∧ Below w.heap.size w w' := by
  have hV := row_V (n := M) w.heap.size (fun k => bs ≤ k) hR (by omega) (by omega) hg
  have hl : (L.take M).length = M := by rw [List.length_take]; omega
  have hnm := Lm.norm64 (L.take M) hok (by omega)
  rw [hv] at hnm
  obtain ⟨k, hk⟩ := hnm.ex
  have hcl := bigall_nat_norm.calls k (fun k => bs ≤ k) _ _ (L.take M) (L64.lim n) w hV hk
  rw [hl, hc] at hcl
  refine hcl.mono ?_
  rintro e w' ⟨v, rfl, hv', hb⟩
  exact ⟨v, rfl, NatAt.of hv' (fun k hk => hk.elim id (fun h => Nat.le_trans hbs h)), hb⟩
set_option maxRecDepth 100000 in
theorem mulAddWW_is (A : Option Addr) (cx : Nat) (x : List Int) (y : Nat) (w : World) (hC : Kd.C (Kd.int .u64) w A x.length x) (hx : L64.Ok x) (h0 : 0 < x.length) (hn : x.length ≤ 900) (hy0 : 0 < y) (hy : y < 18446744073709551616) :
    Calls Tryz.prog 60 #[.slice none 0 0, .slice A x.length cx, .int .u64 (y : Int), .int .u64 0] w fun e w' => ∃ v, e = .returned v ∧ NatAt w' w.heap.size v (L64.val x * y) ∧ Below w.heap.size w w' := by
  obtain ⟨M, hM⟩ : ∃ M : Nat, x.length + 1 = M := ⟨_, rfl⟩
  have hw : wrap64 ((x.length : Int) + 1) = (M : Int) := by unfold wrap64; omega
  have hb0 : ((x.length : Int) == 0) = false := beq_eq_false_iff_ne.2 (by omega)
  have hb1 : ((y : Int) == 0) = false := beq_eq_false_iff_ne.2 (by omega)
  have HB := Aside0.mk (Below.refl w.heap.size w)
  have HX := Aside0.mk hx
  have HC := Aside0.mk hC
  have HY := Aside0.mk hy
  have HN := Aside0.mk (And.intro hM (And.intro h0 hn))
  have HMk := Aside0.mk (fun w0 => make_is M (by omega) (by omega) w0)
  have HV := Aside0.mk (fun c (hc : M ≤ c) => Lm.mulWW_val x y c (by omega) hx hy)
  clear hC hx h0 hn hy0 hy hM
  go_enter Tryz.func60, Tryz.ntmps60
  go_wp2_with fail
  refine (HMk.out _).mono ?_
  rintro e w1 ⟨g, c, rfl, hg, hMc, hc2, hR, hb⟩
  have HG := Aside0.mk (And.intro hg (And.intro hMc hc2))
  have HR1 := Aside0.mk hR
  have HB1 := Aside0.mk (below_step HB.out hb)
  clear hg hMc hc2 hR hb HMk HB
  have hx1 : (x.length : Int) ≤ (c : Int) := by have := HN.out.1; have := HG.out.2.1; omega
  have HQ := Aside0.mk (fun w0 (hR : RowAt w0 g (List.replicate c 0)) (hs : Below w.heap.size w w0) => mulAddVWW_is w g c (List.replicate c 0) x A cx y 0 w0 hR hs HG.out.1 (by rw [List.length_replicate]; omega) (by rw [List.length_replicate]; have := HG.out.2.2; omega) HC.out HX.out HY.out (by omega))
  obtain ⟨hok, hval⟩ := HV.out c HG.out.2.1
  have hlen := mulV_len x y 0 (List.replicate c 0) x.length
  obtain ⟨U, hU⟩ : ∃ U, mulV x y 0 (List.replicate c 0) x.length = U := ⟨_, rfl⟩
  rw [hU] at HQ hok hval hlen
  obtain ⟨L2, c2⟩ := U
  rw [HN.out.1] at hok hval
  have HOk := Aside0.mk hok
  have HVal := Aside0.mk hval
  have HLen := Aside0.mk (show L2.length = c from hlen.trans List.length_replicate)
  have hm1 : (x.length : Int) < (M : Int) := by have := HN.out.1; omega
  have hm2 : (0 : Int) ≤ (x.length : Int) := by omega
  have hm3 : decide (x.length < M) = true := decide_eq_true (by omega)
  clear hok hval hlen hU HV
  go_wp2_with fail
  refine (HQ.out _ HR1.out HB1.out).mono ?_
  rintro e w2 ⟨rfl, hR, hb⟩
  have HR2 := Aside0.mk hR
  have HB2 := Aside0.mk hb
  clear hR hb HQ HR1 HB1
  have hr := HR2.out.cell x.length (by have := HLen.out; have := HN.out.1; have := HG.out.2.1; show x.length < L2.length; omega)
  have hz := blk_frozen HR2.out x.length
  go_wp2_with fail
  have hR3 := HR2.out.set x.length (c2 : Int)
  have hB3 := below_set (j := x.length) (v := .int .u64 (c2 : Int)) HB2.out HG.out.1
  refine (norm_row g c M w.heap.size _ _ _ hR3 (by rw [List.length_set]; exact HLen.out) HG.out.2.1 (by have := HG.out.2.2; omega) HOk.out HVal.out HG.out.1 hB3.size).mono ?_
  rintro e w4 ⟨v, rfl, hv, hb⟩
  have HV4 := Aside0.mk hv
  have HB4 := Aside0.mk (below_step hB3 hb)
  clear hv hb hR3 hB3 HR2 HB2 hr hz
  go_wp2_with fail
  go_ret
  exact ⟨v, rfl, HV4.out, HB4.out⟩
set_option maxRecDepth 100000 in
theorem alias_nil (A : Option Addr) (n c : Nat) (w : World) : Calls Tryz.prog 54 #[.slice none 0 0, .slice A n c] w fun e w' => e = .returned (.bool false) ∧ Below w.heap.size w w' := by
  have HB := Aside0.mk (Below.refl w.heap.size w)
  go_enter Tryz.func54, Tryz.ntmps54
  go_wp2_with fail
  refine start_ (n := 28) (S := fun _ => True) (ds := []) #[false, false, false, false, false, false, false, false, false, false, false, false, false, false, false, false, false, false, false, false, false, false, false, false, false, false, false, false] (by kernel_rfl) rfl rfl trivial (fun hHeld => ?_)
  refine pure_ (i := 0) (N := some 5) (v := ?_) (a' := ?_) #[true, false, false, false, false, false, false, false, false, false, false, false, false, false, false, false, false, false, false, false, false, false, false, false, false, false, false, false] rfl rfl (by kernel_rfl) (fun _ _ _ h => h) (Or.inl ⟨by rfl, ?_⟩) ?_ ?_
  rotate_left
  · (intro w'; go_simp; (try with_reducible rfl))
  rotate_left
  · simp only [Act.put, List.setIfInBounds_toArray, List.set_cons_zero, List.set_cons_succ, i64_w, i32_w]; rfl
  refine pure_ (i := 1) (N := some 6) (v := ?_) (a' := ?_) #[true, true, false, false, false, false, false, false, false, false, false, false, false, false, false, false, false, false, false, false, false, false, false, false, false, false, false, false] rfl rfl (by kernel_rfl) (fun _ _ _ h => h) (Or.inl ⟨by rfl, ?_⟩) ?_ ?_
  rotate_left
  · (intro w'; go_simp; (try with_reducible rfl))
  rotate_left
  · simp only [Act.put, List.setIfInBounds_toArray, List.set_cons_zero, List.set_cons_succ, i64_w, i32_w]; rfl
  refine pure_ (i := 2) (N := some 7) (v := ?_) (a' := ?_) #[true, true, true, false, false, false, false, false, false, false, false, false, false, false, false, false, false, false, false, false, false, false, false, false, false, false, false, false] rfl rfl (by kernel_rfl) (fun _ _ _ h => h) (Or.inl ⟨by rfl, ?_⟩) ?_ ?_
  rotate_left
  · (intro w'; go_simp; (try with_reducible rfl))
  rotate_left
  · simp only [Act.put, List.setIfInBounds_toArray, List.set_cons_zero, List.set_cons_succ, i64_w, i32_w]; rfl
  refine pure_ (i := 3) (N := some 8) (v := ?_) (a' := ?_) #[true, true, true, true, false, false, false, false, false, false, false, false, false, false, false, false, false, false, false, false, false, false, false, false, false, false, false, false] rfl rfl (by kernel_rfl) (fun _ _ _ h => h) (Or.inl ⟨by rfl, ?_⟩) ?_ ?_
  rotate_left
  · (intro w'; go_simp; (try with_reducible rfl))
  rotate_left
  · simp only [Act.put, List.setIfInBounds_toArray, List.set_cons_zero, List.set_cons_succ, i64_w, i32_w]; rfl
  refine pure_ (i := 4) (N := some 9) (v := undef) (a' := ?_) #[true, true, true, true, true, false, false, false, false, false, false, false, false, false, false, false, false, false, false, false, false, false, false, false, false, false, false, false] rfl rfl (by kernel_rfl) (fun _ _ _ h => h) (Or.inr ⟨by rfl, rfl⟩) ?_ ?_
  rotate_left
  · simp only [Act.put, List.setIfInBounds_toArray, List.set_cons_zero, List.set_cons_succ, i64_w, i32_w]; rfl
  refine pure_ (i := 5) (N := some 10) (v := undef) (a' := ?_) #[true, true, true, true, true, true, false, false, false, false, false, false, false, false, false, false, false, false, false, false, false, false, false, false, false, false, false, false] rfl rfl (by kernel_rfl) (fun _ _ _ h => h) (Or.inr ⟨by rfl, rfl⟩) ?_ ?_
  rotate_left
  · simp only [Act.put, List.setIfInBounds_toArray, List.set_cons_zero, List.set_cons_succ, i64_w, i32_w]; rfl
  refine pure_ (i := 6) (N := some 11) (v := undef) (a' := ?_) #[true, true, true, true, true, true, true, false, false, false, false, false, false, false, false, false, false, false, false, false, false, false, false, false, false, false, false, false] rfl rfl (by kernel_rfl) (fun _ _ _ h => h) (Or.inr ⟨by rfl, rfl⟩) ?_ ?_
  rotate_left
  · simp only [Act.put, List.setIfInBounds_toArray, List.set_cons_zero, List.set_cons_succ, i64_w, i32_w]; rfl
  refine pure_ (i := 7) (N := some 12) (v := ?_) (a' := ?_) #[true, true, true, true, true, true, true, true, false, false, false, false, false, false, false, false, false, false, false, false, false, false, false, false, false, false, false, false] rfl rfl (by kernel_rfl) (fun _ _ _ h => h) (Or.inl ⟨by rfl, ?_⟩) ?_ ?_
  rotate_left
  · (intro w'; go_simp; (try with_reducible rfl))
  rotate_left
  · simp only [Act.put, List.setIfInBounds_toArray, List.set_cons_zero, List.set_cons_succ, i64_w, i32_w]; rfl
  refine pure_ (i := 8) (N := some 13) (v := ?_) (a' := ?_) #[true, true, true, true, true, true, true, true, true, false, false, false, false, false, false, false, false, false, false, false, false, false, false, false, false, false, false, false] rfl rfl (by kernel_rfl) (fun _ _ _ h => h) (Or.inl ⟨by rfl, ?_⟩) ?_ ?_
  rotate_left
  · (intro w'; go_simp; (try with_reducible rfl))
  rotate_left
  · simp only [Act.put, List.setIfInBounds_toArray, List.set_cons_zero, List.set_cons_succ, i64_w, i32_w]; rfl
  refine pure_ (i := 9) (N := some 14) (v := undef) (a' := ?_) #[true, true, true, true, true, true, true, true, true, true, false, false, false, false, false, false, false, false, false, false, false, false, false, false, false, false, false, false] rfl rfl (by kernel_rfl) (fun _ _ _ h => h) (Or.inr ⟨by rfl, rfl⟩) ?_ ?_
  rotate_left
  · simp only [Act.put, List.setIfInBounds_toArray, List.set_cons_zero, List.set_cons_succ, i64_w, i32_w]; rfl
  refine pure_ (i := 10) (N := some 15) (v := undef) (a' := ?_) #[true, true, true, true, true, true, true, true, true, true, true, false, false, false, false, false, false, false, false, false, false, false, false, false, false, false, false, false] rfl rfl (by kernel_rfl) (fun _ _ _ h => h) (Or.inr ⟨by rfl, rfl⟩) ?_ ?_
  rotate_left
  · simp only [Act.put, List.setIfInBounds_toArray, List.set_cons_zero, List.set_cons_succ, i64_w, i32_w]; rfl
  refine pure_ (i := 11) (N := some 16) (v := undef) (a' := ?_) #[true, true, true, true, true, true, true, true, true, true, true, true, false, false, false, false, false, false, false, false, false, false, false, false, false, false, false, false] rfl rfl (by kernel_rfl) (fun _ _ _ h => h) (Or.inr ⟨by rfl, rfl⟩) ?_ ?_
  rotate_left
  · simp only [Act.put, List.setIfInBounds_toArray, List.set_cons_zero, List.set_cons_succ, i64_w, i32_w]; rfl
  refine pure_ (i := 12) (N := some 17) (v := undef) (a' := ?_) #[true, true, true, true, true, true, true, true, true, true, true, true, true, false, false, false, false, false, false, false, false, false, false, false, false, false, false, false] rfl rfl (by kernel_rfl) (fun _ _ _ h => h) (Or.inr ⟨by rfl, rfl⟩) ?_ ?_
  rotate_left
  · simp only [Act.put, List.setIfInBounds_toArray, List.set_cons_zero, List.set_cons_succ, i64_w, i32_w]; rfl
  refine pure_ (i := 13) (N := some 18) (v := undef) (a' := ?_) #[true, true, true, true, true, true, true, true, true, true, true, true, true, true, false, false, false, false, false, false, false, false, false, false, false, false, false, false] rfl rfl (by kernel_rfl) (fun _ _ _ h => h) (Or.inr ⟨by rfl, rfl⟩) ?_ ?_
  rotate_left
  · simp only [Act.put, List.setIfInBounds_toArray, List.set_cons_zero, List.set_cons_succ, i64_w, i32_w]; rfl
  refine pure_ (i := 14) (N := some 19) (v := undef) (a' := ?_) #[true, true, true, true, true, true, true, true, true, true, true, true, true, true, true, false, false, false, false, false, false, false, false, false, false, false, false, false] rfl rfl (by kernel_rfl) (fun _ _ _ h => h) (Or.inr ⟨by rfl, rfl⟩) ?_ ?_
  rotate_left
  · simp only [Act.put, List.setIfInBounds_toArray, List.set_cons_zero, List.set_cons_succ, i64_w, i32_w]; rfl
  refine pure_ (i := 15) (N := some 20) (v := undef) (a' := ?_) #[true, true, true, true, true, true, true, true, true, true, true, true, true, true, true, true, false, false, false, false, false, false, false, false, false, false, false, false] rfl rfl (by kernel_rfl) (fun _ _ _ h => h) (Or.inr ⟨by rfl, rfl⟩) ?_ ?_
  rotate_left
  · simp only [Act.put, List.setIfInBounds_toArray, List.set_cons_zero, List.set_cons_succ, i64_w, i32_w]; rfl
  refine pure_ (i := 16) (N := some 21) (v := undef) (a' := ?_) #[true, true, true, true, true, true, true, true, true, true, true, true, true, true, true, true, true, false, false, false, false, false, false, false, false, false, false, false] rfl rfl (by kernel_rfl) (fun _ _ _ h => h) (Or.inr ⟨by rfl, rfl⟩) ?_ ?_
  rotate_left
  · simp only [Act.put, List.setIfInBounds_toArray, List.set_cons_zero, List.set_cons_succ, i64_w, i32_w]; rfl
  refine pure_ (i := 17) (N := some 22) (v := undef) (a' := ?_) #[true, true, true, true, true, true, true, true, true, true, true, true, true, true, true, true, true, true, false, false, false, false, false, false, false, false, false, false] rfl rfl (by kernel_rfl) (fun _ _ _ h => h) (Or.inr ⟨by rfl, rfl⟩) ?_ ?_
  rotate_left
  · simp only [Act.put, List.setIfInBounds_toArray, List.set_cons_zero, List.set_cons_succ, i64_w, i32_w]; rfl
  refine pure_ (i := 18) (N := some 23) (v := undef) (a' := ?_) #[true, true, true, true, true, true, true, true, true, true, true, true, true, true, true, true, true, true, true, false, false, false, false, false, false, false, false, false] rfl rfl (by kernel_rfl) (fun _ _ _ h => h) (Or.inr ⟨by rfl, rfl⟩) ?_ ?_
  rotate_left
  · simp only [Act.put, List.setIfInBounds_toArray, List.set_cons_zero, List.set_cons_succ, i64_w, i32_w]; rfl
  refine pure_ (i := 19) (N := some 24) (v := undef) (a' := ?_) #[true, true, true, true, true, true, true, true, true, true, true, true, true, true, true, true, true, true, true, true, false, false, false, false, false, false, false, false] rfl rfl (by kernel_rfl) (fun _ _ _ h => h) (Or.inr ⟨by rfl, rfl⟩) ?_ ?_
  rotate_left
  · simp only [Act.put, List.setIfInBounds_toArray, List.set_cons_zero, List.set_cons_succ, i64_w, i32_w]; rfl
  refine pure_ (i := 20) (N := some 25) (v := undef) (a' := ?_) #[true, true, true, true, true, true, true, true, true, true, true, true, true, true, true, true, true, true, true, true, true, false, false, false, false, false, false, false] rfl rfl (by kernel_rfl) (fun _ _ _ h => h) (Or.inr ⟨by rfl, rfl⟩) ?_ ?_
  rotate_left
  · simp only [Act.put, List.setIfInBounds_toArray, List.set_cons_zero, List.set_cons_succ, i64_w, i32_w]; rfl
  refine pure_ (i := 21) (N := some 26) (v := undef) (a' := ?_) #[true, true, true, true, true, true, true, true, true, true, true, true, true, true, true, true, true, true, true, true, true, true, false, false, false, false, false, false] rfl rfl (by kernel_rfl) (fun _ _ _ h => h) (Or.inr ⟨by rfl, rfl⟩) ?_ ?_
  rotate_left
  · simp only [Act.put, List.setIfInBounds_toArray, List.set_cons_zero, List.set_cons_succ, i64_w, i32_w]; rfl
  refine pure_ (i := 22) (N := some 27) (v := undef) (a' := ?_) #[true, true, true, true, true, true, true, true, true, true, true, true, true, true, true, true, true, true, true, true, true, true, true, false, false, false, false, false] rfl rfl (by kernel_rfl) (fun _ _ _ h => h) (Or.inr ⟨by rfl, rfl⟩) ?_ ?_
  rotate_left
  · simp only [Act.put, List.setIfInBounds_toArray, List.set_cons_zero, List.set_cons_succ, i64_w, i32_w]; rfl
  refine pure_ (i := 23) (N := some 28) (v := undef) (a' := ?_) #[true, true, true, true, true, true, true, true, true, true, true, true, true, true, true, true, true, true, true, true, true, true, true, true, false, false, false, false] rfl rfl (by kernel_rfl) (fun _ _ _ h => h) (Or.inr ⟨by rfl, rfl⟩) ?_ ?_
  rotate_left
  · simp only [Act.put, List.setIfInBounds_toArray, List.set_cons_zero, List.set_cons_succ, i64_w, i32_w]; rfl
  refine pure_ (i := 24) (N := some 29) (v := undef) (a' := ?_) #[true, true, true, true, true, true, true, true, true, true, true, true, true, true, true, true, true, true, true, true, true, true, true, true, true, false, false, false] rfl rfl (by kernel_rfl) (fun _ _ _ h => h) (Or.inr ⟨by rfl, rfl⟩) ?_ ?_
  rotate_left
  · simp only [Act.put, List.setIfInBounds_toArray, List.set_cons_zero, List.set_cons_succ, i64_w, i32_w]; rfl
  refine pure_ (i := 25) (N := some 30) (v := undef) (a' := ?_) #[true, true, true, true, true, true, true, true, true, true, true, true, true, true, true, true, true, true, true, true, true, true, true, true, true, true, false, false] rfl rfl (by kernel_rfl) (fun _ _ _ h => h) (Or.inr ⟨by rfl, rfl⟩) ?_ ?_
  rotate_left
  · simp only [Act.put, List.setIfInBounds_toArray, List.set_cons_zero, List.set_cons_succ, i64_w, i32_w]; rfl
  refine pure_ (i := 26) (N := some 31) (v := ?_) (a' := ?_) #[true, true, true, true, true, true, true, true, true, true, true, true, true, true, true, true, true, true, true, true, true, true, true, true, true, true, true, false] rfl rfl (by kernel_rfl) (fun _ _ _ h => h) (Or.inl ⟨by rfl, ?_⟩) ?_ ?_
  rotate_left
  · (intro w'; go_simp; (try with_reducible rfl))
  rotate_left
  · simp only [Act.put, List.setIfInBounds_toArray, List.set_cons_zero, List.set_cons_succ, i64_w, i32_w]; rfl
  refine pure_ (i := 27) (N := some 4) (v := ?_) (a' := ?_) #[true, true, true, true, true, true, true, true, true, true, true, true, true, true, true, true, true, true, true, true, true, true, true, true, true, true, true, true] rfl rfl (by kernel_rfl) (fun _ _ _ h => h) (Or.inl ⟨by rfl, ?_⟩) ?_ ?_
  rotate_left
  · (intro w'; go_simp; (try with_reducible rfl))
  rotate_left
  · simp only [Act.put, List.setIfInBounds_toArray, List.set_cons_zero, List.set_cons_succ, i64_w, i32_w]; rfl
  refine done_ (by kernel_rfl) ?_
  go_wp2_with fail
  go_ret
  exact ⟨rfl, below_drew HB.out⟩
end Go.Proofs.YtghabdpbacgicaaGreatDoor.G
