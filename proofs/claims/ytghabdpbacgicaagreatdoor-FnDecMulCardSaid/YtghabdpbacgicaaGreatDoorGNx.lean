/-
  CONTRACTS: the product of two numbers without sign (nat.mul), of a receiver without memory.
-/
import Derived.Test.YtghabdpbacgicaaGreatDoorGNu
namespace Go.Proofs.YtghabdpbacgicaaGreatDoor.G
open Go.RowKit Go.Proofs.YtghabdpbacgicaaGreatDoorW.PrintWords Go.Proofs.YtghabdpbacgicaaGreatDoorW.PrintLast Go.Proofs.YtghabdpbacgicaaGreatDoorW.PrintMore Go.Proofs.YtghabdpbacgicaaGreatDoor.S
set_option linter.unusedVariables false
set_option linter.unusedSimpArgs false

theorem lim_pos_val {b : Nat} (h : (L64.lim b).length = 1) : 0 < b ∧ b < 18446744073709551616 ∧ L64.lim b = [(b : Int)] := by
  have hb : b ≠ 0 := fun h0 => by subst h0; rw [L64.lim_zero] at h; cases h
  have hl : b < 18446744073709551616 ^ 1 := L64.lt_of_len (by omega)
  rw [Nat.pow_one] at hl
  refine ⟨by omega, hl, ?_⟩
  rw [L64.lim_pos hb, Nat.mod_eq_of_lt hl, Nat.div_eq_of_lt hl, L64.lim_zero]
theorem nat_nil (w : World) (bs : Nat) : NatAt w bs (.slice none 0 0) 0 := by
  unfold NatAt
  rw [L64.lim_zero]
  exact ⟨none, 0, rfl, Kd.V_nil _ _ _ _ _⟩
theorem natMul_zero (A1 A2 : Option Addr) (c1 c2 : Nat) (x : List Int) (w : World) :
    Calls Tryz.prog 49 #[.slice none 0 0, .pointer none, .slice A1 x.length c1, .slice A2 0 c2] w fun e w' => ∃ v, e = .returned v ∧ NatAt w' w.heap.size v 0 ∧ Below w.heap.size w w' := by
  have HB := Aside0.mk (Below.refl w.heap.size w)
  have hb : decide ((x.length : Int) < 0) = false := decide_eq_false (by omega)
  by_cases hx : x.length = 0
  · have h1 : ((x.length : Int) == 0) = true := beq_iff_eq.2 (by omega)
    go_enter Tryz.func49, Tryz.ntmps49
    go_wp2_with fail
    go_ret
    exact ⟨_, rfl, nat_nil _ _, HB.out⟩
  · have h1 : ((x.length : Int) == 0) = false := beq_eq_false_iff_ne.2 (by omega)
    go_enter Tryz.func49, Tryz.ntmps49
    go_wp2_with fail
    go_ret
    exact ⟨_, rfl, nat_nil _ _, HB.out⟩
theorem natMul_one (A1 A2 : Option Addr) (c1 c2 : Nat) (a b : Nat) (w : World) (hC1 : Kd.C (Kd.int .u64) w A1 (L64.lim a).length (L64.lim a)) (hC2 : Kd.C (Kd.int .u64) w A2 (L64.lim b).length (L64.lim b)) (hb : (L64.lim b).length = 1) (ha : 0 < (L64.lim a).length) (hm : (L64.lim a).length ≤ 900) :
    Calls Tryz.prog 49 #[.slice none 0 0, .pointer none, .slice A1 (L64.lim a).length c1, .slice A2 1 c2] w fun e w' => ∃ v, e = .returned v ∧ NatAt w' w.heap.size v (a * b) ∧ Below w.heap.size w w' := by
  obtain ⟨hb0, hb1, hbl⟩ := lim_pos_val hb
  rw [hb] at hC2
  rw [hbl] at hC2
  have HB := Aside0.mk (Below.refl w.heap.size w)
  have HQ := Aside0.mk (mulAddWW_is A1 c1 (L64.lim a) b w hC1 (L64.ok_lim a) ha hm hb0 hb1)
  rw [L64.val_lim] at HQ
  obtain ⟨ad, rfl, hyi⟩ := Kd.at_int hC2 0 (by omega) (by simp)
  have hyi : w.cell? ad = some (.int .u64 (b : Int)) := hyi
  have h1 : decide (((L64.lim a).length : Int) < 1) = false := decide_eq_false (by omega)
  have h2 : (((L64.lim a).length : Int) == 0) = false := beq_eq_false_iff_ne.2 (by omega)
  clear hC1 hC2 hb ha hm hb0 hb1 hbl
  generalize L64.lim a = x at *
  go_enter Tryz.func49, Tryz.ntmps49
  go_wp2_with fail
  refine (HQ.out).mono ?_
  rintro e w4 ⟨v, rfl, hv, hb⟩
  have HV4 := Aside0.mk hv
  have HB4 := Aside0.mk hb
  clear hv hb
  go_wp2_with fail
  go_ret
  exact ⟨v, rfl, HV4.out, HB4.out⟩
theorem natMul_many (A1 A2 : Option Addr) (c1 c2 : Nat) (a b : Nat) (w : World) (hC1 : Kd.C (Kd.int .u64) w A1 (L64.lim a).length (L64.lim a)) (hC2 : Kd.C (Kd.int .u64) w A2 (L64.lim b).length (L64.lim b)) (hb : 1 < (L64.lim b).length) (hb2 : (L64.lim b).length < 40) (ha : (L64.lim b).length ≤ (L64.lim a).length) (hm : (L64.lim a).length ≤ 900)
    (hv : ∃ o, w.heap[2]? = some o ∧ w.cell? ⟨2, 0, none⟩ = some (.int .i64 40)) :
    Calls Tryz.prog 49 #[.slice none 0 0, .pointer none, .slice A1 (L64.lim a).length c1, .slice A2 (L64.lim b).length c2] w fun e w' => ∃ v, e = .returned v ∧ NatAt w' w.heap.size v (a * b) ∧ Below w.heap.size w w' := by
  obtain ⟨N, hN⟩ : ∃ N : Nat, (L64.lim a).length + (L64.lim b).length = N := ⟨_, rfl⟩
  have hw : wrap64 (((L64.lim a).length : Int) + ((L64.lim b).length : Int)) = (N : Int) := by unfold wrap64; omega
  have h1 : decide (((L64.lim a).length : Int) < ((L64.lim b).length : Int)) = false := decide_eq_false (by omega)
  have h1' : decide ((L64.lim a).length < (L64.lim b).length) = false := decide_eq_false (by omega)
  have h2 : (((L64.lim a).length : Int) == 0) = false := beq_eq_false_iff_ne.2 (by omega)
  have h3 : (((L64.lim b).length : Int) == 0) = false := beq_eq_false_iff_ne.2 (by omega)
  have h4 : (((L64.lim b).length : Int) == 1) = false := beq_eq_false_iff_ne.2 (by omega)
  have h5 : decide (((L64.lim b).length : Int) < 40) = true := decide_eq_true (by omega)
  have h5' : decide ((L64.lim b).length < 40) = true := decide_eq_true (by omega)
  have HB := Aside0.mk (Below.refl w.heap.size w)
  have HMk := Aside0.mk (fun w0 => make_is N (by omega) (by omega) w0)
  have HMu := Aside0.mk (fun g cz c w0 hR hs hg hL hcz hm => basicMul_is w g cz c N (L64.lim a) (L64.lim b) A1 A2 c1 c2 w0 hR hs hg hN hL hcz hm (by omega) hC1 (L64.ok_lim a) hC2 (L64.ok_lim b))
  have HVa := Aside0.mk (fun c hc => Lm.bmul_all (L64.ok_lim a) (L64.ok_lim b) c hc)
  have HLn := Aside0.mk (fun c => (bmul_len (L64.lim a) (L64.lim b) (List.replicate c 0) (L64.lim b).length).trans List.length_replicate)
  rw [hN, L64.val_lim, L64.val_lim] at HVa
  have HVw := Aside0.mk (fun w1 (hb : Below w.heap.size w w1) => show w1.cell? ⟨2, 0, none⟩ = some (.int .i64 40) from hv.elim fun o ho => (hb.cell (p := ⟨2, 0, none⟩) (blk_lt ho.1)).trans ho.2)
  clear hC1 hC2 hb hb2 ha hm hN hv
  generalize L64.lim a = x at *
  generalize L64.lim b = y at *
  go_enter Tryz.func49, Tryz.ntmps49
  go_wp2_with fail
  refine (alias_nil _ _ _ _).mono ?_
  rintro e w1 ⟨rfl, hb⟩
  have HB1 := Aside0.mk (below_step HB.out hb)
  clear hb
  go_wp2_with fail
  refine (alias_nil _ _ _ _).mono ?_
  rintro e w2 ⟨rfl, hb⟩
  have HB2 := Aside0.mk (below_step HB1.out hb)
  clear hb
  go_wp2_with fail
  refine (HMk.out _).mono ?_
  rintro e w3 ⟨g, c, rfl, hg, hMc, hc2, hR, hb⟩
  have HG := Aside0.mk (And.intro (Nat.le_trans HB2.out.size hg) (And.intro hMc hc2))
  have HR3 := Aside0.mk hR
  have HB3 := Aside0.mk (below_step HB2.out hb)
  clear hg hMc hc2 hR hb
  have hv := HVw.out _ HB3.out
  go_wp2_with fail
  refine (HMu.out g c c w3 HR3.out HB3.out HG.out.1 HG.out.2.1 HG.out.2.1 (by have := HG.out.2.2; omega)).mono ?_
  rintro e w4 ⟨rfl, hR, hb⟩
  have HR4 := Aside0.mk hR
  have HB4 := Aside0.mk hb
  clear hR hb hv
  go_wp2_with fail
  obtain ⟨hok, hval⟩ := HVa.out c HG.out.2.1
  refine (norm_row g c N w.heap.size _ _ _ HR4.out (HLn.out c) HG.out.2.1 (by have := HG.out.2.2; omega) hok hval HG.out.1 HB4.out.size).mono ?_
  rintro e w5 ⟨v, rfl, hv, hb⟩
  have HV5 := Aside0.mk hv
  have HB5 := Aside0.mk (below_step HB4.out hb)
  clear hv hb hok hval
  go_wp2_with fail
  go_ret
  exact ⟨v, rfl, HV5.out, HB5.out⟩
theorem natMul_ge (A1 A2 : Option Addr) (c1 c2 : Nat) (a b : Nat) (w : World) (hC1 : Kd.C (Kd.int .u64) w A1 (L64.lim a).length (L64.lim a)) (hC2 : Kd.C (Kd.int .u64) w A2 (L64.lim b).length (L64.lim b)) (ha : (L64.lim b).length ≤ (L64.lim a).length) (hm : (L64.lim a).length < 40)
    (hv : ∃ o, w.heap[2]? = some o ∧ w.cell? ⟨2, 0, none⟩ = some (.int .i64 40)) :
    Calls Tryz.prog 49 #[.slice none 0 0, .pointer none, .slice A1 (L64.lim a).length c1, .slice A2 (L64.lim b).length c2] w fun e w' => ∃ v, e = .returned v ∧ NatAt w' w.heap.size v (a * b) ∧ Below w.heap.size w w' := by
  rcases Nat.lt_trichotomy (L64.lim b).length 1 with h | h | h
  · have hb : b = 0 := L64.lim_eq_nil.1 (List.length_eq_zero_iff.1 (by omega))
    subst hb
    have := natMul_zero A1 A2 c1 c2 (L64.lim a) w
    rw [L64.lim_zero]
    exact this
  · rw [h]
    exact natMul_one A1 A2 c1 c2 a b w hC1 hC2 h (by omega) (by omega)
  · exact natMul_many A1 A2 c1 c2 a b w hC1 hC2 h (by omega) ha (by omega) hv
theorem natMul_is (A1 A2 : Option Addr) (c1 c2 : Nat) (a b : Nat) (w : World) (hC1 : Kd.C (Kd.int .u64) w A1 (L64.lim a).length (L64.lim a)) (hC2 : Kd.C (Kd.int .u64) w A2 (L64.lim b).length (L64.lim b)) (ha : (L64.lim a).length < 40) (hb : (L64.lim b).length < 40)
    (hv : ∃ o, w.heap[2]? = some o ∧ w.cell? ⟨2, 0, none⟩ = some (.int .i64 40)) :
    Calls Tryz.prog 49 #[.slice none 0 0, .pointer none, .slice A1 (L64.lim a).length c1, .slice A2 (L64.lim b).length c2] w fun e w' => ∃ v, e = .returned v ∧ NatAt w' w.heap.size v (a * b) ∧ Below w.heap.size w w' := by
  rcases Nat.lt_or_ge (L64.lim a).length (L64.lim b).length with h | h
  · have HQ := Aside0.mk (natMul_ge A2 A1 c2 c1 b a w hC2 hC1 (by omega) hb hv)
    have h1 : decide (((L64.lim a).length : Int) < ((L64.lim b).length : Int)) = true := decide_eq_true (by omega)
    have h1' : decide ((L64.lim a).length < (L64.lim b).length) = true := decide_eq_true h
    rw [Nat.mul_comm b a] at HQ
    clear hC1 hC2 ha hb hv h
    generalize L64.lim a = x at *
    generalize L64.lim b = y at *
    go_enter Tryz.func49, Tryz.ntmps49
    go_wp2_with fail
    refine (HQ.out).mono ?_
    rintro e w4 ⟨v, rfl, hv, hb⟩
    have HV4 := Aside0.mk hv
    have HB4 := Aside0.mk hb
    clear hv hb
    go_wp2_with fail
    go_ret
    exact ⟨v, rfl, HV4.out, HB4.out⟩
  · exact natMul_ge A1 A2 c1 c2 a b w hC1 hC2 h ha hv
end Go.Proofs.YtghabdpbacgicaaGreatDoor.G
