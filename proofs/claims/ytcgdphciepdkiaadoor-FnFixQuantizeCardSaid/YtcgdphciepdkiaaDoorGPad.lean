/-
  CONTRACTS of prec and Pad.
-/
import Derived.Test.YtcgdphciepdkiaaDoorGFixed
import Derived.Test.YtcgdphciepdkiaaDoorGRound
import Derived.Outline
import Derived.Deep.RegionHeld3
import Derived.Test.YtcgdphciepdkiaaDoorKeep
namespace Go.Proofs.YtcgdphciepdkiaaDoor.G
open Go.RowKit Go.Proofs.YtcgdphciepdkiaaDoorW.PrintWords Go.Proofs.YtcgdphciepdkiaaDoorW.PrintLast Go.Proofs.YtcgdphciepdkiaaDoorW.PrintMore Go.Proofs.YtcgdphciepdkiaaDoor.S Go.Proofs.YtcgdphciepdkiaaDoor.Lm
attribute [local go_sem] max2_int min2_int max_two min_two max_three min_three max_four min_four
set_option linter.unusedVariables false
set_option linter.unusedSimpArgs false

theorem prec_is (x P : Nat) (w : World) (hx : x < 10 ^ 19) (hP : P ≤ 19) (h0 : x < 10 ^ P) (h1 : ∀ i, i < P → 10 ^ i ≤ x) (ht : Tab w) :
    Calls Tryd.prog 79 #[.int .u64 (x : Int)] w fun e w' => e = .returned (.int .i64 (P : Int)) ∧ Drawn0 w w' := by
  have HT := Aside0.mk ht
  have H0 := Aside0.mk h0
  have H1 := Aside0.mk h1
  have HX := Aside0.mk hx
  clear hx h0 h1 ht
  go_enter Tryd.func79, Tryd.ntmps79
  go_wp2
  go_loopg [3, 4] 20 (fun kq v3 v4 w' => ∃ (l r : Nat), v3 = .int .i64 (l : Int) ∧ v4 = .int .i64 (r : Int) ∧ Aside0 (l ≤ P ∧ P ≤ r ∧ r ≤ 20 ∧ r ≤ l + kq) ∧ Drawn0 w w')
  case atStart => exact ⟨0, 20, rfl, rfl, ⟨by omega, by omega, by omega, by omega⟩, by repeat (first | exact Drawn0.refl _ | apply Drawn0.step)⟩
  case round =>
    obtain ⟨l, r, rfl, rfl, HA, ⟨m1, rfl⟩⟩ := hrel
    have hl20 : l + r ≤ 40 := by have := HA.out; omega
    by_cases hlr : l < r
    · have hm20 : (l + r) / 2 < 20 := by have := HA.out; omega
      have hc := HT.out ((l + r) / 2) hm20
      cases gk with
      | zero => exact absurd HA.out (by omega)
      | succ k1 =>
        by_cases hx : (x : Int) < 10 ^ ((l + r) / 2)
        · have HP := Aside0.mk (show P ≤ (l + r) / 2 by
            rcases Nat.lt_or_ge ((l + r) / 2) P with h | h
            · have h2 := H1.out _ h
              have h3 : ((10 ^ ((l + r) / 2) : Nat) : Int) ≤ (x : Int) := Int.ofNat_le.2 h2
              rw [Int.natCast_pow] at h3
              exact absurd hx (Int.not_lt.2 h3)
            · exact h)
          go_wp2
          go_roundg k1
          case measure => omega
          case rel => exact ⟨l, (l + r) / 2, rfl, by rfl, ⟨by have := HA.out; have := HP.out; omega⟩, by repeat (first | exact Drawn0.refl _ | apply Drawn0.step)⟩
        · have HP := Aside0.mk (show (l + r) / 2 + 1 ≤ P by
            rcases Nat.lt_or_ge ((l + r) / 2) P with h | h
            · exact h
            · have h2 : x < 10 ^ ((l + r) / 2) := Nat.lt_of_lt_of_le H0.out (Nat.pow_le_pow_right (by omega) h)
              have h3 : (x : Int) < ((10 ^ ((l + r) / 2) : Nat) : Int) := Int.ofNat_lt.2 h2
              rw [Int.natCast_pow] at h3
              exact absurd h3 hx)
          go_wp2
          go_roundg k1
          case measure => omega
          case rel => exact ⟨(l + r) / 2 + 1, r, by rfl, rfl, ⟨by have := HA.out; have := HP.out; omega⟩, by repeat (first | exact Drawn0.refl _ | apply Drawn0.step)⟩
    · have e : l = P := by have := HA.out; omega
      subst e
      go_wp2
      go_ret
      exact ⟨rfl, by repeat (first | exact Drawn0.refl _ | apply Drawn0.step)⟩
end Go.Proofs.YtcgdphciepdkiaaDoor.G
namespace Go.Proofs.YtcgdphciepdkiaaDoor.G
open Go.RowKit Go.Proofs.YtcgdphciepdkiaaDoorW.PrintWords Go.Proofs.YtcgdphciepdkiaaDoorW.PrintLast Go.Proofs.YtcgdphciepdkiaaDoorW.PrintMore Go.Proofs.YtcgdphciepdkiaaDoor.S Go.Proofs.YtcgdphciepdkiaaDoor.Lm
attribute [local go_sem] max2_int min2_int max_two min_two max_three min_three max_four min_four
set_option linter.unusedVariables false
set_option linter.unusedSimpArgs false

theorem i64_in {x : Int} (h0 : -100 ≤ x) (h9 : x ≤ 100) : IntKind.i64.wrap x = x := by
  simp [IntKind.wrap, IntKind.bits, IntKind.signed]
  omega
theorem lsh_ok (n t : Nat) (h : n * 10 ^ t < 10 ^ 19) (ht : t ≤ 19) : lshF (n : Int) (t : Int) = some (((n * 10 ^ t : Nat) : Int), true) := by
  unfold lshF
  by_cases h0 : t = 0
  · subst h0; rw [if_pos (by omega), Nat.pow_zero, Nat.mul_one]
  rw [if_neg (by omega)]
  by_cases h1 : (t : Int) = 1 ∧ (n : Int) < 999999999999999999
  · obtain rfl : t = 1 := by omega
    rw [if_pos h1, Nat.pow_one] at *
    rw [wu64 (by omega) (by omega)]; rfl
  rw [if_neg h1, if_neg (by omega), Int.toNat_natCast]
  unfold govalues_fint_mul.f
  have hp : 0 < 10 ^ t := Nat.pow_pos (by omega)
  rw [if_neg (by omega), ← Int.natCast_mul]
  have hd : n * 10 ^ t / 10 ^ t = n := Nat.mul_div_cancel _ hp
  have hle : n ≤ n * 10 ^ t := Nat.le_mul_of_pos_right _ hp
  have ew : IntKind.u64.wrap ((n * 10 ^ t : Nat) : Int) = ((n * 10 ^ t : Nat) : Int) := wu64 (by omega) (by omega)
  rw [ew, Int.tdiv_eq_ediv_of_nonneg (by omega), ← Int.natCast_ediv, hd, wu64 (by omega) (by omega), if_pos rfl, if_neg (by omega)]
theorem lsh_at (n t : Nat) (w : World) (h : n * 10 ^ t < 10 ^ 19) (ht : t ≤ 19) (hT : Tab w) : Calls Tryd.prog 53 #[.int .u64 (n : Int), .int .i64 (t : Int)] w fun e w' => e = .returned (.tuple #[.int .u64 ((n * 10 ^ t : Nat) : Int), .bool true]) ∧ Below w.heap.size w w' :=
  (lsh_calls n t _ true w hT (lsh_ok n t h ht)).mono (fun e w' h => ⟨h.1, h.2.below⟩)
theorem dprec_is (neg : Bool) (s : Int) (x P : Nat) (w : World) (hx : x < 10 ^ 19) (hP : P ≤ 19) (h0 : x < 10 ^ P) (h1 : ∀ i, i < P → 10 ^ i ≤ x) (ht : Tab w) :
    Calls Tryd.prog 78 #[decG neg s x] w fun e w' => e = .returned (.int .i64 (P : Int)) ∧ Below w.heap.size w w' := by
  have HP := Aside0.mk (fun w0 (hb : Below w.heap.size w w0) => prec_is x P w0 hx hP h0 h1 (ht.below hb))
  have HB := Aside0.mk (Below.refl w.heap.size w)
  clear hx hP h0 h1 ht
  go_enter Tryd.func78, Tryd.ntmps78
  go_wp2_with (((with_reducible refine gate_dst (N := 1) rfl ?_); refine box_event ?hg (N := 1) ?hd (cs := #[.bool neg, .int .i8 s, .int .u64 (x : Int)]) (t := 64) ?hr ?_; (case hd => rfl); (case hg => rfl); (case hr => first | (go_simp; done) | (go_simp; rfl)); intro g1 hgq w1 hbx hb; have B1 := Aside0.mk hbx; have gq_g1 := Aside0.mk hgq; clear hbx hgq); have HB1 := Aside0.mk (below_step HB.out hb); have c0 := (blk_cell B1.out 0).trans rfl; have zc0 := blk_frozen B1.out 0; have c1 := (blk_cell B1.out 1).trans rfl; have zc1 := blk_frozen B1.out 1; have c2 := (blk_cell B1.out 2).trans rfl; have zc2 := blk_frozen B1.out 2; clear hb HB)
  refine (HP.out _ HB1.out).mono ?_
  rintro e w2 ⟨rfl, hd⟩
  have HB2 := Aside0.mk (below_step HB1.out hd.below)
  clear hd HB1
  go_wp2_with fail
  go_ret
  exact ⟨rfl, by repeat (first | (with_reducible first | exact HB2.out | apply below_alloc | apply pw_below_drewN | apply below_drew1 | refine below_set ?_ (Nat.le_refl _)) | exact HB2.out)⟩
set_option maxHeartbeats 4000000 in
theorem pad_is (neg : Bool) (s n kk P T : Nat) (w : World) (hs : s ≤ 19) (hkk : kk ≤ 19) (hx : n < 10 ^ 19) (hP : P ≤ 19) (h0 : n < 10 ^ P) (h1 : ∀ i, i < P → 10 ^ i ≤ n) (ht : Tab w) (hT : T = min kk (19 - P + s)) (hTs : s < T) (m : Nat)
    (hr : ∀ w0, Below w.heap.size w w0 → Calls Tryd.prog 53 #[.int .u64 (n : Int), .int .i64 (wrap64 ((T : Int) - (s : Int)))] w0 fun e w' => e = .returned (.tuple #[.int .u64 (m : Int), .bool true]) ∧ Below w0.heap.size w0 w') :
    Calls Tryd.prog 75 #[decG neg s n, .int .i64 kk] w fun e w' => e = .returned (decOf neg (m : Int) T) ∧ Below w.heap.size w w' := by
  have HP := Aside0.mk (fun w0 (hb : Below w.heap.size w w0) => dprec_is neg s n P w0 hx hP h0 h1 (ht.below hb))
  have HS := Aside0.mk (fun w => scale_is neg s n w (Int.natCast_nonneg s) (by omega))
  have HB := Aside0.mk (Below.refl w.heap.size w)
  have HL := Aside0.mk hr
  have HU := Aside0.mk (fun w => newUnsafe_is neg (m : Int) T w (Int.natCast_nonneg T) (by omega))
  clear hx h0 h1 ht hr
  go_enter Tryd.func75, Tryd.ntmps75
  go_wp2_with (first | (((with_reducible refine gate_dst (N := 2) rfl ?_); refine box_event ?hg (N := 2) ?hd (cs := #[.bool neg, .int .i8 (s : Int), .int .u64 (n : Int)]) (t := 64) ?hr ?_; (case hd => rfl); (case hg => rfl); (case hr => first | (go_simp; done) | (go_simp; rfl)); intro g1 hgq w1 hbx hb; have B1 := Aside0.mk hbx; have gq_g1 := Aside0.mk hgq; clear hbx hgq); have HB1 := Aside0.mk (below_step HB.out hb); have c0 := (blk_cell B1.out 0).trans rfl; have zc0 := blk_frozen B1.out 0; have c1 := (blk_cell B1.out 1).trans rfl; have zc1 := blk_frozen B1.out 1; have c2 := (blk_cell B1.out 2).trans rfl; have zc2 := blk_frozen B1.out 2; clear hb HB) | (((with_reducible refine gate_dst (N := 4) rfl ?_); refine box_event ?hg (N := 4) ?hd (cs := #[.bool false, .int .i8 0, .int .u64 0]) (t := 64) ?hr ?_; (case hd => rfl); (case hg => rfl); (case hr => first | (go_simp; done) | (go_simp; rfl)); intro g2 hgq w2 hbx hb; have B2 := Aside0.mk hbx; have gq_g2 := Aside0.mk hgq; clear hbx hgq); have HB2 := Aside0.mk (below_step HB1.out hb); have P2 := Aside0.mk (blk_below B1.out hb); have Q2 := B2; clear c0 c1 c2 zc0 zc1 zc2; have c0 := (blk_cell P2.out 0).trans rfl; have zc0 := blk_frozen P2.out 0; have c1 := (blk_cell P2.out 1).trans rfl; have zc1 := blk_frozen P2.out 1; have c2 := (blk_cell P2.out 2).trans rfl; have zc2 := blk_frozen P2.out 2; have q0 := (blk_cell Q2.out 0).trans rfl; have zq0 := blk_frozen Q2.out 0; have q1 := (blk_cell Q2.out 1).trans rfl; have zq1 := blk_frozen Q2.out 1; have q2 := (blk_cell Q2.out 2).trans rfl; have zq2 := blk_frozen Q2.out 2; have n1 : g2 ≠ g1 := (by have e1 := blk_lt B1.out; have e2 := gq_g2.out; omega); have n2 := n1.symm; have G2 := Aside0.mk (show w.heap.size ≤ g2 by rw [gq_g2.out]; exact HB1.out.size); clear hb HB1 B1 B2))
  go_region_held3 (fun w' => w'.cell? ⟨g1, 0, none⟩ = some (.bool neg) ∧ w'.cell? ⟨g1, 1, none⟩ = some (.int .i8 (s : Int)) ∧ w'.cell? ⟨g1, 2, none⟩ = some (.int .u64 (n : Int)))
    (first | exact ⟨c0, c1, c2⟩ | go_keep | (refine keep3 hb2 ?_; assumption) | (refine keep3 hb ?_; assumption))
    (first | (go_at_call 78; refine (HP.out _ (by repeat (first | (with_reducible first | exact HB2.out | apply below_alloc | apply pw_below_drewN | apply below_drew1 | refine below_set ?_ (Nat.le_refl _)) | exact HB2.out))).mono ?_; rintro e w3 ⟨rfl, hb⟩) | (go_at_call 57; refine (HS.out _).mono ?_; rintro e w4 ⟨rfl, hb2⟩))
  have hv : (if IntKind.i64.wrap (IntKind.i64.wrap (19 - (P : Int)) + (s : Int)) < (if (19 : Int) < (kk : Int) then 19 else (kk : Int)) then IntKind.i64.wrap (IntKind.i64.wrap (19 - (P : Int)) + (s : Int)) else if (19 : Int) < (kk : Int) then 19 else (kk : Int)) = (T : Int) := by
    rw [i64_in (show -100 ≤ 19 - (P : Int) by omega) (by omega), i64_in (show -100 ≤ 19 - (P : Int) + (s : Int) by omega) (by omega)]
    split <;> (try split) <;> omega
  rw [hv]
  have HB4 := Aside0.mk (below_step (below_step (below_drew HB2.out) hb) hb2)
  have P4 := Aside0.mk (blk_below (blk_below (blk_drew P2.out) hb) hb2)
  have Q4 := Aside0.mk (blk_below (blk_below (blk_drew Q2.out) hb) hb2)
  clear hv hT hb hb2 HB2 P2 Q2 c0 c1 c2 zc0 zc1 zc2 q0 q1 q2 zq0 zq1 zq2
  have c0 := (blk_cell P4.out 0).trans rfl; have zc0 := blk_frozen P4.out 0; have c1 := (blk_cell P4.out 1).trans rfl; have zc1 := blk_frozen P4.out 1; have c2 := (blk_cell P4.out 2).trans rfl; have zc2 := blk_frozen P4.out 2
  have q0 := (blk_cell Q4.out 0).trans rfl; have zq0 := blk_frozen Q4.out 0; have q1 := (blk_cell Q4.out 1).trans rfl; have zq1 := blk_frozen Q4.out 1; have q2 := (blk_cell Q4.out 2).trans rfl; have zq2 := blk_frozen Q4.out 2
  go_wp2_with fail
  refine (HS.out _).mono ?_
  rintro e w5 ⟨rfl, hb⟩
  have HB5 := Aside0.mk (below_step HB4.out hb)
  have P5 := Aside0.mk (blk_below P4.out hb)
  have Q5 := Aside0.mk (blk_below Q4.out hb)
  clear hb HB4 P4 Q4 c0 c1 c2 zc0 zc1 zc2 q0 q1 q2 zq0 zq1 zq2
  have c0 := (blk_cell P5.out 0).trans rfl; have zc0 := blk_frozen P5.out 0; have c1 := (blk_cell P5.out 1).trans rfl; have zc1 := blk_frozen P5.out 1; have c2 := (blk_cell P5.out 2).trans rfl; have zc2 := blk_frozen P5.out 2
  have q0 := (blk_cell Q5.out 0).trans rfl; have zq0 := blk_frozen Q5.out 0; have q1 := (blk_cell Q5.out 1).trans rfl; have zq1 := blk_frozen Q5.out 1; have q2 := (blk_cell Q5.out 2).trans rfl; have zq2 := blk_frozen Q5.out 2
  go_wp2_with fail
  refine (HS.out _).mono ?_
  rintro e w6 ⟨rfl, hb⟩
  have HB6 := Aside0.mk (below_step HB5.out hb)
  have P6 := Aside0.mk (blk_below P5.out hb)
  have Q6 := Aside0.mk (blk_below Q5.out hb)
  clear hb HB5 P5 Q5 c0 c1 c2 zc0 zc1 zc2 q0 q1 q2 zq0 zq1 zq2
  have c0 := (blk_cell P6.out 0).trans rfl; have zc0 := blk_frozen P6.out 0; have c1 := (blk_cell P6.out 1).trans rfl; have zc1 := blk_frozen P6.out 1; have c2 := (blk_cell P6.out 2).trans rfl; have zc2 := blk_frozen P6.out 2
  have q0 := (blk_cell Q6.out 0).trans rfl; have zq0 := blk_frozen Q6.out 0; have q1 := (blk_cell Q6.out 1).trans rfl; have zq1 := blk_frozen Q6.out 1; have q2 := (blk_cell Q6.out 2).trans rfl; have zq2 := blk_frozen Q6.out 2
  go_wp2_with fail
  refine (HL.out _ HB6.out).mono ?_
  rintro e w7 ⟨rfl, hb⟩
  have HB7 := Aside0.mk (below_step HB6.out hb)
  have P7 := Aside0.mk (blk_below P6.out hb)
  have Q7 := Aside0.mk (blk_below Q6.out hb)
  clear hb HB6 P6 Q6 c0 c1 c2 zc0 zc1 zc2 q0 q1 q2 zq0 zq1 zq2
  have c0 := (blk_cell P7.out 0).trans rfl; have zc0 := blk_frozen P7.out 0; have c1 := (blk_cell P7.out 1).trans rfl; have zc1 := blk_frozen P7.out 1; have c2 := (blk_cell P7.out 2).trans rfl; have zc2 := blk_frozen P7.out 2
  have q0 := (blk_cell Q7.out 0).trans rfl; have zq0 := blk_frozen Q7.out 0; have q1 := (blk_cell Q7.out 1).trans rfl; have zq1 := blk_frozen Q7.out 1; have q2 := (blk_cell Q7.out 2).trans rfl; have zq2 := blk_frozen Q7.out 2
  go_wp2_with fail
  refine (isNeg_is neg s n _).mono ?_
  rintro e w8 ⟨rfl, hb⟩
  have HB8 := Aside0.mk (below_step HB7.out hb)
  have P8 := Aside0.mk (blk_below P7.out hb)
  have Q8 := Aside0.mk (blk_below Q7.out hb)
  clear hb HB7 P7 Q7 c0 c1 c2 zc0 zc1 zc2 q0 q1 q2 zq0 zq1 zq2
  have c0 := (blk_cell P8.out 0).trans rfl; have zc0 := blk_frozen P8.out 0; have c1 := (blk_cell P8.out 1).trans rfl; have zc1 := blk_frozen P8.out 1; have c2 := (blk_cell P8.out 2).trans rfl; have zc2 := blk_frozen P8.out 2
  have q0 := (blk_cell Q8.out 0).trans rfl; have zq0 := blk_frozen Q8.out 0; have q1 := (blk_cell Q8.out 1).trans rfl; have zq1 := blk_frozen Q8.out 1; have q2 := (blk_cell Q8.out 2).trans rfl; have zq2 := blk_frozen Q8.out 2
  go_wp2_with fail
  refine (HU.out _).mono ?_
  rintro e w9 ⟨rfl, hb⟩
  have HB9 := Aside0.mk (below_step HB8.out hb)
  have P9 := Aside0.mk (blk_below P8.out hb)
  have Q9 := Aside0.mk (blk_below Q8.out hb)
  clear hb HB8 P8 Q8 c0 c1 c2 zc0 zc1 zc2 q0 q1 q2 zq0 zq1 zq2
  have c0 := (blk_cell P9.out 0).trans rfl; have zc0 := blk_frozen P9.out 0; have c1 := (blk_cell P9.out 1).trans rfl; have zc1 := blk_frozen P9.out 1; have c2 := (blk_cell P9.out 2).trans rfl; have zc2 := blk_frozen P9.out 2
  have q0 := (blk_cell Q9.out 0).trans rfl; have zq0 := blk_frozen Q9.out 0; have q1 := (blk_cell Q9.out 1).trans rfl; have zq1 := blk_frozen Q9.out 1; have q2 := (blk_cell Q9.out 2).trans rfl; have zq2 := blk_frozen Q9.out 2
  go_wp2_with fail
  exact bodyPost_ret (v := decOf neg (m : Int) T) (by simp [results, Tryd.results75, go_sem, q0, q1, q2]) rfl ⟨rfl, by repeat (first | (with_reducible first | exact HB9.out | apply below_alloc | apply pw_below_drewN | apply below_drew1 | refine below_set ?_ G2.out | refine below_set ?_ (Nat.le_refl _)) | exact HB9.out)⟩
set_option maxHeartbeats 4000000 in
theorem pad_keep (neg : Bool) (s n kk P T : Nat) (w : World) (hs : s ≤ 19) (hkk : kk ≤ 19) (hx : n < 10 ^ 19) (hP : P ≤ 19) (h0 : n < 10 ^ P) (h1 : ∀ i, i < P → 10 ^ i ≤ n) (ht : Tab w) (hT : T = min kk (19 - P + s)) (hTs : T ≤ s) :
    Calls Tryd.prog 75 #[decG neg s n, .int .i64 kk] w fun e w' => e = .returned (decG neg s n) ∧ Below w.heap.size w w' := by
  have HP := Aside0.mk (fun w0 (hb : Below w.heap.size w w0) => dprec_is neg s n P w0 hx hP h0 h1 (ht.below hb))
  have HS := Aside0.mk (fun w => scale_is neg s n w (Int.natCast_nonneg s) (by omega))
  have HB := Aside0.mk (Below.refl w.heap.size w)
  clear hx h0 h1 ht
  go_enter Tryd.func75, Tryd.ntmps75
  go_wp2_with (first | (((with_reducible refine gate_dst (N := 2) rfl ?_); refine box_event ?hg (N := 2) ?hd (cs := #[.bool neg, .int .i8 (s : Int), .int .u64 (n : Int)]) (t := 64) ?hr ?_; (case hd => rfl); (case hg => rfl); (case hr => first | (go_simp; done) | (go_simp; rfl)); intro g1 hgq w1 hbx hb; have B1 := Aside0.mk hbx; have gq_g1 := Aside0.mk hgq; clear hbx hgq); have HB1 := Aside0.mk (below_step HB.out hb); have c0 := (blk_cell B1.out 0).trans rfl; have zc0 := blk_frozen B1.out 0; have c1 := (blk_cell B1.out 1).trans rfl; have zc1 := blk_frozen B1.out 1; have c2 := (blk_cell B1.out 2).trans rfl; have zc2 := blk_frozen B1.out 2; clear hb HB) | (((with_reducible refine gate_dst (N := 4) rfl ?_); refine box_event ?hg (N := 4) ?hd (cs := #[.bool false, .int .i8 0, .int .u64 0]) (t := 64) ?hr ?_; (case hd => rfl); (case hg => rfl); (case hr => first | (go_simp; done) | (go_simp; rfl)); intro g2 hgq w2 hbx hb; have B2 := Aside0.mk hbx; have gq_g2 := Aside0.mk hgq; clear hbx hgq); have HB2 := Aside0.mk (below_step HB1.out hb); have P2 := Aside0.mk (blk_below B1.out hb); have Q2 := B2; clear c0 c1 c2 zc0 zc1 zc2; have c0 := (blk_cell P2.out 0).trans rfl; have zc0 := blk_frozen P2.out 0; have c1 := (blk_cell P2.out 1).trans rfl; have zc1 := blk_frozen P2.out 1; have c2 := (blk_cell P2.out 2).trans rfl; have zc2 := blk_frozen P2.out 2; have q0 := (blk_cell Q2.out 0).trans rfl; have zq0 := blk_frozen Q2.out 0; have q1 := (blk_cell Q2.out 1).trans rfl; have zq1 := blk_frozen Q2.out 1; have q2 := (blk_cell Q2.out 2).trans rfl; have zq2 := blk_frozen Q2.out 2; have n1 : g2 ≠ g1 := (by have e1 := blk_lt B1.out; have e2 := gq_g2.out; omega); have n2 := n1.symm; have G2 := Aside0.mk (show w.heap.size ≤ g2 by rw [gq_g2.out]; exact HB1.out.size); clear hb HB1 B1 B2))
  go_region_held3 (fun w' => w'.cell? ⟨g1, 0, none⟩ = some (.bool neg) ∧ w'.cell? ⟨g1, 1, none⟩ = some (.int .i8 (s : Int)) ∧ w'.cell? ⟨g1, 2, none⟩ = some (.int .u64 (n : Int)))
    (first | exact ⟨c0, c1, c2⟩ | go_keep | (refine keep3 hb2 ?_; assumption) | (refine keep3 hb ?_; assumption))
    (first | (go_at_call 78; refine (HP.out _ (by repeat (first | (with_reducible first | exact HB2.out | apply below_alloc | apply pw_below_drewN | apply below_drew1 | refine below_set ?_ (Nat.le_refl _)) | exact HB2.out))).mono ?_; rintro e w3 ⟨rfl, hb⟩) | (go_at_call 57; refine (HS.out _).mono ?_; rintro e w4 ⟨rfl, hb2⟩))
  have hv : (if IntKind.i64.wrap (IntKind.i64.wrap (19 - (P : Int)) + (s : Int)) < (if (19 : Int) < (kk : Int) then 19 else (kk : Int)) then IntKind.i64.wrap (IntKind.i64.wrap (19 - (P : Int)) + (s : Int)) else if (19 : Int) < (kk : Int) then 19 else (kk : Int)) = (T : Int) := by
    rw [i64_in (show -100 ≤ 19 - (P : Int) by omega) (by omega), i64_in (show -100 ≤ 19 - (P : Int) + (s : Int) by omega) (by omega)]
    split <;> (try split) <;> omega
  rw [hv]
  have HB4 := Aside0.mk (below_step (below_step (below_drew HB2.out) hb) hb2)
  have P4 := Aside0.mk (blk_below (blk_below (blk_drew P2.out) hb) hb2)
  have Q4 := Aside0.mk (blk_below (blk_below (blk_drew Q2.out) hb) hb2)
  clear hv hT hb hb2 HB2 P2 Q2 c0 c1 c2 zc0 zc1 zc2 q0 q1 q2 zq0 zq1 zq2
  have c0 := (blk_cell P4.out 0).trans rfl; have zc0 := blk_frozen P4.out 0; have c1 := (blk_cell P4.out 1).trans rfl; have zc1 := blk_frozen P4.out 1; have c2 := (blk_cell P4.out 2).trans rfl; have zc2 := blk_frozen P4.out 2
  have q0 := (blk_cell Q4.out 0).trans rfl; have zq0 := blk_frozen Q4.out 0; have q1 := (blk_cell Q4.out 1).trans rfl; have zq1 := blk_frozen Q4.out 1; have q2 := (blk_cell Q4.out 2).trans rfl; have zq2 := blk_frozen Q4.out 2
  go_wp2_with fail
  refine (HS.out _).mono ?_
  rintro e w5 ⟨rfl, hb⟩
  have HB5 := Aside0.mk (below_step HB4.out hb)
  have P5 := Aside0.mk (blk_below P4.out hb)
  have Q5 := Aside0.mk (blk_below Q4.out hb)
  clear hb HB4 P4 Q4 c0 c1 c2 zc0 zc1 zc2 q0 q1 q2 zq0 zq1 zq2
  have c0 := (blk_cell P5.out 0).trans rfl; have zc0 := blk_frozen P5.out 0; have c1 := (blk_cell P5.out 1).trans rfl; have zc1 := blk_frozen P5.out 1; have c2 := (blk_cell P5.out 2).trans rfl; have zc2 := blk_frozen P5.out 2
  have q0 := (blk_cell Q5.out 0).trans rfl; have zq0 := blk_frozen Q5.out 0; have q1 := (blk_cell Q5.out 1).trans rfl; have zq1 := blk_frozen Q5.out 1; have q2 := (blk_cell Q5.out 2).trans rfl; have zq2 := blk_frozen Q5.out 2
  go_wp2_with fail
  exact bodyPost_ret (v := decG neg s n) (by simp [results, Tryd.results75, go_sem, q0, q1, q2]) rfl ⟨rfl, by repeat (first | (with_reducible first | exact HB5.out | apply below_alloc | apply pw_below_drewN | apply below_drew1 | refine below_set ?_ G2.out | refine below_set ?_ (Nat.le_refl _)) | exact HB5.out)⟩
end Go.Proofs.YtcgdphciepdkiaaDoor.G
