/-
  CONTRACTS: nat.setBytes. (Began as print.sh's text over a scratch copy; turned by wip/tools/transplant.py and by hand.)
-/
import Derived.Test.YtghabdpbacgicaaDoorS0
import Derived.Test.YtghabdpbacgicaaDoorTI
import Derived.Test.YtghabdpbacgicaaDoorGBe
import Derived.Test.YtghabdpbacgicaaDoorGMk
import Derived.Test.YtghabdpbacgicaaDoorSNrm
namespace Go.Proofs.YtghabdpbacgicaaDoor.S
open Go.RowKit Go.Proofs.YtghabdpbacgicaaDoorW.PrintWords Go.Proofs.YtghabdpbacgicaaDoorW.PrintLast Go.Proofs.YtghabdpbacgicaaDoorW.PrintMore
attribute [local go_sem] max2_int min2_int max_two min_two max_three min_three max_four min_four
set_option linter.unusedVariables false
set_option linter.unusedSimpArgs false

/-! ### bigall_nat_setBytes -/

mutual
def bigall_nat_setBytes.l0 : Nat → List Int → List Int → Int → Int → Option (List Int)
  | 0, _, _, _, _ => none
  | k + 1, x0, x1, x5, x6 => if x5 ≥ 8 then (if 0 ≤ (wrap64 (x5 - 8)) then (if (wrap64 (x5 - 8)) ≤ x5 then (if x5 ≤ (x1.length : Int) then ((bigall_bigEndianWord.f ((x1.take (x5 : Int).toNat).drop ((wrap64 (x5 - 8)) : Int).toNat)).bind fun t179 => (if 0 ≤ x6 then (if x6 < (x0.length : Int) then (bigall_nat_setBytes.l0 k (x0.set (x6 : Int).toNat t179) x1 (wrap64 (x5 - 8)) (wrap64 (x6 + 1))) else (none)) else (none))) else (none)) else (none)) else (none)) else (if x5 > 0 then (bigall_nat_setBytes.l1 k x0 x1 x5 0 0) else ((bigall_nat_norm.f k x0).bind fun t186 => (some t186)))
def bigall_nat_setBytes.l1 : Nat → List Int → List Int → Int → Int → Int → Option (List Int)
  | 0, _, _, _, _, _ => none
  | k + 1, x0, x1, x5, x7, x8 => if x5 > 0 then (if 0 ≤ (wrap64 (x5 - 1)) then (if (wrap64 (x5 - 1)) < (x1.length : Int) then (if 0 ≤ x8 then (bigall_nat_setBytes.l1 k x0 x1 (wrap64 (x5 - 1)) (Go.bits .or .u64 x7 (shl .u64 (IntKind.u64.wrap (rd x1 (wrap64 (x5 - 1)))) x8)) (IntKind.u64.wrap (x8 + 8))) else (none)) else (none)) else (none)) else (if 0 ≤ (wrap64 ((x0.length : Int) - 1)) then (if (wrap64 ((x0.length : Int) - 1)) < (x0.length : Int) then ((bigall_nat_norm.f k (x0.set ((wrap64 ((x0.length : Int) - 1)) : Int).toNat x7)).bind fun t183 => (some t183)) else (none)) else (none))
end
def bigall_nat_setBytes.f (k : Nat) (l0 : List Int) (l1 : List Int) : Option (List Int) := (bigall_nat_make.f l0 (wrap64 (Int.tdiv (wrap64 ((wrap64 ((l1.length : Int) + 8)) - 1)) 8))).bind fun t175 => (bigall_nat_setBytes.l0 k t175 l1 (l1.length : Int) 0)
theorem bigall_nat_setBytes.mono_l : ∀ k, (∀ y0 y1 y2 y3, LeO (bigall_nat_setBytes.l0 k y0 y1 y2 y3) (bigall_nat_setBytes.l0 (k + 1) y0 y1 y2 y3)) ∧ (∀ y0 y1 y2 y3 y4, LeO (bigall_nat_setBytes.l1 k y0 y1 y2 y3 y4) (bigall_nat_setBytes.l1 (k + 1) y0 y1 y2 y3 y4))
  | 0 => ⟨fun _ _ _ _ r h => by simp [bigall_nat_setBytes.l0] at h, fun _ _ _ _ _ r h => by simp [bigall_nat_setBytes.l1] at h⟩
  | k + 1 => by
    obtain ⟨ih0, ih1⟩ := bigall_nat_setBytes.mono_l k
    refine ⟨?_, ?_⟩
    · intro y0 y1 y2 y3
      unfold bigall_nat_setBytes.l0
      repeat' first
      | (with_reducible exact ih0 _ _ _ _)
      | (with_reducible exact ih1 _ _ _ _ _)
      | (with_reducible exact bigall_nat_norm.mono _ _)
      | (with_reducible exact LeO.refl _)
      | (with_reducible exact LeO.none _)
      | (with_reducible refine LeO.ite ?_ ?_)
      | (with_reducible refine LeO.bind ?_ (fun _ => ?_))
      | exact ih0 _ _ _ _
      | exact ih1 _ _ _ _ _
      | exact bigall_nat_norm.mono _ _
      | exact LeO.none _
      | refine LeO.ite ?_ ?_
      | refine LeO.bind ?_ (fun _ => ?_)
    · intro y0 y1 y2 y3 y4
      unfold bigall_nat_setBytes.l1
      repeat' first
      | (with_reducible exact ih0 _ _ _ _)
      | (with_reducible exact ih1 _ _ _ _ _)
      | (with_reducible exact bigall_nat_norm.mono _ _)
      | (with_reducible exact LeO.refl _)
      | (with_reducible exact LeO.none _)
      | (with_reducible refine LeO.ite ?_ ?_)
      | (with_reducible refine LeO.bind ?_ (fun _ => ?_))
      | exact ih0 _ _ _ _
      | exact ih1 _ _ _ _ _
      | exact bigall_nat_norm.mono _ _
      | exact LeO.none _
      | refine LeO.ite ?_ ?_
      | refine LeO.bind ?_ (fun _ => ?_)
theorem bigall_nat_setBytes.mono : ∀ a0 a1 k, LeO (bigall_nat_setBytes.f k a0 a1) (bigall_nat_setBytes.f (k + 1) a0 a1) := by
  intro a0 a1 k
  obtain ⟨ih0, ih1⟩ := bigall_nat_setBytes.mono_l k
  unfold bigall_nat_setBytes.f
  repeat' first
      | (with_reducible exact ih0 _ _ _ _)
      | (with_reducible exact ih1 _ _ _ _ _)
      | (with_reducible exact bigall_nat_norm.mono _ _)
      | (with_reducible exact LeO.refl _)
      | (with_reducible exact LeO.none _)
      | (with_reducible refine LeO.ite ?_ ?_)
      | (with_reducible refine LeO.bind ?_ (fun _ => ?_))
      | exact ih0 _ _ _ _
      | exact ih1 _ _ _ _ _
      | exact bigall_nat_norm.mono _ _
      | exact LeO.none _
      | refine LeO.ite ?_ ?_
      | refine LeO.bind ?_ (fun _ => ?_)
set_option maxHeartbeats 8000000 in
set_option maxRecDepth 100000 in
theorem bigall_nat_setBytes.calls (k : Nat) (l0 : List Int) (A1 : Option Addr) (c1 : Nat) (l1 : List Int) (r : List Int) (w : World) (hr1 : Kd.C (Kd.int .u8) w A1 l1.length l1) (hc1 : l1.length ≤ c1) (h : bigall_nat_setBytes.f k l0 l1 = some r) :
    Calls Tryd.prog 42 #[.slice none 0 0, .slice A1 l1.length c1] w fun e w' => ∃ v0_ : Value, e = .returned (v0_) ∧ Kd.V (Kd.int .u64) 85 w' w.heap.size (fun k_ => (w.heap.size ≤ k_)) v0_ r ∧ Below w.heap.size w w' := by
  have HR1 := Aside0.mk hr1
  have HC1 := Aside0.mk hc1
  clear hr1 hc1
  have HB := Aside0.mk (Below.refl w.heap.size w)
  have H : ((bigall_nat_make.f l0 (wrap64 (Int.tdiv (wrap64 ((wrap64 ((l1.length : Int) + 8)) - 1)) 8))).bind fun t175 => (bigall_nat_setBytes.l0 k t175 l1 (l1.length : Int) 0)) = some r := h
  clear h
  replace H := Option.bind_eq_some_iff.mp H
  obtain ⟨t175, A30, H⟩ := H
  replace H : (bigall_nat_setBytes.l0 k t175 l1 (l1.length : Int) 0) = some r := H
  have A3 := Aside0.mk A30
  clear A30
  have H' := Aside0.mk H
  clear H
  go_enter Tryd.func42, Tryd.ntmps42
  go_wp2_with (first | ((with_reducible refine gate_callee (f := 53) rfl ?_); refine goesL_ (some 15) rfl rfl Tryd.func53 (by kernel_rfl) rfl #[.slice none 0 0, .int .i64 (wrap64 (Int.tdiv (wrap64 ((wrap64 ((l1.length : Int) + 8)) - 1)) 8))] rfl (by (try simp only [List.map_toArray, List.map_cons, List.map_nil]); first | done | rfl | (simp only [List.length_drop, List.length_take]; rfl)) ?_; (with_reducible refine (bigall_nat_make.calls l0 (wrap64 (Int.tdiv (wrap64 ((wrap64 ((l1.length : Int) + 8)) - 1)) 8)) t175 _ A3.out).mono ?_); rintro e w4 ⟨v176, rfl, ho0, hb⟩; refine ⟨_, rfl, ?_⟩; have n0_ := Aside0.mk (Kd.R_lower (Kd.R_newM (M := fun k_ => (w.heap.size ≤ k_)) ho0 (below_size (by repeat (first | (with_reducible first | exact HB.out | apply below_alloc | apply pw_below_drewN | apply below_drew1) | exact HB.out))) (fun k_ h_ => h_)) (below_size (by repeat (first | (with_reducible first | exact HB.out | apply below_alloc | apply pw_below_drewN | apply below_drew1) | exact HB.out)))); have n1_ := Aside0.mk (below_step (by repeat (first | (with_reducible first | exact HB.out | apply below_alloc | apply pw_below_drewN | apply below_drew1) | exact HB.out)) hb); clear HB; have HO177 := n0_; have HB := n1_; clear n0_ n1_; (try clear hb); (try clear hb2); (try clear hk); (try clear hi); (try clear ho0)))
  go_loopg [5, 6] k (fun kq v5 v6 w' => ∃ (x0_1 : List Int) (x5_1 : Int) (x6_1 : Int), v5 = .int .i64 x5_1 ∧ v6 = .int .i64 x6_1 ∧ Aside0 (bigall_nat_setBytes.l0 kq x0_1 l1 x5_1 x6_1 = some r) ∧ Aside0 (kq ≤ k) ∧ Aside0 (Kd.R (Kd.int .u64) 85 w' w.heap.size (fun k_ => (w.heap.size ≤ k_)) v176 x0_1) ∧ Aside0 (Below w.heap.size w w'))
  case atStart => exact ⟨(t175), ((l1.length : Int)), (0), (by first | rfl | (simp; done) | (simp [*]; done)), (by first | rfl | (simp; done) | (simp [*]; done)), H', ⟨Nat.le_refl _⟩, ⟨by (with_reducible repeat (first | apply Kd.R_alloc | apply Kd.R_drewN | apply Kd.R_drew)); exact Kd.R_mono HO177.out (fun _ hk => hk.1)⟩, ⟨by repeat (first | (with_reducible first | exact HB.out | apply below_alloc | apply pw_below_drewN | apply below_drew1) | exact HB.out)⟩⟩
  case round =>
    clear H'
    try clear c1
    try clear p2
    obtain ⟨x0_1, x5_1, x6_1, rfl, rfl, HA, HK1, HO_0, HB⟩ := hrel
    cases gk with
    | zero => exact absurd HA.out (by simp [bigall_nat_setBytes.l0])
    | succ k1 =>
      have H := HA.out
      clear HA
      simp only [bigall_nat_setBytes.l0] at H
      by_cases c5 : x5_1 ≥ 8
      · rw [if_pos c5] at H
        have c5b0 : decide (8 ≤ x5_1) = true := decide_eq_true c5
        clear c5
        obtain ⟨ji6, hji6⟩ : ∃ j_ : Int, (wrap64 (x5_1 - 8)) = j_ := ⟨_, rfl⟩
        replace H : (if 0 ≤ (ji6) then (if (ji6) ≤ x5_1 then (if x5_1 ≤ (l1.length : Int) then ((bigall_bigEndianWord.f ((l1.take (x5_1 : Int).toNat).drop ((ji6) : Int).toNat)).bind fun t179 => (if 0 ≤ x6_1 then (if x6_1 < (x0_1.length : Int) then (bigall_nat_setBytes.l0 k1 (x0_1.set (x6_1 : Int).toNat t179) l1 ji6 (wrap64 (x6_1 + 1))) else (none)) else (none))) else (none)) else (none)) else (none)) = some r := by first | (rw [hji6] at H; exact H) | (simp only [hji6] at H ⊢; exact H)
        have hji6w : (IntKind.i64.wrap (x5_1 - 8)) = ji6 := (i64_w _).trans hji6
        by_cases c7 : 0 ≤ (ji6)
        · rw [if_pos c7] at H
          have c7b0 := eq_true c7
          have c7b1 : decide (0 ≤ (ji6)) = true := decide_eq_true c7
          clear c7
          by_cases c8 : (ji6) ≤ x5_1
          · rw [if_pos c8] at H
            have c8b0 := eq_true c8
            have c8b1 : decide ((ji6) ≤ x5_1) = true := decide_eq_true c8
            clear c8
            by_cases c9 : x5_1 ≤ (l1.length : Int)
            · rw [if_pos c9] at H
              have c9b0 := eq_true c9
              have c9b1 : decide (x5_1 ≤ (l1.length : Int)) = true := decide_eq_true c9
              clear c9
              replace H := Option.bind_eq_some_iff.mp H
              obtain ⟨t179, A100, H⟩ := H
              replace H : (if 0 ≤ x6_1 then (if x6_1 < (x0_1.length : Int) then (bigall_nat_setBytes.l0 k1 (x0_1.set (x6_1 : Int).toNat t179) l1 ji6 (wrap64 (x6_1 + 1))) else (none)) else (none)) = some r := H
              have A10 := Aside0.mk A100
              clear A100
              by_cases c11 : 0 ≤ x6_1
              · rw [if_pos c11] at H
                have c11b0 : decide (0 ≤ x6_1) = true := decide_eq_true c11
                clear c11
                by_cases c12 : x6_1 < (x0_1.length : Int)
                · rw [if_pos c12] at H
                  have c12b0 : decide (x6_1 < (x0_1.length : Int)) = true := decide_eq_true c12
                  clear c12
                  obtain ⟨y180, hy180⟩ : ∃ y_ : List Int, y_ = (x0_1.set (x6_1 : Int).toNat t179) := ⟨_, rfl⟩
                  replace H : (bigall_nat_setBytes.l0 k1 y180 l1 ji6 (wrap64 (x6_1 + 1))) = some r := by first | (rw [hy180]; with_reducible exact H) | (have H2_ := (Option.bind_some _ _).symm.trans H; rw [hy180]; with_reducible exact H2_) | (have H2_ := (Option.bind_some _ _).symm.trans H; with_reducible exact H2_) | with_reducible exact H | (rw [hy180]; exact H) | exact H
                  have Ny180 := Aside0.mk hy180
                  clear hy180
                  have H' := Aside0.mk H
                  clear H
                  obtain ⟨i014, hi014, _, hsz14, _⟩ := info_parts tinfo_u8
                  obtain ⟨A14, hcut14, hA14, hC14⟩ := print_mid_of (P := Tryd.prog) (Value.int .u8) 0 34 5 .i64 .i64 Tryd.underlying34 hi014 hsz14 A1 c1 l1 (ji6) x5_1 (of_decide_eq_true (by first | (with_reducible assumption) | assumption)) (by first | omega | exact of_decide_eq_true (by first | (with_reducible assumption) | assumption)) (of_decide_eq_true (by first | (with_reducible assumption) | assumption)) HC1.out
                  have HR178 := Aside0.mk (Kd.C_of_reads (h1 := fun _ => rfl) (hA14 _ (Kd.reads_of_C HR1.out)))
                  have HC178 := Aside0.mk hC14
                  clear hA14 hC14 hi014 hsz14
                  go_wp2_with (first | ((with_reducible refine gate_callee (f := 54) rfl ?_); refine goesL_ (some 29) rfl rfl Tryd.func54 (by kernel_rfl) rfl #[.slice A14 ((l1.take (x5_1 : Int).toNat).drop ((ji6) : Int).toNat).length (c1 - (ji6).toNat)] rfl (by (try simp only [List.map_toArray, List.map_cons, List.map_nil]); first | done | (rw [show ((l1.take (x5_1 : Int).toNat).drop ((ji6) : Int).toNat).length = (x5_1.toNat - (ji6).toNat) from (by rw [List.length_drop, List.length_take]; have h_ : (x5_1 : Int) ≤ (l1.length : Int) := of_decide_eq_true (by first | (with_reducible assumption) | assumption); omega)] <;> rfl) | (simp only [hji6]; rfl) | rfl | (simp only [List.length_drop, List.length_take]; rfl)) ?_; (with_reducible refine (bigall_bigEndianWord.calls _ _ ((l1.take (x5_1 : Int).toNat).drop ((ji6) : Int).toNat) t179 _ ?side1 ?side2 A10.out).mono ?_); (case side1 => repeat (first | exact (Kd.C_below HR178.out HB.out) | (with_reducible refine Kd.C_alloc ?_ _) | (with_reducible refine Kd.C_drewN ?_ _) | (with_reducible refine Kd.C_drew ?_))); (case side2 => exact HC178.out); rintro e w' ⟨rfl, ⟨nd, rfl⟩⟩; refine ⟨_, rfl, ?_⟩; (try (rw [drewN_self wr]; generalize hq_ : World.drewN wr _ = wr; have n0_ : Aside0 (Kd.R (Kd.int .u64) 85 wr w.heap.size (fun k_ => (w.heap.size ≤ k_)) v176 x0_1) := ⟨by rw [← hq_]; exact (by (with_reducible repeat (first | apply Kd.R_alloc | apply Kd.R_drewN | apply Kd.R_drew)); exact HO_0.out)⟩; have n1_ : Aside0 (Below w.heap.size w wr) := ⟨by rw [← hq_]; exact (by repeat (first | (with_reducible first | exact HB.out | apply below_alloc | apply pw_below_drewN | apply below_drew1) | exact HB.out))⟩; clear HO_0 HB hq_; have HO_0 := n0_; have HB := n1_; clear n0_ n1_)); have p13 : 0 ≤ (x6_1 : Int) := of_decide_eq_true (by first | (with_reducible assumption) | assumption); have q13 : (x6_1 : Int) < ((x0_1.length : Int) : Int) := of_decide_eq_true (by first | (with_reducible assumption) | assumption); obtain ⟨go13, co13, eo13, gb13, gl13, cl13, HG13⟩ := Kd.R_form HO_0.out (by omega); (first | cases eo13 | (injection eo13 with ea_ en_ ec_; (first | subst ea_ | (injection ea_ with ea_; subst ea_)); subst ec_; clear en_)); have GB13 := Aside0.mk gb13; have GG13 := Aside0.mk HG13; clear gb13 gl13 HG13; obtain ⟨hx13_0, hf13_0⟩ := Kd.R_celln 0 HO_0.out (x6_1 : Int) p13 q13; replace p13 := eq_true p13; replace q13 := eq_true q13; obtain ⟨hy15_, hz15_⟩ := Kd.R_celln 0 HO_0.out (x6_1 : Int) (of_decide_eq_true (by first | (with_reducible assumption) | assumption)) (of_decide_eq_true (by first | (with_reducible assumption) | assumption)); have HP15 := Kd.R_putg HO_0.out (x6_1 : Int) t179) | ((with_reducible refine gate_store (t := 85) (p := 30) rfl ?_); refine store_event (t := 85) (p := 30) (v := ?vo_w16) (w1 := (wr.setCell ⟨go13, (x6_1 : Int).toNat, none⟩ (.int .u64 t179))) ?hg ?ho ?hn ?hr ?_; (case ho => rfl); (case hg => rfl); (case hn => rfl); (case hr => first | (go_simp; done) | (go_simp; rfl)); intro w16 hw; have hg : wr.grownBy w16 (some go13) := (by rw [hw]; exact HP15.2); have hp_ : Kd.R (Kd.int .u64) 85 w16 w.heap.size (fun k_ => (w.heap.size ≤ k_)) (.slice (some ⟨go13, 0, none⟩) x0_1.length co13) y180 := (by rw [hw, Ny180.out]; exact HP15.1); clear HP15; have n0_ := Aside0.mk (hp_); have n1_ := Aside0.mk ((by rw [hw]; exact below_set (HB.out) GB13.out : Below w.heap.size w w16)); clear HO_0; clear HB; have HO_0 := n0_; have HB := n1_; clear n0_ n1_; clear hg hw hp_))
                  go_roundg k1
                  case measure => have := HK1.out; omega
                  case rel => exact ⟨(y180), (ji6), (wrap64 (x6_1 + 1)), (by first | rfl | (simp; done) | (simp only [← hji6] <;> (first | rfl | simp)) | (simp [*]; done)), (by first | rfl | (simp; done) | (simp [*]; done)), H', ⟨by have := HK1.out; omega⟩, ⟨by (with_reducible repeat (first | apply Kd.R_alloc | apply Kd.R_drewN | apply Kd.R_drew)); exact HO_0.out⟩, ⟨by repeat (first | (with_reducible first | exact HB.out | apply below_alloc | apply pw_below_drewN | apply below_drew1) | exact HB.out)⟩⟩
                · rw [if_neg c12] at H
                  exact absurd H (by simp)
              · rw [if_neg c11] at H
                exact absurd H (by simp)
            · rw [if_neg c9] at H
              exact absurd H (by simp)
          · rw [if_neg c8] at H
            exact absurd H (by simp)
        · rw [if_neg c7] at H
          exact absurd H (by simp)
      · rw [if_neg c5] at H
        have c5b0 : decide (8 ≤ x5_1) = false := decide_eq_false c5
        clear c5
        by_cases c17 : x5_1 > 0
        · rw [if_pos c17] at H
          have c17b0 : decide (0 < x5_1) = true := decide_eq_true c17
          clear c17
          have H' := Aside0.mk H
          clear H
          go_wp2
          go_loopg [5, 7, 8] k1 (fun kq v5 v7 v8 w' => ∃ (x5_2 : Int) (x7_2 : Int) (x8_2 : Int), v5 = .int .i64 x5_2 ∧ v7 = .int .u64 x7_2 ∧ v8 = .int .u64 x8_2 ∧ Aside0 (bigall_nat_setBytes.l1 kq x0_1 l1 x5_2 x7_2 x8_2 = some r) ∧ Aside0 (kq ≤ k1) ∧ Aside0 (Kd.R (Kd.int .u64) 85 w' w.heap.size (fun k_ => (w.heap.size ≤ k_)) v176 x0_1) ∧ Aside0 (Below w.heap.size w w'))
          case atStart => exact ⟨(x5_1), (0), (0), (by first | rfl | (simp; done) | (simp [*]; done)), (by first | rfl | (simp; done) | (simp [*]; done)), (by first | rfl | (simp; done) | (simp [*]; done)), H', ⟨Nat.le_refl _⟩, ⟨by (with_reducible repeat (first | apply Kd.R_alloc | apply Kd.R_drewN | apply Kd.R_drew)); exact HO_0.out⟩, ⟨by repeat (first | (with_reducible first | exact HB.out | apply below_alloc | apply pw_below_drewN | apply below_drew1) | exact HB.out)⟩⟩
          case round =>
            clear H'
            try clear c1
            try clear p1
            try clear q1
            try clear hx1
            try clear p2
            try clear c5
            try clear c5b0
            try clear p6
            try clear c7
            try clear c7b0
            try clear c7b1
            try clear c8
            try clear c8b0
            try clear c8b1
            try clear c9
            try clear c9b0
            try clear c9b1
            try clear c10
            try clear c11
            try clear c11b0
            try clear c12
            try clear c12b0
            try clear p13
            try clear q13
            try clear hx13
            try clear hf13
            try clear c17
            try clear c17b0
            try clear hx13_0
            try clear p13
            try clear p2
            try clear q13
            obtain ⟨x5_2, x7_2, x8_2, rfl, rfl, rfl, HA, HK2, HO_0, HB⟩ := hrel
            cases gk with
            | zero => exact absurd HA.out (by simp [bigall_nat_setBytes.l1])
            | succ k2 =>
              have H := HA.out
              clear HA
              simp only [bigall_nat_setBytes.l1] at H
              by_cases c18 : x5_2 > 0
              · rw [if_pos c18] at H
                have c18b0 : decide (0 < x5_2) = true := decide_eq_true c18
                clear c18
                obtain ⟨ji19, hji19⟩ : ∃ j_ : Int, (wrap64 (x5_2 - 1)) = j_ := ⟨_, rfl⟩
                replace H : (if 0 ≤ (ji19) then (if (ji19) < (l1.length : Int) then (if 0 ≤ x8_2 then (bigall_nat_setBytes.l1 k2 x0_1 l1 ji19 (Go.bits .or .u64 x7_2 (shl .u64 (IntKind.u64.wrap (rd l1 (ji19))) x8_2)) (IntKind.u64.wrap (x8_2 + 8))) else (none)) else (none)) else (none)) = some r := by first | (rw [hji19] at H; exact H) | (simp only [hji19] at H ⊢; exact H)
                have hji19w : (IntKind.i64.wrap (x5_2 - 1)) = ji19 := (i64_w _).trans hji19
                by_cases c20 : 0 ≤ (ji19)
                · rw [if_pos c20] at H
                  have c20b0 : decide (0 ≤ (ji19)) = true := decide_eq_true c20
                  clear c20
                  by_cases c21 : (ji19) < (l1.length : Int)
                  · rw [if_pos c21] at H
                    have c21b0 : decide ((ji19) < (l1.length : Int)) = true := decide_eq_true c21
                    clear c21
                    by_cases c22 : 0 ≤ x8_2
                    · rw [if_pos c22] at H
                      have c22b0 := eq_true c22
                      have c22b1 : decide (0 ≤ x8_2) = true := decide_eq_true c22
                      clear c22
                      obtain ⟨ji23, hji23⟩ : ∃ j_ : Int, (shl .u64 (IntKind.u64.wrap (rd l1 (ji19))) x8_2) = j_ := ⟨_, rfl⟩
                      replace H : (bigall_nat_setBytes.l1 k2 x0_1 l1 ji19 (Go.bits .or .u64 x7_2 (ji23)) (IntKind.u64.wrap (x8_2 + 8))) = some r := by first | (rw [hji23] at H; exact H) | (simp only [hji23] at H ⊢; exact H)
                      have hji23_ : (IntKind.u64.wrap ((IntKind.u64.wrap (rd l1 (ji19))) * 2 ^ min x8_2.toNat 64)) = ji23 := hji23
                      have hji23z : x8_2 ≤ 64 → (IntKind.u64.wrap ((IntKind.u64.wrap (rd l1 (ji19))) * 2 ^ x8_2.toNat)) = ji23 := shl_small hji23
                      have H' := Aside0.mk H
                      clear H
                      have p181 : 0 ≤ ((ji19) : Int) := of_decide_eq_true (by first | (with_reducible assumption) | assumption)
                      have q181 : (ji19) < (l1.length : Int) := of_decide_eq_true (by first | (with_reducible assumption) | assumption)
                      obtain ⟨ad181, e181, hx181_0⟩ := Kd.at_int HR1.out (ji19) p181 q181
                      cases e181
                      replace hx181_0 := (HB.out.cell (World.block_lt_of_cell? w _ hx181_0)).trans hx181_0
                      replace p181 := eq_true p181
                      replace q181 := eq_true q181
                      go_wp2
                      go_roundg k2
                      case measure => have := HK1.out; have := HK2.out; omega
                      case rel => exact ⟨(ji19), (Go.bits .or .u64 x7_2 (ji23)), (IntKind.u64.wrap (x8_2 + 8)), (by first | rfl | (simp; done) | (simp only [← hji19] <;> (first | rfl | simp)) | (simp [*]; done)), (by first | rfl | (simp; done) | (simp only [← hji23] <;> (first | rfl | simp)) | (simp [*]; done)), (by first | rfl | (simp; done) | (simp [*]; done)), H', ⟨by have := HK1.out; have := HK2.out; omega⟩, ⟨by (with_reducible repeat (first | apply Kd.R_alloc | apply Kd.R_drewN | apply Kd.R_drew)); exact HO_0.out⟩, ⟨by repeat (first | (with_reducible first | exact HB.out | apply below_alloc | apply pw_below_drewN | apply below_drew1) | exact HB.out)⟩⟩
                    · rw [if_neg c22] at H
                      exact absurd H (by simp)
                  · rw [if_neg c21] at H
                    exact absurd H (by simp)
                · rw [if_neg c20] at H
                  exact absurd H (by simp)
              · rw [if_neg c18] at H
                have c18b0 : decide (0 < x5_2) = false := decide_eq_false c18
                clear c18
                obtain ⟨ji24, hji24⟩ : ∃ j_ : Int, (wrap64 ((x0_1.length : Int) - 1)) = j_ := ⟨_, rfl⟩
                replace H : (if 0 ≤ (ji24) then (if (ji24) < (x0_1.length : Int) then ((bigall_nat_norm.f k2 (x0_1.set ((ji24) : Int).toNat x7_2)).bind fun t183 => (some t183)) else (none)) else (none)) = some r := by first | (rw [hji24] at H; exact H) | (simp only [hji24] at H ⊢; exact H)
                have hji24w : (IntKind.i64.wrap ((x0_1.length : Int) - 1)) = ji24 := (i64_w _).trans hji24
                by_cases c25 : 0 ≤ (ji24)
                · rw [if_pos c25] at H
                  have c25b0 : decide (0 ≤ (ji24)) = true := decide_eq_true c25
                  clear c25
                  by_cases c26 : (ji24) < (x0_1.length : Int)
                  · rw [if_pos c26] at H
                    have c26b0 : decide ((ji24) < (x0_1.length : Int)) = true := decide_eq_true c26
                    clear c26
                    obtain ⟨y182, hy182⟩ : ∃ y_ : List Int, y_ = (x0_1.set ((ji24) : Int).toNat x7_2) := ⟨_, rfl⟩
                    replace H : ((bigall_nat_norm.f k2 y182).bind fun t183 => (some t183)) = some r := by first | (rw [hy182]; with_reducible exact H) | (have H2_ := (Option.bind_some _ _).symm.trans H; rw [hy182]; with_reducible exact H2_) | (have H2_ := (Option.bind_some _ _).symm.trans H; with_reducible exact H2_) | with_reducible exact H | (rw [hy182]; exact H) | exact H
                    have Ny182 := Aside0.mk hy182
                    clear hy182
                    replace H := Option.bind_eq_some_iff.mp H
                    obtain ⟨t183, A280, H⟩ := H
                    replace H : (some t183) = some r := H
                    have A28 := Aside0.mk A280
                    clear A280
                    obtain rfl := Option.some.inj H
                    obtain ⟨Ao29, co29, eo29⟩ := Kd.R_slice HO_0.out
                    subst eo29
                    have p27 : 0 ≤ ((ji24) : Int) := of_decide_eq_true (by first | (with_reducible assumption) | assumption)
                    have q27 : ((ji24) : Int) < ((x0_1.length : Int) : Int) := of_decide_eq_true (by first | (with_reducible assumption) | assumption)
                    obtain ⟨go27, co27, eo27, gb27, gl27, cl27, HG27⟩ := Kd.R_form HO_0.out (by omega)
                    (first | cases eo27 | (injection eo27 with ea_ en_ ec_; (first | subst ea_ | (injection ea_ with ea_; subst ea_)); subst ec_; clear en_))
                    have GB27 := Aside0.mk gb27
                    have GG27 := Aside0.mk HG27
                    clear gb27 gl27 HG27
                    obtain ⟨hx27_0, hf27_0⟩ := Kd.R_celln 0 HO_0.out ((ji24) : Int) p27 q27
                    replace p27 := eq_true p27
                    replace q27 := eq_true q27
                    have HP30 := Kd.R_putg HO_0.out ((ji24) : Int) x7_2
                    go_wp2_with (first | ((with_reducible refine gate_store (t := 85) (p := 56) rfl ?_); refine store_event (t := 85) (p := 56) (v := ?vo_w31) (w1 := (wr.setCell ⟨go27, ((ji24) : Int).toNat, none⟩ (.int .u64 x7_2))) ?hg ?ho ?hn ?hr ?_; (case ho => rfl); (case hg => rfl); (case hn => rfl); (case hr => first | (go_simp; done) | (go_simp; rfl)); intro w31 hw; have hg : wr.grownBy w31 (some go27) := (by rw [hw]; exact HP30.2); have hp_ : Kd.R (Kd.int .u64) 85 w31 w.heap.size (fun k_ => (w.heap.size ≤ k_)) (.slice (some ⟨go27, 0, none⟩) x0_1.length co29) y182 := (by rw [hw, Ny182.out]; exact HP30.1); clear HP30; have n0_ := Aside0.mk (hp_); have n1_ := Aside0.mk ((by rw [hw]; exact below_set (HB.out) GB27.out : Below w.heap.size w w31)); clear HO_0; clear HB; have HO_0 := n0_; have HB := n1_; clear n0_ n1_; clear hg hw hp_) | ((with_reducible refine gate_callee (f := 50) rfl ?_); refine goesL_ (some 58) rfl rfl Tryd.func50 (by kernel_rfl) rfl #[.slice (some ⟨go27, 0, none⟩) y182.length co29] rfl (by (try simp only [List.map_toArray, List.map_cons, List.map_nil]); first | done | (rw [show y182.length = x0_1.length from (Kd.R_reads' HO_0.out).1.symm] <;> rfl) | rfl | (simp only [List.length_drop, List.length_take]; rfl)) ?_; (with_reducible refine (bigall_nat_norm.calls k2 (fun k_ => some k_ = (.slice (some ⟨go27, 0, none⟩) x0_1.length co29 : Value).ownBlock) _ _ y182 t183 _ ?side1 A28.out).mono ?_); (case side1 => rw [show y182.length = x0_1.length from (Kd.R_reads' HO_0.out).1.symm]; exact Kd.R_V (Kd.R_tight rfl (HO_0.out))); rintro e w32 ⟨v184, rfl, ho0, hb⟩; refine ⟨_, rfl, ?_⟩; have n0_ := Aside0.mk (Kd.R_below (by (with_reducible repeat (first | apply Kd.R_alloc | apply Kd.R_drewN | apply Kd.R_drew)); exact HO_0.out) hb); have n1_ := Aside0.mk (Kd.V_lower (Kd.V_mono (ok' := fun k_ => (w.heap.size ≤ k_)) ho0 (fun k_ hk_ => Or.elim hk_ (fun hs_ => ((HO_0.out).1 k_ hs_.symm)) (fun hn_ => (Nat.le_trans (below_size (by repeat (first | (with_reducible first | exact HB.out | apply below_alloc | apply pw_below_drewN | apply below_drew1) | exact HB.out))) hn_)))) (below_size (by repeat (first | (with_reducible first | exact HB.out | apply below_alloc | apply pw_below_drewN | apply below_drew1) | exact HB.out)))); have n2_ := Aside0.mk (below_step (by repeat (first | (with_reducible first | exact HB.out | apply below_alloc | apply pw_below_drewN | apply below_drew1) | exact HB.out)) hb); clear HO_0; clear HB; have HO_0 := n0_; have HO185 := n1_; have HB := n2_; clear n0_ n1_ n2_; (try clear hb); (try clear hb2); (try clear hk); (try clear hi); (try clear ho0)))
                    go_ret
                    exact ⟨_, by first | rfl | (simp [errW_none, errW_some] <;> rfl) | (simp only [← hji24]; first | rfl | (simp [errW_none, errW_some] <;> rfl)) | (simp [*, errW_none, errW_some] <;> rfl), by (with_reducible repeat (first | apply Kd.V_alloc | apply Kd.V_drewN | apply Kd.V_drew)); exact HO185.out, by repeat (first | (with_reducible first | exact HB.out | apply below_alloc | apply pw_below_drewN | apply below_drew1) | exact HB.out)⟩
                  · rw [if_neg c26] at H
                    exact absurd H (by simp)
                · rw [if_neg c25] at H
                  exact absurd H (by simp)
        · rw [if_neg c17] at H
          have c17b0 : decide (0 < x5_1) = false := decide_eq_false c17
          clear c17
          replace H := Option.bind_eq_some_iff.mp H
          obtain ⟨t186, A330, H⟩ := H
          replace H : (some t186) = some r := H
          have A33 := Aside0.mk A330
          clear A330
          obtain rfl := Option.some.inj H
          obtain ⟨Ao34, co34, eo34⟩ := Kd.R_slice HO_0.out
          subst eo34
          go_wp2_with (first | ((with_reducible refine gate_callee (f := 50) rfl ?_); refine goesL_ (some 58) rfl rfl Tryd.func50 (by kernel_rfl) rfl #[.slice Ao34 x0_1.length co34] rfl (by (try simp only [List.map_toArray, List.map_cons, List.map_nil]); first | done | rfl | (simp only [List.length_drop, List.length_take]; rfl)) ?_; (with_reducible refine (bigall_nat_norm.calls k1 (fun k_ => some k_ = (.slice Ao34 x0_1.length co34 : Value).ownBlock) _ _ x0_1 t186 _ ?side1 A33.out).mono ?_); (case side1 => exact Kd.R_V (Kd.R_tight rfl (HO_0.out))); rintro e w35 ⟨v187, rfl, ho0, hb⟩; refine ⟨_, rfl, ?_⟩; have n0_ := Aside0.mk (Kd.R_below (by (with_reducible repeat (first | apply Kd.R_alloc | apply Kd.R_drewN | apply Kd.R_drew)); exact HO_0.out) hb); have n1_ := Aside0.mk (Kd.V_lower (Kd.V_mono (ok' := fun k_ => (w.heap.size ≤ k_)) ho0 (fun k_ hk_ => Or.elim hk_ (fun hs_ => ((HO_0.out).1 k_ hs_.symm)) (fun hn_ => (Nat.le_trans (below_size (by repeat (first | (with_reducible first | exact HB.out | apply below_alloc | apply pw_below_drewN | apply below_drew1) | exact HB.out))) hn_)))) (below_size (by repeat (first | (with_reducible first | exact HB.out | apply below_alloc | apply pw_below_drewN | apply below_drew1) | exact HB.out)))); have n2_ := Aside0.mk (below_step (by repeat (first | (with_reducible first | exact HB.out | apply below_alloc | apply pw_below_drewN | apply below_drew1) | exact HB.out)) hb); clear HO_0; clear HB; have HO_0 := n0_; have HO188 := n1_; have HB := n2_; clear n0_ n1_ n2_; (try clear hb); (try clear hb2); (try clear hk); (try clear hi); (try clear ho0)))
          go_ret
          exact ⟨_, by first | rfl | (simp [errW_none, errW_some] <;> rfl) | (simp [*, errW_none, errW_some] <;> rfl), by (with_reducible repeat (first | apply Kd.V_alloc | apply Kd.V_drewN | apply Kd.V_drew)); exact HO188.out, by repeat (first | (with_reducible first | exact HB.out | apply below_alloc | apply pw_below_drewN | apply below_drew1) | exact HB.out)⟩

end Go.Proofs.YtghabdpbacgicaaDoor.S
