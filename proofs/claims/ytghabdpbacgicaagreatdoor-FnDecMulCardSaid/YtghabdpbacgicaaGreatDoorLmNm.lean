/-
  WHAT THE ROWS' PRODUCTS ARE, as numbers.
-/
import Derived.Test.YtghabdpbacgicaaGreatDoorGNm
namespace Go.Proofs.YtghabdpbacgicaaGreatDoor.Lm
open Go.RowKit Go.Proofs.YtghabdpbacgicaaGreatDoorW.PrintWords Go.Proofs.YtghabdpbacgicaaGreatDoor.S Go.Proofs.YtghabdpbacgicaaGreatDoor.G
set_option linter.unusedVariables false

theorem getD_set_ne (l : List Int) (i j : Nat) (v : Int) (h : i ≠ j) : (l.set i v).getD j 0 = l.getD j 0 := by
  rw [List.getD_eq_getElem?_getD, List.getElem?_set, if_neg h, ← List.getD_eq_getElem?_getD]
theorem val_take_succ (x : List Int) (i : Nat) (h : i < x.length) : L64.val (x.take (i + 1)) = L64.val (x.take i) + 18446744073709551616 ^ i * (x.getD i 0).toNat := by
  rw [List.take_succ_eq_append_getElem h, L64.val_snoc, List.length_take, Nat.min_eq_left (by omega), List.getD_eq_getElem?_getD, List.getElem?_eq_getElem h]
  rfl
theorem zeros_getD (c j : Nat) : (List.replicate c (0 : Int)).getD j 0 = 0 := by
  rw [List.getD_eq_getElem?_getD, List.getElem?_replicate]
  split <;> rfl
theorem mulV_out (x : List Int) (y r : Nat) (L : List Int) (i j : Nat) (h : i ≤ j) : (mulV x y r L i).1.getD j 0 = L.getD j 0 := by
  induction i with
  | zero => rfl
  | succ i ih =>
    unfold mulV
    rw [getD_set_ne _ _ _ _ (by omega), ih (by omega)]
theorem mulV_drop (x : List Int) (y r : Nat) (L : List Int) (i j : Nat) (h : i ≤ j) : (mulV x y r L i).1.drop j = L.drop j := by
  induction i with
  | zero => rfl
  | succ i ih =>
    unfold mulV
    rw [List.drop_set_of_lt (by omega), ih (by omega)]
theorem mulV_ok (x : List Int) (y r : Nat) {L : List Int} (h : L64.Ok L) (i : Nat) : L64.Ok (mulV x y r L i).1 := by
  induction i with
  | zero => exact h
  | succ i ih =>
    unfold mulV
    exact L64.ok_set ih _ (Int.natCast_nonneg _) (by have := Nat.mod_lt ((x.getD i 0).toNat * y + (mulV x y r L i).2) (show 0 < 18446744073709551616 by omega); omega)
theorem step_val (V V2 P t w A X Y R : Nat) (h1 : V2 + 0 = V + P * (t % 18446744073709551616)) (h2 : V + P * A = X * Y + R) (h3 : t = w * Y + A) :
    V2 + P * 18446744073709551616 * (t / 18446744073709551616) = (X + P * w) * Y + R := by
  have h4 : P * (18446744073709551616 * (t / 18446744073709551616) + t % 18446744073709551616) = P * t := by rw [Nat.div_add_mod]
  rw [Nat.mul_add] at h4
  have h5 : P * t = P * (w * Y) + P * A := by rw [h3, Nat.mul_add]
  rw [Nat.add_mul, Nat.mul_assoc P w Y, Nat.mul_assoc]
  generalize P * (18446744073709551616 * (t / 18446744073709551616)) = a at *
  generalize P * (t % 18446744073709551616) = b at *
  generalize P * (w * Y) = c at *
  generalize P * A = d at *
  generalize P * t = e at *
  omega
theorem mulV_val (x : List Int) (y r c : Nat) (i : Nat) (h : i ≤ x.length) (hc : i ≤ c) :
    L64.val (mulV x y r (List.replicate c 0) i).1 + 18446744073709551616 ^ i * (mulV x y r (List.replicate c 0) i).2 = L64.val (x.take i) * y + r := by
  induction i with
  | zero =>
    show L64.val (List.replicate c 0) + 18446744073709551616 ^ 0 * r = 0 * y + r
    rw [L64.val_zeros, Nat.pow_zero, Nat.one_mul, Nat.zero_mul]
  | succ i ih =>
    have ih := ih (by omega) (by omega)
    have hs := L64.val_set (l := (mulV x y r (List.replicate c 0) i).1) (i := i) (by rw [mulV_len, List.length_replicate]; omega) (mulV_ok x y r (L64.ok_zeros c) i) ((((x.getD i 0).toNat * y + (mulV x y r (List.replicate c 0) i).2) % 18446744073709551616 : Nat) : Int)
    rw [mulV_out x y r _ i i (Nat.le_refl _), zeros_getD, Int.toNat_zero, Nat.mul_zero, Int.toNat_natCast] at hs
    rw [val_take_succ x i (by omega), Nat.pow_succ]
    unfold mulV
    exact step_val _ _ _ _ _ _ _ _ _ hs ih rfl
theorem mulWW_val (x : List Int) (y c : Nat) (hc : x.length < c) (hx : L64.Ok x) (hy : y < 18446744073709551616) :
    L64.Ok (((mulV x y 0 (List.replicate c 0) x.length).1.set x.length ((mulV x y 0 (List.replicate c 0) x.length).2 : Int)).take (x.length + 1)) ∧
    L64.val (((mulV x y 0 (List.replicate c 0) x.length).1.set x.length ((mulV x y 0 (List.replicate c 0) x.length).2 : Int)).take (x.length + 1)) = L64.val x * y := by
  have hv := mulV_val x y 0 c x.length (Nat.le_refl _) (by omega)
  have hok := mulV_ok x y 0 (L64.ok_zeros c) x.length
  have hlt := mulV_lt (r := 0) (List.replicate c 0) hx hy (by omega) x.length
  have hs := L64.val_set (l := (mulV x y 0 (List.replicate c 0) x.length).1) (i := x.length) (by rw [mulV_len, List.length_replicate]; omega) hok ((mulV x y 0 (List.replicate c 0) x.length).2 : Int)
  rw [mulV_out x y 0 _ x.length x.length (Nat.le_refl _), zeros_getD, Int.toNat_zero, Nat.mul_zero, Int.toNat_natCast, Nat.add_zero, hv, List.take_length, Nat.add_zero] at hs
  have hok2 := L64.ok_set hok x.length (v := ((mulV x y 0 (List.replicate c 0) x.length).2 : Int)) (Int.natCast_nonneg _) (by omega)
  refine ⟨fun z hz => hok2 z (List.mem_of_mem_take hz), ?_⟩
  have hsp := L64.val_split ((mulV x y 0 (List.replicate c 0) x.length).1.set x.length ((mulV x y 0 (List.replicate c 0) x.length).2 : Int)) (x.length + 1)
  rw [List.drop_set_of_lt (by omega), mulV_drop _ _ _ _ _ _ (by omega), List.drop_replicate, L64.val_zeros, Nat.mul_zero, Nat.add_zero, hs] at hsp
  exact hsp.symm
theorem addV_out (y : List Int) (m a off : Nat) (L : List Int) (i j : Nat) (h : off + i ≤ j ∨ j < off) : (addV y m a off L i).1.getD j 0 = L.getD j 0 := by
  induction i with
  | zero => rfl
  | succ i ih =>
    unfold addV
    rw [getD_set_ne _ _ _ _ (by omega), ih (by omega)]
theorem addV_drop (y : List Int) (m a off : Nat) (L : List Int) (i j : Nat) (h : off + i ≤ j) : (addV y m a off L i).1.drop j = L.drop j := by
  induction i with
  | zero => rfl
  | succ i ih =>
    unfold addV
    rw [List.drop_set_of_lt (by omega), ih (by omega)]
theorem step_val2 (V V2 V0 P Q t w o A X Y R : Nat) (h1 : V2 + P * Q * o = V + P * Q * (t % 18446744073709551616)) (h2 : V + P * Q * A = V0 + P * (X * Y) + R) (h3 : t = w * Y + o + A) :
    V2 + P * (Q * 18446744073709551616) * (t / 18446744073709551616) = V0 + P * ((X + Q * w) * Y) + R := by
  have h4 : P * Q * (18446744073709551616 * (t / 18446744073709551616) + t % 18446744073709551616) = P * Q * t := by rw [Nat.div_add_mod]
  rw [Nat.mul_add] at h4
  have h5 : P * Q * t = P * Q * (w * Y) + P * Q * o + P * Q * A := by rw [h3, Nat.mul_add, Nat.mul_add]
  rw [Nat.add_mul, Nat.mul_assoc Q w Y, Nat.mul_add, ← Nat.mul_assoc P Q (w * Y), ← Nat.mul_assoc P Q 18446744073709551616, Nat.mul_assoc (P * Q)]
  generalize P * Q * (18446744073709551616 * (t / 18446744073709551616)) = a at *
  generalize P * Q * (t % 18446744073709551616) = b at *
  generalize P * Q * (w * Y) = c at *
  generalize P * Q * A = d at *
  generalize P * Q * o = f at *
  generalize P * Q * t = e at *
  omega
theorem addV_val (y : List Int) (m a off : Nat) {L : List Int} (hL : L64.Ok L) (i : Nat) (h : i ≤ y.length) (hl : off + i ≤ L.length) :
    L64.val (addV y m a off L i).1 + 18446744073709551616 ^ off * 18446744073709551616 ^ i * (addV y m a off L i).2 = L64.val L + 18446744073709551616 ^ off * (L64.val (y.take i) * m) + 18446744073709551616 ^ off * a := by
  induction i with
  | zero =>
    show L64.val L + 18446744073709551616 ^ off * 18446744073709551616 ^ 0 * a = L64.val L + 18446744073709551616 ^ off * (0 * m) + 18446744073709551616 ^ off * a
    rw [Nat.pow_zero, Nat.mul_one, Nat.zero_mul, Nat.mul_zero, Nat.add_zero]
  | succ i ih =>
    have ih := ih (by omega) (by omega)
    have hs := L64.val_set (l := (addV y m a off L i).1) (i := off + i) (by rw [addV_len]; omega) (addV_ok y m a off hL i) ((((y.getD i 0).toNat * m + ((addV y m a off L i).1.getD (off + i) 0).toNat + (addV y m a off L i).2) % 18446744073709551616 : Nat) : Int)
    rw [Int.toNat_natCast, Nat.pow_add] at hs
    rw [val_take_succ y i (by omega), Nat.pow_succ]
    unfold addV
    exact step_val2 _ _ _ _ _ _ _ _ _ _ _ _ hs ih rfl
theorem bmul_out (x y : List Int) (L : List Int) (i j : Nat) (h : x.length + i ≤ j) : (bmul x y L i).getD j 0 = L.getD j 0 := by
  induction i with
  | zero => rfl
  | succ i ih =>
    unfold bmul
    split
    · exact ih (by omega)
    · rw [getD_set_ne _ _ _ _ (by omega), addV_out _ _ _ _ _ _ _ (.inl (by omega)), ih (by omega)]
theorem bmul_drop (x y : List Int) (L : List Int) (i j : Nat) (h : x.length + i ≤ j) : (bmul x y L i).drop j = L.drop j := by
  induction i with
  | zero => rfl
  | succ i ih =>
    unfold bmul
    split
    · exact ih (by omega)
    · rw [List.drop_set_of_lt (by omega), addV_drop _ _ _ _ _ _ _ (by omega), ih (by omega)]
theorem bmul_succ (x y L : List Int) (i : Nat) : bmul x y L (i + 1) = if y.getD i 0 = 0 then bmul x y L i else (addV x (y.getD i 0).toNat 0 i (bmul x y L i) x.length).1.set (x.length + i) ((addV x (y.getD i 0).toNat 0 i (bmul x y L i) x.length).2 : Int) := rfl
theorem bmul_val {x y : List Int} (hx : L64.Ok x) (hy : L64.Ok y) (c : Nat) (i : Nat) (h : i ≤ y.length) (hc : x.length + i ≤ c) : L64.val (bmul x y (List.replicate c 0) i) = L64.val x * L64.val (y.take i) := by
  induction i with
  | zero =>
    show L64.val (List.replicate c 0) = L64.val x * 0
    rw [L64.val_zeros, Nat.mul_zero]
  | succ i ih =>
    have ih := ih (by omega) (by omega)
    rw [val_take_succ y i (by omega), Nat.mul_add, ← ih, bmul_succ]
    split
    · rename_i h0
      rw [h0, Int.toNat_zero, Nat.mul_zero, Nat.mul_zero, Nat.add_zero]
    · have hok := bmul_ok hx hy (L64.ok_zeros c) i
      have hln := bmul_len x y (List.replicate c 0) i
      rw [List.length_replicate] at hln
      have ho := bmul_out x y (List.replicate c 0) i (x.length + i) (Nat.le_refl _)
      rw [zeros_getD] at ho
      obtain ⟨T, hT⟩ : ∃ T, bmul x y (List.replicate c 0) i = T := ⟨_, rfl⟩
      rw [hT] at hok hln ho ⊢
      have hv := addV_val x (y.getD i 0).toNat 0 i hok x.length (Nat.le_refl _) (by omega)
      have hs := L64.val_set (l := (addV x (y.getD i 0).toNat 0 i T x.length).1) (i := x.length + i) (by rw [addV_len]; omega) (addV_ok x _ 0 i hok _) ((addV x (y.getD i 0).toNat 0 i T x.length).2 : Int)
      rw [addV_out _ _ _ _ _ _ _ (.inl (by omega)), ho, Int.toNat_zero, Nat.mul_zero, Nat.add_zero, Int.toNat_natCast, Nat.add_comm x.length i, Nat.pow_add, hv, Nat.mul_zero, Nat.add_zero, List.take_length] at hs
      rw [Nat.add_comm x.length i, hs, Nat.mul_left_comm]
theorem bmul_all {x y : List Int} (hx : L64.Ok x) (hy : L64.Ok y) (c : Nat) (hc : x.length + y.length ≤ c) :
    L64.Ok ((bmul x y (List.replicate c 0) y.length).take (x.length + y.length)) ∧ L64.val ((bmul x y (List.replicate c 0) y.length).take (x.length + y.length)) = L64.val x * L64.val y := by
  have hok := bmul_ok hx hy (L64.ok_zeros c) y.length
  refine ⟨fun z hz => hok z (List.mem_of_mem_take hz), ?_⟩
  have hv := bmul_val hx hy c y.length (Nat.le_refl _) hc
  have hsp := L64.val_split (bmul x y (List.replicate c 0) y.length) (x.length + y.length)
  rw [bmul_drop _ _ _ _ _ (Nat.le_refl _), List.drop_replicate, L64.val_zeros, Nat.mul_zero, Nat.add_zero, hv, List.take_length] at hsp
  exact hsp.symm
end Go.Proofs.YtghabdpbacgicaaGreatDoor.Lm
