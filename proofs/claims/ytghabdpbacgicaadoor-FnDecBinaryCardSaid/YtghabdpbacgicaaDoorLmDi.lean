/-
  THE EXPONENT as four letters and back.
  A NUMBER's BYTES (nat.bytes): the buffer's lowest bytes last.
  BYTES READ BACK (nat.setBytes).
  THE THIN PACKAGE's digits: of a number's words, its text.
-/
import Derived.Test.YtghabdpbacgicaaDoorLmBit
import Derived.Test.YtghabdpbacgicaaDoorGFromB
import Derived.Test.YtghabdpbacgicaaDoorLmWh
import Derived.Test.YtghabdpbacgicaaDoorLb
import Derived.Test.YtghabdpbacgicaaDoorGBy
import Derived.Test.YtghabdpbacgicaaDoorGGob
import Derived.Test.YtghabdpbacgicaaDoorGSB
import Derived.Test.YtghabdpbacgicaaDoorGDi
namespace Go.Proofs.YtghabdpbacgicaaDoor.Lm
open Go.RowKit Go.Proofs.YtghabdpbacgicaaDoorW.PrintWords Go.Proofs.YtghabdpbacgicaaDoor.G
set_option linter.unusedVariables false

theorem ub4_of (v : Nat) (h : v < 4294967296) : ub4 ((v : Int) / 16777216 % 256) ((v : Int) / 65536 % 256) ((v : Int) / 256 % 256) ((v : Int) % 256) = (v : Int) := by
  have a0 : ((v : Int) % 256) % 4294967296 = ((v % 256 : Nat) : Int) := by omega
  have a1 : ((v : Int) / 256 % 256) % 4294967296 * 256 % 4294967296 = ((v / 256 % 256 * 2 ^ 8 : Nat) : Int) := by omega
  have a2 : ((v : Int) / 65536 % 256) % 4294967296 * 65536 % 4294967296 = ((v / 65536 % 256 * 2 ^ 16 : Nat) : Int) := by omega
  have a3 : ((v : Int) / 16777216 % 256) % 4294967296 * 16777216 % 4294967296 = ((v / 16777216 % 256 * 2 ^ 24 : Nat) : Int) := by omega
  have b1 := or32 (v % 256) (v / 256 % 256) 8 (by omega) (by omega)
  have b2 := or32 (v % 256 + v / 256 % 256 * 2 ^ 8) (v / 65536 % 256) 16 (by omega) (by omega)
  have b3 := or32 (v % 256 + v / 256 % 256 * 2 ^ 8 + v / 65536 % 256 * 2 ^ 16) (v / 16777216 % 256) 24 (by omega) (by omega)
  unfold ub4
  rw [a0, a1, a2, a3, b1, b2, b3]
  clear a0 a1 a2 a3 b1 b2 b3
  omega
/-- An exponent within the bounds, as 32 bits without a sign. -/
theorem exp_u32 (e : Int) (h0 : -400 ≤ e) (h1 : e ≤ 400) : ∃ v : Nat, IntKind.u32.wrap e = (v : Int) ∧ v < 4294967296 ∧ IntKind.i32.wrap (v : Int) = e := by
  refine ⟨(e % 4294967296).toNat, ?_, by omega, ?_⟩
  · simp [IntKind.wrap, IntKind.bits, IntKind.signed]
    omega
  · simp [IntKind.wrap, IntKind.bits, IntKind.signed]
    omega
end Go.Proofs.YtghabdpbacgicaaDoor.Lm
namespace Go.Proofs.YtghabdpbacgicaaDoor.Lm
open Go.RowKit Go.Proofs.YtghabdpbacgicaaDoorW.PrintWords Go.Proofs.YtghabdpbacgicaaDoorW.PrintMore Go.Proofs.YtghabdpbacgicaaDoor.S
set_option linter.unusedVariables false

/-- The p lowest bytes of n, the lowest one first. -/
def le (n p : Nat) : List Int := (List.range p).map fun j => ((n / 256 ^ j % 256 : Nat) : Int)
theorem le_succ (n p : Nat) : le n (p + 1) = le n p ++ [((n / 256 ^ p % 256 : Nat) : Int)] := by unfold le; rw [List.range_succ, List.map_append]; rfl
theorem le_len (n p : Nat) : (le n p).length = p := by unfold le; simp
/-- The buffer behind p bytes. -/
def bufB (n M p : Nat) : List Int := List.replicate (M - p) 0 ++ (le n p).reverse
theorem bufB_len (n M p : Nat) (h : p ≤ M) : (bufB n M p).length = M := by unfold bufB; rw [List.length_append, List.length_replicate, List.length_reverse, le_len]; omega
theorem bufB_set (n M p : Nat) (h : p < M) : (bufB n M p).set (M - p - 1) ((n / 256 ^ p % 256 : Nat) : Int) = bufB n M (p + 1) := by
  unfold bufB
  rw [le_succ, List.reverse_append, List.reverse_singleton, List.singleton_append]
  obtain ⟨m, hm⟩ : ∃ m, M - p = m + 1 := ⟨M - p - 1, by omega⟩
  rw [hm, show M - (p + 1) = m by omega, List.replicate_succ', List.append_assoc, Nat.add_sub_cancel, List.set_append_right _ _ (by simp), List.length_replicate, Nat.sub_self]
  rfl
theorem byte_of (m j : Nat) (hj : j < 8) : m % 18446744073709551616 / 256 ^ j % 256 = m / 256 ^ j % 256 := by
  have : j = 0 ∨ j = 1 ∨ j = 2 ∨ j = 3 ∨ j = 4 ∨ j = 5 ∨ j = 6 ∨ j = 7 := by omega
  rcases this with rfl | rfl | rfl | rfl | rfl | rfl | rfl | rfl <;> omega
theorem byte_at (n i j : Nat) (hj : j < 8) : n / 18446744073709551616 ^ i % 18446744073709551616 / 256 ^ j % 256 = n / 256 ^ (8 * i + j) % 256 := by
  rw [byte_of _ j hj, Nat.div_div_eq_div_mul, Nat.pow_add, Nat.pow_mul]
theorem by_l1 (n M i L : Nat) (x10 : List Int) (hM : 8 * i + 8 ≤ M) (hM2 : M ≤ 100000) (r : Int × List Int)
    (next : Ev (fun k => bigall_nat_bytes.l0 k (bufB n M (8 * i + 8)) ((M - (8 * i + 8) : Nat) : Int) x10 (L : Int) ((i + 1 : Nat) : Int)) r) (d : Nat) :
    ∀ j, j + d = 8 → Ev (fun k => bigall_nat_bytes.l1 k (bufB n M (8 * i + j)) ((M - (8 * i + j) : Nat) : Int) ((n / 18446744073709551616 ^ i % 18446744073709551616 / 256 ^ j : Nat) : Int) (j : Int) x10 (L : Int) (i : Int)) r := by
  induction d with
  | zero =>
    intro j hj
    obtain rfl : j = 8 := hj
    refine Ev.step ?_
    simp only [bigall_nat_bytes.l1]
    rw [w64s i (by omega)]
    exact Ev.neg (by omega) next
  | succ d ih =>
    intro j hj
    have h := ih (j + 1) (by omega)
    rw [← Nat.add_assoc, ← bufB_set n M (8 * i + j) (by omega), ← byte_at n i j (by omega), Nat.pow_succ, ← Nat.div_div_eq_div_mul] at h
    have hl := bufB_len n M (8 * i + j) (by omega)
    have e1 : wrap64 (((M - (8 * i + j) : Nat) : Int) - 1) = ((M - (8 * i + j) - 1 : Nat) : Int) := by rw [w64 (by omega) (by omega)]; omega
    refine Ev.step ?_
    simp only [bigall_nat_bytes.l1]
    rw [e1, w64s j (by omega), Int.toNat_natCast]
    clear e1
    generalize n / 18446744073709551616 ^ i % 18446744073709551616 / 256 ^ j = w at h ⊢
    rw [show (w : Int) % 256 = ((w % 256 : Nat) : Int) by omega, show (w : Int) / 256 = ((w / 256 : Nat) : Int) by omega]
    rw [show M - (8 * i + j + 1) = M - (8 * i + j) - 1 by omega] at h
    exact Ev.pos (by omega) (Ev.pos (by omega) (Ev.pos (by omega) (Ev.pos (by omega) h)))
theorem le_get (n p j : Nat) (h : j < p) : (le n p)[j]? = some ((n / 256 ^ j % 256 : Nat) : Int) := by unfold le; rw [List.getElem?_map, List.getElem?_range h]; rfl
theorem bufB_get (n M p t : Nat) (hp : p ≤ M) (h0 : M - p ≤ t) (h1 : t < M) : (bufB n M p).getD t 0 = ((n / 256 ^ (M - 1 - t) % 256 : Nat) : Int) := by
  unfold bufB
  rw [List.getD_eq_getElem?_getD, List.getElem?_append_right (by rw [List.length_replicate]; exact h0), List.length_replicate, List.getElem?_reverse (by rw [le_len]; omega), le_len, show p - 1 - (t - (M - p)) = M - 1 - t by omega, le_get _ _ _ (by omega)]
  rfl
theorem by_l2 (n M p q : Nat) (hp : p ≤ M) (hM2 : M ≤ 100000) (hq : q ≤ p) (hq1 : n < 256 ^ q) (hq2 : 0 < q → n / 256 ^ (q - 1) ≠ 0) (d : Nat) : ∀ t, t + d = M - q → M - p ≤ t → Ev (fun k => bigall_nat_bytes.l2 k (bufB n M p) (t : Int)) (((M - q : Nat) : Int), bufB n M p) := by
  have hl := bufB_len n M p hp
  induction d with
  | zero =>
    intro t ht h0
    obtain rfl : t = M - q := ht
    refine Ev.step ?_
    simp only [bigall_nat_bytes.l2]
    by_cases hz : q = 0
    · exact Ev.neg (by omega) (Ev.pure _)
    · have hg := bufB_get n M p (M - q) hp h0 (by omega)
      rw [show M - 1 - (M - q) = q - 1 by omega] at hg
      have hn0 := hq2 (by omega)
      have hlt : n / 256 ^ (q - 1) < 256 := by
        rw [show q = q - 1 + 1 by omega, Nat.pow_succ] at hq1
        exact Nat.div_lt_of_lt_mul hq1
      rw [rd_nat, hg]
      clear hg
      generalize n / 256 ^ (q - 1) = z at hn0 hlt
      exact Ev.pos (by omega) (Ev.pos (by omega) (Ev.neg (by omega) (Ev.pure _)))
  | succ d ih =>
    intro t ht h0
    refine Ev.step ?_
    simp only [bigall_nat_bytes.l2]
    have hg := bufB_get n M p t hp h0 (by omega)
    have hz : n / 256 ^ (M - 1 - t) = 0 := Nat.div_eq_of_lt (Nat.lt_of_lt_of_le hq1 (Nat.pow_le_pow_right (by omega) (by omega)))
    rw [hz] at hg
    rw [rd_nat, hg, w64s t (by omega)]
    exact Ev.pos (by omega) (Ev.pos (by omega) (Ev.pos (by rfl) (ih (t + 1) (by omega) (by omega))))
/-- How many bytes a number has. -/
def nby (n : Nat) : Nat := (L8.lim n).length
theorem bytes_some (n : Nat) (hL : (L64.lim n).length ≤ 1000) : nby n ≤ 8 * (L64.lim n).length ∧ Ev (fun k => bigall_nat_bytes.f k (L64.lim n) (List.replicate (1 + (L64.lim n).length * 8) 0)) (((1 + (L64.lim n).length * 8 - nby n : Nat) : Int), bufB n (1 + (L64.lim n).length * 8) (8 * (L64.lim n).length)) := by
  obtain ⟨L, hLL⟩ : ∃ L, (L64.lim n).length = L := ⟨_, rfl⟩
  obtain ⟨M, hM⟩ : ∃ M, 1 + L * 8 = M := ⟨_, rfl⟩
  have hq : nby n ≤ 8 * L := L8.len_le (by rw [Nat.pow_mul]; exact L64.lt_of_len (Nat.le_of_eq hLL))
  have hq1 : n < 256 ^ nby n := L8.lt_of_len (Nat.le_refl _)
  have hq2 : 0 < nby n → n / 256 ^ (nby n - 1) ≠ 0 := fun h => (L8.len_lim n (nby n - 1)).1 (by show _ < nby n; omega)
  rw [hLL] at hL ⊢
  rw [hM]
  refine ⟨hq, ?_⟩
  have loop : ∀ d i, i + d = L → Ev (fun k => bigall_nat_bytes.l0 k (bufB n M (8 * i)) ((M - 8 * i : Nat) : Int) (L64.lim n) (L : Int) (i : Int)) (((M - nby n : Nat) : Int), bufB n M (8 * L)) := by
    intro d
    induction d with
    | zero =>
      intro i hi
      obtain rfl : i = L := hi
      refine Ev.step ?_
      simp only [bigall_nat_bytes.l0]
      refine Ev.neg (by omega) (Ev.neg (by omega) (Ev.step ?_))
      simp only [bigall_nat_bytes.j2]
      exact by_l2 n M (8 * i) (nby n) (by omega) (by omega) hq hq1 hq2 (8 * i - nby n) (M - 8 * i) (by omega) (Nat.le_refl _)
    | succ d ih =>
      intro i hi
      refine Ev.step ?_
      simp only [bigall_nat_bytes.l0]
      have h := by_l1 n M i L (L64.lim n) (by omega) (by omega) _ (ih (i + 1) (by omega)) 8 0 (Nat.zero_add _)
      rw [Nat.pow_zero, Nat.div_one] at h
      rw [L64.rd_lim]
      exact Ev.pos (by omega) (Ev.pos (by omega) (Ev.pos (by omega) h))
  have h := loop L 0 (Nat.zero_add _)
  have hb : bufB n M (8 * 0) = List.replicate M 0 := by unfold bufB le; simp
  rw [hb] at h
  exact Ev.congr h (fun k => by unfold bigall_nat_bytes.f; rw [List.length_replicate, hLL]; rfl)
theorem le_take (n p q : Nat) (h : q ≤ p) : (le n p).take q = le n q := by
  unfold le; rw [← List.map_take, List.take_range, Nat.min_eq_left h]
theorem bufB_drop (n M p q : Nat) (hp : p ≤ M) (hq : q ≤ p) : (bufB n M p).drop (M - q) = (le n q).reverse := by
  unfold bufB
  rw [List.drop_append, List.drop_eq_nil_of_le (by rw [List.length_replicate]; omega), List.nil_append, List.length_replicate, ← le_take n p q hq, List.reverse_take, le_len]
  congr 1
  omega
theorem set_drop (l : List Int) (k : Nat) (a : Int) (h : k < l.length) : (l.set k a).drop k = a :: l.drop (k + 1) := by
  rw [List.drop_eq_getElem_cons (by rw [List.length_set]; exact h), List.getElem_set_self, List.drop_set_of_lt (Nat.lt_succ_self k)]
/-- What GobEncode writes of n: the sign, the bytes, the highest one first. -/
theorem gobB_is (b : Bool) (n M p q : Nat) (hp : p < M) (hq : q ≤ p) : G.gobB b (M - q) (bufB n M p) = (if b then 3 else 2) :: (le n q).reverse := by
  unfold G.gobB
  rw [set_drop _ _ _ (by rw [bufB_len _ _ _ (by omega)]; omega), show M - q - 1 + 1 = M - q by omega, bufB_drop n M p q (by omega) hq]
end Go.Proofs.YtghabdpbacgicaaDoor.Lm
namespace Go.Proofs.YtghabdpbacgicaaDoor.Lm
open Go.RowKit Go.Proofs.YtghabdpbacgicaaDoorW.PrintWords Go.Proofs.YtghabdpbacgicaaDoorW.PrintMore Go.Proofs.YtghabdpbacgicaaDoor.S
set_option linter.unusedVariables false

theorem be32_of (a b c d : Nat) (r : List Int) (ha : a < 256) (hb : b < 256) (hc : c < 256) (hd : d < 256) : bigall_beUint32.f ((a : Int) :: (b : Int) :: (c : Int) :: (d : Int) :: r) = some ((d + c * 2 ^ 8 + b * 2 ^ 16 + a * 2 ^ 24 : Nat) : Int) := by
  have a0 : (d : Int) % 4294967296 = ((d : Nat) : Int) := by omega
  have a1 : (c : Int) % 4294967296 * 256 % 4294967296 = ((c * 2 ^ 8 : Nat) : Int) := by omega
  have a2 : (b : Int) % 4294967296 * 65536 % 4294967296 = ((b * 2 ^ 16 : Nat) : Int) := by omega
  have a3 : (a : Int) % 4294967296 * 16777216 % 4294967296 = ((a * 2 ^ 24 : Nat) : Int) := by omega
  have b1 := or32 d c 8 (by omega) (by omega)
  have b2 := or32 (d + c * 2 ^ 8) b 16 (by omega) (by omega)
  have b3 := or32 (d + c * 2 ^ 8 + b * 2 ^ 16) a 24 (by omega) (by omega)
  have hl : (((a : Int) :: (b : Int) :: (c : Int) :: (d : Int) :: r).length : Int) = (r.length : Int) + 4 := by simp; omega
  unfold bigall_beUint32.f
  rw [hl, if_pos (by omega), if_pos (by omega), if_pos (by omega), if_pos (by omega)]
  show some (Go.bits .or .u32 (Go.bits .or .u32 (Go.bits .or .u32 ((d : Int) % 4294967296) ((c : Int) % 4294967296 * 256 % 4294967296)) ((b : Int) % 4294967296 * 65536 % 4294967296)) ((a : Int) % 4294967296 * 16777216 % 4294967296)) = _
  rw [a0, a1, a2, a3, b1, b2, b3]
theorem four_of (n : Nat) : n % 256 + n / 256 % 256 * 2 ^ 8 + n / 65536 % 256 * 2 ^ 16 + n / 16777216 % 256 * 2 ^ 24 = n % 4294967296 := by omega
theorem pair_of (u v : Nat) (hul : u < 4294967296) (hvl : v < 4294967296) : Go.bits .or .u64 (IntKind.u64.wrap (IntKind.u64.wrap (u : Int) * 4294967296)) (IntKind.u64.wrap (v : Int)) = ((v + 4294967296 * u : Nat) : Int) := by
  rw [show IntKind.u64.wrap (u : Int) = (u : Int) from wu64 (by omega) (by omega), show IntKind.u64.wrap (v : Int) = (v : Int) from wu64 (by omega) (by omega), u64_32 u hul]
  exact or_w' v u hvl hul
theorem bind_of {α β : Type} {x : Option α} {f : α → Option β} {y : α} {r : Option β} (h : x = some y) (h2 : f y = r) : x.bind f = r := by subst h; exact h2
theorem be64_of (l : List Int) (u v : Int) (h7 : 7 < (l.length : Int)) (h4 : 4 ≤ (l.length : Int)) (h1 : bigall_beUint32.f l = some u) (h2 : bigall_beUint32.f (l.drop 4) = some v) :
    bigall_bigEndianWord.f l = some (Go.bits .or .u64 (IntKind.u64.wrap (IntKind.u64.wrap u * 4294967296)) (IntKind.u64.wrap v)) := by
  unfold bigall_bigEndianWord.f bigall_beUint64.f
  rw [if_pos h7]
  exact bind_of (bind_of h1 ((if_pos h4).trans (bind_of h2 rfl))) rfl
theorem word_of8 (a b c d e f g h : Nat) (u v : Nat) (ha : a < 256) (hb : b < 256) (hc : c < 256) (hd : d < 256) (he : e < 256) (hf : f < 256) (hg : g < 256) (hh : h < 256)
    (hu : d + c * 2 ^ 8 + b * 2 ^ 16 + a * 2 ^ 24 = u) (hv : h + g * 2 ^ 8 + f * 2 ^ 16 + e * 2 ^ 24 = v) :
    bigall_bigEndianWord.f [(a : Int), (b : Int), (c : Int), (d : Int), (e : Int), (f : Int), (g : Int), (h : Int)] = some ((v + 4294967296 * u : Nat) : Int) := by
  have h1 := be32_of a b c d [(e : Int), (f : Int), (g : Int), (h : Int)] ha hb hc hd
  have h2 := be32_of e f g h [] he hf hg hh
  rw [hu] at h1
  rw [hv] at h2
  have hul : u < 4294967296 := by clear h1 h2; omega
  have hvl : v < 4294967296 := by clear h1 h2; omega
  clear hu hv
  rw [← pair_of u v hul hvl]
  exact be64_of _ u v (by simp) (by simp) h1 h2
theorem le8 (n : Nat) : (le n 8).reverse = [((n / 72057594037927936 % 256 : Nat) : Int), ((n / 281474976710656 % 256 : Nat) : Int), ((n / 1099511627776 % 256 : Nat) : Int), ((n / 4294967296 % 256 : Nat) : Int), ((n / 16777216 % 256 : Nat) : Int), ((n / 65536 % 256 : Nat) : Int), ((n / 256 % 256 : Nat) : Int), ((n % 256 : Nat) : Int)] := by
  simp only [le, List.range_succ, List.range_zero, List.nil_append, List.cons_append, List.map_cons, List.map_nil, List.reverse_cons, List.reverse_nil, Nat.reducePow, Nat.div_one]
theorem word_of (n : Nat) : bigall_bigEndianWord.f ((le n 8).reverse) = some ((n % 18446744073709551616 : Nat) : Int) := by
  have f1 : n / 4294967296 % 256 + n / 1099511627776 % 256 * 2 ^ 8 + n / 281474976710656 % 256 * 2 ^ 16 + n / 72057594037927936 % 256 * 2 ^ 24 = n / 4294967296 % 4294967296 := by
    have := four_of (n / 4294967296)
    rw [Nat.div_div_eq_div_mul, Nat.div_div_eq_div_mul, Nat.div_div_eq_div_mul] at this
    simp only [Nat.reduceMul] at this
    exact this
  have h := word_of8 _ _ _ _ _ _ _ _ _ _ (Nat.mod_lt _ (by omega)) (Nat.mod_lt _ (by omega)) (Nat.mod_lt _ (by omega)) (Nat.mod_lt _ (by omega)) (Nat.mod_lt _ (by omega)) (Nat.mod_lt _ (by omega)) (Nat.mod_lt _ (by omega)) (Nat.mod_lt _ (by omega)) f1 (four_of n)
  rw [le8, h]
  clear h f1
  rw [show n % 4294967296 + 4294967296 * (n / 4294967296 % 4294967296) = n % 18446744073709551616 by omega]
theorem le_add (n a b : Nat) : le n (a + b) = le n a ++ le (n / 256 ^ a) b := by
  induction b with
  | zero => simp [le]
  | succ b ih => rw [← Nat.add_assoc, le_succ, ih, le_succ, List.append_assoc, Nat.div_div_eq_div_mul, Nat.pow_add]
theorem cut_le (n q j : Nat) (h : 8 * j + 8 ≤ q) : ((le n q).reverse.take (q - 8 * j)).drop (q - 8 * j - 8) = (le (n / 256 ^ (8 * j)) 8).reverse := by
  obtain ⟨r, hr⟩ : ∃ r, q = 8 * j + (8 + r) := ⟨q - 8 * j - 8, by omega⟩
  subst hr
  rw [show 8 * j + (8 + r) - 8 * j = 8 + r by omega, show 8 + r - 8 = r by omega, le_add, le_add, List.reverse_append, List.reverse_append, List.take_left' (by simp [le_len]; omega), List.drop_left' (by simp [le_len])]
/-- The j lowest words of n. -/
def ws (n j : Nat) : List Int := (List.range j).map fun i => ((n / 18446744073709551616 ^ i % 18446744073709551616 : Nat) : Int)
theorem ws_succ (n p : Nat) : ws n (p + 1) = ws n p ++ [((n / 18446744073709551616 ^ p % 18446744073709551616 : Nat) : Int)] := by unfold ws; rw [List.range_succ, List.map_append]; rfl
theorem ws_len (n p : Nat) : (ws n p).length = p := by unfold ws; simp
theorem ws_ok (n p : Nat) : L64.Ok (ws n p) := by
  intro x hx
  unfold ws at hx
  obtain ⟨i, hi, rfl⟩ := List.mem_map.1 hx
  have := Nat.mod_lt (n / 18446744073709551616 ^ i) (show 0 < 18446744073709551616 by omega)
  omega
theorem ws_val (n j : Nat) : L64.val (ws n j) = n % 18446744073709551616 ^ j := by
  induction j with
  | zero => rw [Nat.pow_zero, Nat.mod_one]; rfl
  | succ j ih => rw [ws_succ, L64.val_snoc, ih, ws_len, Int.toNat_natCast, Nat.mod_pow_succ]
/-- The word row behind j words. -/
def zW (n W j : Nat) : List Int := ws n j ++ List.replicate (W - j) 0
theorem zW_len (n W j : Nat) (h : j ≤ W) : (zW n W j).length = W := by unfold zW; rw [List.length_append, List.length_replicate, ws_len]; omega
theorem zW_ok (n W j : Nat) : L64.Ok (zW n W j) := L64.ok_append (ws_ok n j) (L64.ok_zeros _)
theorem zW_val (n W j : Nat) : L64.val (zW n W j) = n % 18446744073709551616 ^ j := by unfold zW; rw [L64.val_append, L64.val_zeros, ws_val, Nat.mul_zero, Nat.add_zero]
theorem zW_put (n W j : Nat) (h : j < W) (x : Int) : (zW n W j).set j x = ws n j ++ x :: List.replicate (W - (j + 1)) 0 := by
  unfold zW
  obtain ⟨m, hm⟩ : ∃ m, W - j = m + 1 := ⟨W - j - 1, by omega⟩
  rw [hm, show W - (j + 1) = m by omega, List.set_append_right _ _ (by rw [ws_len]; omega), ws_len, Nat.sub_self]
  rfl
theorem zW_set (n W j : Nat) (h : j < W) : (zW n W j).set j ((n / 18446744073709551616 ^ j % 18446744073709551616 : Nat) : Int) = zW n W (j + 1) := by
  rw [zW_put n W j h]
  unfold zW
  rw [ws_succ, List.append_assoc]
  rfl
theorem pow8 (j : Nat) : (256 : Nat) ^ (8 * j) = 18446744073709551616 ^ j := by rw [Nat.pow_mul]
theorem or_byte (m t : Nat) (ht : t < 8) : Go.bits .or .u64 ((m % 256 ^ t : Nat) : Int) (shl .u64 (IntKind.u64.wrap ((m / 256 ^ t % 256 : Nat) : Int)) (8 * t : Nat)) = ((m % 256 ^ (t + 1) : Nat) : Int) := by
  have e : (256 : Nat) ^ t = 2 ^ (8 * t) := (Nat.pow_mul 2 8 t).symm
  have hp : 2 ^ (8 * t) ≤ 2 ^ 56 := Nat.pow_le_pow_right (by omega) (by omega)
  have hp0 : 0 < 2 ^ (8 * t) := Nat.pow_pos (by omega)
  have h1 := Nat.mod_pow_succ (b := 256) (k := t) (x := m)
  rw [h1, e]
  have h0 := Nat.mod_lt m hp0
  have h2 := Nat.mod_lt (m / 2 ^ (8 * t)) (show 0 < 256 by omega)
  clear h1 e
  generalize m % 2 ^ (8 * t) = a at h0 ⊢
  generalize m / 2 ^ (8 * t) % 256 = x at h2 ⊢
  have h3 : x * 2 ^ (8 * t) ≤ 255 * 2 ^ 56 := Nat.mul_le_mul (by omega) hp
  have h4 : a + x * 2 ^ (8 * t) < 18446744073709551616 := by omega
  unfold shl
  rw [show IntKind.u64.wrap (x : Int) = (x : Int) from wu64 (by omega) (by omega), Int.toNat_natCast, show min (8 * t) IntKind.u64.bits = 8 * t from Nat.min_eq_left (by show 8 * t ≤ 64; omega)]
  rw [show (x : Int) * 2 ^ (8 * t) = ((x * 2 ^ (8 * t) : Nat) : Int) by rw [Int.natCast_mul, Int.natCast_pow]; rfl, show IntKind.u64.wrap ((x * 2 ^ (8 * t) : Nat) : Int) = ((x * 2 ^ (8 * t) : Nat) : Int) from wu64 (by omega) (by omega)]
  rw [or64 a x (8 * t) h0 h4, Nat.mul_comm x]
theorem le_byte (n q i : Nat) (h : i < q) : rd ((le n q).reverse) ((q - 1 - i : Nat) : Int) = ((n / 256 ^ i % 256 : Nat) : Int) := by
  rw [rd_nat, List.getD_eq_getElem?_getD, List.getElem?_reverse (by rw [le_len]; omega), le_len, show q - 1 - (q - 1 - i) = i by omega, le_get _ _ _ h]
  rfl
theorem sb_l1 (n q W j u : Nat) (hu : q = 8 * j + u) (hu0 : 0 < u) (hu8 : u < 8) (hq : n < 256 ^ q) (hW : W = j + 1) (hq1 : q ≤ 100000) (d : Nat) :
    ∀ t, t + d = u → Ev (fun k => bigall_nat_setBytes.l1 k (zW n W j) (le n q).reverse ((u - t : Nat) : Int) ((n / 256 ^ (8 * j) % 256 ^ t : Nat) : Int) ((8 * t : Nat) : Int)) (L64.lim n) := by
  have hl := zW_len n W j (by omega)
  have hlb : (le n q).reverse.length = q := by rw [List.length_reverse, le_len]
  induction d with
  | zero =>
    intro t ht
    obtain rfl : t = u := ht
    have hm : n / 256 ^ (8 * j) < 256 ^ t := by
      refine Nat.div_lt_of_lt_mul ?_
      rw [← Nat.pow_add, ← hu]
      exact hq
    have hm2 : 256 ^ t ≤ 256 ^ 7 := Nat.pow_le_pow_right (by omega) (by omega)
    rw [Nat.mod_eq_of_lt hm]
    refine Ev.step ?_
    simp only [bigall_nat_setBytes.l1]
    rw [hl, show wrap64 ((W : Int) - 1) = ((j : Nat) : Int) by rw [w64 (by omega) (by omega)]; omega, Int.toNat_natCast, zW_put n W j (by omega), show W - (j + 1) = 0 by omega]
    refine Ev.neg (by omega) (Ev.pos (by omega) (Ev.pos (by omega) (Ev.bind ?_ (Ev.pure _))))
    have hok : L64.Ok (ws n j ++ [((n / 256 ^ (8 * j) : Nat) : Int)]) := L64.ok_snoc (ws_ok n j) (Int.natCast_nonneg _) (by clear hq; generalize n / 256 ^ (8 * j) = y at hm ⊢; omega)
    have hv : L64.val (ws n j ++ [((n / 256 ^ (8 * j) : Nat) : Int)]) = n := by
      rw [L64.val_snoc, ws_val, ws_len, Int.toNat_natCast, pow8]
      exact Nat.mod_add_div _ _
    have h := norm64 _ hok (by rw [List.length_append, ws_len]; simp; omega)
    rw [hv] at h
    exact h
  | succ d ih =>
    intro t ht
    have h := ih (t + 1) (by omega)
    have hb := le_byte n q (8 * j + t) (by omega)
    rw [Nat.pow_add, ← Nat.div_div_eq_div_mul] at hb
    rw [← or_byte _ t (by omega), ← hb] at h
    refine Ev.step ?_
    simp only [bigall_nat_setBytes.l1]
    rw [hlb, show wrap64 (((u - t : Nat) : Int) - 1) = ((u - (t + 1) : Nat) : Int) by rw [w64 (by omega) (by omega)]; omega, show IntKind.u64.wrap (((8 * t : Nat) : Int) + 8) = ((8 * (t + 1) : Nat) : Int) by rw [wu64 (by omega) (by omega)]; omega]
    rw [show q - 1 - (8 * j + t) = u - (t + 1) by omega] at h
    exact Ev.pos (by omega) (Ev.pos (by omega) (Ev.pos (by omega) (Ev.pos (by omega) h)))
theorem setBytes_some (n q : Nat) (hq : n < 256 ^ q) (hq1 : q ≤ 100000) : Ev (fun k => bigall_nat_setBytes.f k [] ((le n q).reverse)) (L64.lim n) := by
  obtain ⟨W, hW⟩ : ∃ W, (q + 7) / 8 = W := ⟨_, rfl⟩
  have hlb : (le n q).reverse.length = q := by rw [List.length_reverse, le_len]
  have loop : ∀ d j, d + j = q / 8 → Ev (fun k => bigall_nat_setBytes.l0 k (zW n W j) (le n q).reverse ((q - 8 * j : Nat) : Int) (j : Int)) (L64.lim n) := by
    intro d
    induction d with
    | zero =>
      intro j hj
      refine Ev.step ?_
      simp only [bigall_nat_setBytes.l0]
      by_cases hz : q - 8 * j = 0
      · have hj2 : 8 * j = q := by omega
        refine Ev.neg (by omega) (Ev.neg (by omega) (Ev.bind ?_ (Ev.pure _)))
        have h := norm64 (zW n W j) (zW_ok n W j) (by rw [zW_len n W j (by omega)]; omega)
        rw [zW_val, ← pow8, hj2, Nat.mod_eq_of_lt hq] at h
        exact h
      · refine Ev.neg (by omega) (Ev.pos (by omega) ?_)
        have h := sb_l1 n q W j (q - 8 * j) (by omega) (by omega) (by omega) hq (by omega) hq1 (q - 8 * j) 0 (Nat.zero_add _)
        rw [Nat.pow_zero, Nat.mod_one] at h
        exact h
    | succ d ih =>
      intro j hj
      have h := ih (j + 1) (by omega)
      have hc := cut_le n q j (by omega)
      have hw := word_of (n / 256 ^ (8 * j))
      rw [pow8] at hw hc
      rw [← zW_set n W j (by omega)] at h
      refine Ev.step ?_
      simp only [bigall_nat_setBytes.l0]
      rw [hlb, show wrap64 (((q - 8 * j : Nat) : Int) - 8) = ((q - 8 * j - 8 : Nat) : Int) by rw [w64 (by omega) (by omega)]; omega, Int.toNat_natCast, Int.toNat_natCast, hc, hw, w64s j (by omega), zW_len n W j (by omega), Int.toNat_natCast]
      rw [show q - 8 * (j + 1) = q - 8 * j - 8 by omega] at h
      exact Ev.pos (by omega) (Ev.pos (by omega) (Ev.pos (by omega) (Ev.pos (by omega) (Ev.pos (by omega) h))))
  have h := loop (q / 8) 0 (Nat.add_zero _)
  refine Ev.congr h (fun k => ?_)
  unfold bigall_nat_setBytes.f bigall_nat_make.f
  rw [hlb, show wrap64 (wrap64 ((q : Int) + 8) - 1) = ((q + 7 : Nat) : Int) by rw [w64 (i := (q : Int) + 8) (by omega) (by omega), w64 (by omega) (by omega)]; omega]
  rw [show wrap64 (Int.tdiv ((q + 7 : Nat) : Int) 8) = ((W : Nat) : Int) by rw [Int.tdiv_eq_ediv_of_nonneg (by omega), w64 (by omega) (by omega)]; omega, if_pos (by omega), Int.toNat_natCast, if_pos (by omega)]
  rfl
end Go.Proofs.YtghabdpbacgicaaDoor.Lm
namespace Go.Proofs.YtghabdpbacgicaaDoor.Lm
open Go.RowKit Go.Proofs.YtghabdpbacgicaaDoorW.PrintWords Go.Proofs.YtghabdpbacgicaaDoorW.PrintMore Go.Proofs.YtghabdpbacgicaaDoor.S
set_option linter.unusedVariables false

theorem di_rev (x : List Int) (hL : x.length < 9223372036854775807) (d : Nat) : ∀ (t : Nat) (y : List Int), d = x.length - 2 * t → 2 * t ≤ x.length + 1 → y.length = x.length →
    (∀ p, p < x.length → y.getD p 0 = if p < t ∨ x.length - t ≤ p then x.getD (x.length - 1 - p) 0 else x.getD p 0) →
    Ev (fun k => impl_digits.l5 k y (t : Int) ((x.length : Int) - 1 - (t : Int))) (strOfNums x.reverse) := by
  induction d using Nat.strongRecOn with
  | _ d ih =>
    intro t y hd ht hy hp
    refine Ev.step ?_
    simp only [impl_digits.l5]
    by_cases h : 2 * t + 1 < x.length
    · obtain ⟨j, hj⟩ : ∃ j : Nat, (x.length : Int) - 1 - (t : Int) = (j : Int) := ⟨x.length - 1 - t, by omega⟩
      have hj' : j = x.length - 1 - t := by omega
      rw [hj]
      refine Ev.pos (by omega) (Ev.pos (by omega) (Ev.pos (by omega) (Ev.pos (by omega) (Ev.pos (by omega) ?_))))
      have e1 : wrap64 ((t : Int) + 1) = ((t + 1 : Nat) : Int) := by rw [w64 (by omega) (by omega)]; omega
      have e2 : wrap64 ((j : Int) - 1) = (x.length : Int) - 1 - ((t + 1 : Nat) : Int) := by rw [w64 (by omega) (by omega)]; omega
      rw [e1, e2, Int.toNat_natCast, Int.toNat_natCast]
      refine ih (x.length - 2 * (t + 1)) (by omega) (t + 1) _ rfl (by omega) (by simp [hy]) (fun p hpl => ?_)
      have r1 : rd y (j : Int) = x.getD j 0 := by
        unfold rd; rw [Int.toNat_natCast, hp j (by omega), if_neg (by omega)]
      have r2 : rd y (t : Int) = x.getD t 0 := by
        unfold rd; rw [Int.toNat_natCast, hp t (by omega), if_neg (by omega)]
      rw [r1, r2]
      have hpp := hp p hpl
      rw [List.getD_eq_getElem?_getD, List.getElem?_set, List.getElem?_set]
      by_cases c1 : j = p
      · subst c1
        rw [if_pos rfl, if_pos (by rw [List.length_set]; omega), if_pos (by omega)]
        rw [show x.length - 1 - j = t by omega]; rfl
      · rw [if_neg c1]
        by_cases c2 : t = p
        · subst c2
          rw [if_pos rfl, if_pos (by omega), if_pos (by omega), show x.length - 1 - t = j by omega]; rfl
        · rw [if_neg c2, ← List.getD_eq_getElem?_getD, hpp]
          by_cases c3 : p < t ∨ x.length - t ≤ p
          · rw [if_pos c3, if_pos (by omega)]
          · rw [if_neg c3, if_neg (by omega)]
    · refine Ev.neg (by omega) ?_
      have : y = x.reverse := by
        apply List.ext_getElem (by simp [hy])
        intro p h1 h2
        have h3 := hp p (by omega)
        rw [List.getD_eq_getElem?_getD, List.getElem?_eq_getElem h1] at h3
        rw [List.getElem_reverse]
        have h4 : y[p] = x.getD (x.length - 1 - p) 0 := by
          show (some y[p]).getD 0 = _
          rw [h3]
          by_cases c3 : p < t ∨ x.length - t ≤ p
          · rw [if_pos c3]
          · rw [if_neg c3, show x.length - 1 - p = p by omega]
        rw [h4, List.getD_eq_getElem?_getD, List.getElem?_eq_getElem (by omega)]; rfl
      rw [this]
      exact Ev.pure _
theorem di_j6 (x : List Int) (h0 : 0 < x.length) (hL : x.length < 9223372036854775807) : Ev (fun k => impl_digits.j6 k x) (strOfNums x.reverse) := by
  refine Ev.step ?_
  simp only [impl_digits.j6]
  rw [w64 (by omega) (by omega)]
  have := di_rev x hL _ 0 x rfl (by omega) rfl (fun p hp => by rw [if_neg (by omega)])
  simpa using this
theorem str_app (a b : List Int) : strOfNums (a ++ b) = strOfNums a ++ strOfNums b := by
  apply bytes_eq
  rw [ByteArray.toList_eq, ByteArray.toList_eq, ByteArray.data_append]
  unfold strOfNums
  simp
/-- Where no word is left. -/
theorem di_end (l0 : List Int) (b : Bool) (n : Nat) (hb : b = true → n ≠ 0) (hl : b = decide (0 < l0.length)) (hn : ndig n ≤ 10000) : Ev (fun k => impl_digits.l1 k l0 [] (revDig n)) (text b n) := by
  have hn' : (revDig n).length ≤ 10000 := hn
  refine Ev.step ?_
  simp only [impl_digits.l1]
  refine Ev.neg (by simp) ?_
  by_cases h0 : n = 0
  · subst h0
    rw [revDig_zero]
    have : b = false := by cases b with
      | true => exact absurd rfl (hb rfl)
      | false => rfl
    subst this
    exact Ev.pos rfl (Ev.pure _)
  · have hp : 0 < (revDig n).length := by rw [revDig_pos h0]; simp
    refine Ev.neg (by omega) ?_
    have hd : decimal n = strOfNums (revDig n).reverse := by unfold decimal; rw [if_neg h0]
    cases b with
    | true =>
      have h1 : 0 < l0.length := by simpa using hl
      have h := di_j6 (revDig n ++ [45]) (by rw [List.length_append]; omega) (by rw [List.length_append]; simp; omega)
      rw [List.reverse_append, str_app] at h
      have ht : text true n = (⟨#[45]⟩ : ByteArray) ++ decimal n := if_pos rfl
      rw [ht, hd]
      exact Ev.pos h1 (Ev.pos (by omega) h)
    | false =>
      have h1 : ¬ 0 < l0.length := by simpa using hl
      have ht : text false n = decimal n := if_neg (by simp)
      rw [ht, hd]
      exact Ev.neg h1 (di_j6 (revDig n) hp (by omega))
theorem digit_u (x : Nat) (hx : x < 1000000000) : (IntKind.u64.wrap (48 + (Int.tmod (x : Int) 10))) % 256 = ((48 + x % 10 : Nat) : Int) := by
  rw [Int.tmod_eq_emod_of_nonneg (by omega), wu64 (by omega) (by omega)]
  omega
theorem digit_d (x : Nat) (hx : x < 1000000000) : IntKind.u64.wrap (Int.tdiv (x : Int) 10) = ((x / 10 : Nat) : Int) := by
  rw [Int.tdiv_eq_ediv_of_nonneg (by omega), wu64 (by omega) (by omega)]
  omega
/-- Nine digits, or as many as there are. -/
theorem di_l4 (l0 : List Int) (s : ByteArray) (n i : Nat) (hn : ndig n ≤ 10000) (a : List Int) (ha : a = L32.lim (n / 1000000000 ^ (i + 1)))
    (K : Ev (fun k => impl_digits.l1 k l0 a ((revDig n).take (9 * (i + 1)))) s) (d : Nat) :
    ∀ q x, q + d = 9 → x = n / 1000000000 ^ i % 1000000000 / 10 ^ q → Ev (fun k => impl_digits.l4 k l0 a ((revDig n).take (9 * i + q)) (x : Int) (q : Int)) s := by
  have hn' : (revDig n).length ≤ 10000 := hn
  have hz : (a.length : Int) > 0 ↔ n / 1000000000 ^ (i + 1) ≠ 0 := by
    have := L32.len_zero (n := n / 1000000000 ^ (i + 1))
    rw [← ha] at this
    omega
  induction d with
  | zero =>
    intro q x hq hx
    obtain rfl : q = 9 := hq
    refine Ev.step ?_
    simp only [impl_digits.l4]
    exact Ev.neg (by omega) K
  | succ d ih =>
    intro q x hq hx
    have e9 : (1000000000 : Nat) = 10 ^ q * 10 ^ (d + 1) := by rw [← Nat.pow_add, show q + (d + 1) = 9 by omega]
    have hd : n / 10 ^ (9 * i + q) = n / 1000000000 ^ i / 10 ^ q := by
      rw [Nat.pow_add, ← Nat.div_div_eq_div_mul, Nat.pow_mul]
    have hx10 : x % 10 = n / 10 ^ (9 * i + q) % 10 := by
      rw [hd, hx]
      rw [show n / 1000000000 ^ i % 1000000000 = n / 1000000000 ^ i % (10 ^ q * 10 ^ (d + 1)) by rw [← e9], Nat.mod_mul_right_div_self, Nat.pow_succ, Nat.mul_comm (10 ^ d), Nat.mod_mul_right_mod]
    have hxs : x < 1000000000 := by
      rw [hx]; exact Nat.lt_of_le_of_lt (Nat.div_le_self _ _) (Nat.mod_lt _ (by omega))
    have hol : ((revDig n).take (9 * i + q)).length < 140737488355328 := Nat.lt_of_le_of_lt (Nat.le_trans (List.length_take_le' _ _) hn') (by omega)
    have hz1 : n / 10 ^ (9 * i + q) ≠ 0 ↔ 9 * i + q < (revDig n).length := (revDig_len n (9 * i + q)).symm
    have go : n / 10 ^ (9 * i + q) ≠ 0 → Ev (fun k => impl_digits.l4 k l0 a ((revDig n).take (9 * i + q) ++ [(IntKind.u64.wrap (48 + (Int.tmod (x : Int) 10))) % 256]) (IntKind.u64.wrap (Int.tdiv (x : Int) 10)) (wrap64 ((q : Int) + 1))) s := by
      intro hne
      have hlt := hz1.1 hne
      have h := ih (q + 1) (x / 10) (by omega) (by rw [hx, Nat.div_div_eq_div_mul, Nat.pow_succ])
      have g := revDig_get n _ hlt
      rw [List.getD_eq_getElem?_getD, List.getElem?_eq_getElem hlt, Option.getD_some] at g
      rw [show 9 * i + (q + 1) = 9 * i + q + 1 by omega, List.take_succ_eq_append_getElem hlt, g, ← hx10] at h
      rw [digit_u x hxs, digit_d x hxs, w64s q (by omega)]
      exact h
    refine Ev.step ?_
    simp only [impl_digits.l4]
    refine Ev.pos (by omega) ?_
    by_cases hx0 : x = 0
    · refine Ev.pos (by omega) ?_
      by_cases ha0 : n / 1000000000 ^ (i + 1) = 0
      · refine Ev.neg (fun h => hz.1 h ha0) ?_
        have hall : (revDig n).length ≤ 9 * i + q := by
          rcases Nat.lt_or_ge (9 * i + q) (revDig n).length with h | h
          · have h5 := hz1.2 h
            rw [hd] at h5
            rw [pow_succ_div] at ha0
            have h6 : n / 1000000000 ^ i < 1000000000 := by
              rcases Nat.lt_or_ge (n / 1000000000 ^ i) 1000000000 with h7 | h7
              · exact h7
              · have := Nat.div_pos h7 (by omega); omega
            rw [Nat.mod_eq_of_lt h6] at hx
            omega
          · exact h
        rw [List.take_of_length_le hall, ← List.take_of_length_le (l := revDig n) (i := 9 * (i + 1)) (by omega)]
        exact K
      · refine Ev.pos (hz.2 ha0) (Ev.pos hol (go ?_))
        rw [hd]
        intro h0
        apply ha0
        rw [pow_succ_div, show n / 1000000000 ^ i / 1000000000 = n / 1000000000 ^ i / (10 ^ q * 10 ^ (d + 1)) by rw [← e9], ← Nat.div_div_eq_div_mul, h0, Nat.zero_div]
    · refine Ev.neg (by omega) (Ev.pos hol (go ?_))
      rw [hd]
      intro h0
      have h4 := Nat.div_le_div_right (c := 10 ^ q) (Nat.mod_le (n / 1000000000 ^ i) 1000000000)
      omega
/-- The words without the zeros at their end. -/
theorem di_l3 (l0 out : List Int) (x : Int) (s : ByteArray) (m : Nat) (K : Ev (fun k => impl_digits.j4 k l0 (L32.lim m) out x) s) (d : Nat) :
    ∀ a : List Int, a.length = d → d ≤ 100000 → L32.Ok a → L32.val a = m → Ev (fun k => impl_digits.l3 k l0 a out x) s := by
  induction d with
  | zero =>
    intro a ha hd hok hv
    obtain rfl : a = [] := List.length_eq_zero_iff.1 ha
    refine Ev.step ?_
    simp only [impl_digits.l3]
    have : m = 0 := hv.symm
    rw [this, L32.lim_zero] at K
    exact Ev.neg (by simp) K
  | succ d ih =>
    intro a ha hd hok hv
    refine Ev.step ?_
    simp only [impl_digits.l3]
    rw [ha, show wrap64 (((d + 1 : Nat) : Int) - 1) = (d : Int) by rw [w64 (by omega) (by omega)]; omega, rd_nat]
    refine Ev.pos (by omega) (Ev.pos (by omega) (Ev.pos (by omega) ?_))
    have hsp := L32.val_split a d
    have hdr : L32.val (a.drop d) = (a.getD d 0).toNat := by
      rw [L32.val_drop (by omega), L32.val_drop_nil (by omega)]; rfl
    rw [hdr] at hsp
    by_cases h0 : a.getD d 0 = 0
    · refine Ev.pos h0 (Ev.pos (by omega) ?_)
      rw [Int.toNat_natCast]
      rw [h0, Int.toNat_zero, Nat.mul_zero, Nat.add_zero] at hsp
      exact ih (a.take d) (by rw [List.length_take]; omega) (by omega) (fun y hy => hok y (List.mem_of_mem_take hy)) (by rw [← hsp]; exact hv)
    · refine Ev.neg h0 ?_
      have := L32.lim_val hok (fun y hy => by
        rw [List.getLast?_eq_getElem?, ha, Nat.add_sub_cancel] at hy
        rw [List.getD_eq_getElem?_getD, hy] at h0
        exact h0)
      rw [this, hv]
      exact K
theorem or_word (r w : Nat) (hr : r < 1000000000) (hw : w < 4294967296) : Go.bits .or .u64 (IntKind.u64.wrap ((r : Int) * 4294967296)) (w : Int) = ((w + 4294967296 * r : Nat) : Int) := by
  rw [u64_32 r (by omega)]
  exact or_w' w r hw (by omega)
theorem di_step (H w q r : Nat) (hH : 1000000000 * q + r = H) (hr : r < 1000000000) : (w + 4294967296 * H) / 1000000000 = (w + 4294967296 * r) / 1000000000 + 4294967296 * q ∧ (w + 4294967296 * H) % 1000000000 = (w + 4294967296 * r) % 1000000000 := by
  subst hH
  omega
theorem val_set0 (l : List Int) (v : Int) (j : Nat) : j < l.length → L32.val ((l.set j v).drop j) = v.toNat + 4294967296 * L32.val (l.drop (j + 1)) := by
  intro h
  rw [List.drop_eq_getElem_cons (by rw [List.length_set]; exact h), List.getElem_set_self, List.drop_set_of_lt (Nat.lt_succ_self j)]; rfl
/-- One round of division by a billion. -/
theorem di_l2 (l0 out : List Int) (s : ByteArray) (a : List Int) (hok : L32.Ok a) (hl : a.length ≤ 100000)
    (K : ∀ c : List Int, c.length = a.length → L32.Ok c → L32.val c = L32.val a / 1000000000 → Ev (fun k => impl_digits.l3 k l0 c out ((L32.val a % 1000000000 : Nat) : Int)) s) (d : Nat) :
    ∀ c : List Int, d ≤ a.length → c.length = a.length → L32.Ok c → c.take d = a.take d → L32.val (c.drop d) = L32.val (a.drop d) / 1000000000 →
      Ev (fun k => impl_digits.l2 k l0 c out ((L32.val (a.drop d) % 1000000000 : Nat) : Int) ((d : Int) - 1)) s := by
  induction d with
  | zero =>
    intro c hd hc hokc ht hv
    refine Ev.step ?_
    simp only [impl_digits.l2]
    rw [List.drop_zero, List.drop_zero] at hv
    have h := K c hc hokc hv
    rw [List.drop_zero]
    exact Ev.neg (by omega) h
  | succ d ih =>
    intro c hd hc hokc ht hv
    have hcd : c.getD d 0 = a.getD d 0 := by
      rw [List.getD_eq_getElem?_getD, List.getD_eq_getElem?_getD]
      have h1 : (c.take (d + 1))[d]? = c[d]? := List.getElem?_take_of_lt (Nat.lt_succ_self d)
      have h2 : (a.take (d + 1))[d]? = a[d]? := List.getElem?_take_of_lt (Nat.lt_succ_self d)
      rw [← h1, ← h2, ht]
    have hag := L32.ok_get hok d
    obtain ⟨w, hw⟩ : ∃ w : Nat, a.getD d 0 = (w : Int) := ⟨(a.getD d 0).toNat, by omega⟩
    have hwl : w < 4294967296 := by omega
    have hva := L32.val_drop (l := a) (i := d) (by omega)
    rw [hw, Int.toNat_natCast] at hva
    rw [hw] at hcd
    obtain ⟨H, hH⟩ : ∃ H, L32.val (a.drop (d + 1)) = H := ⟨_, rfl⟩
    rw [hH] at hva hv ⊢
    obtain ⟨hs1, hs2⟩ := di_step H w (H / 1000000000) (H % 1000000000) (Nat.div_add_mod H 1000000000) (Nat.mod_lt _ (by omega))
    have hr : H % 1000000000 < 1000000000 := Nat.mod_lt _ (by omega)
    refine Ev.step ?_
    simp only [impl_digits.l2]
    rw [show (((d + 1 : Nat) : Int) - 1) = (d : Int) by omega, rd_nat, hcd, or_word _ w hr hwl]
    have hq : (w + 4294967296 * (H % 1000000000)) / 1000000000 < 4294967296 := by clear ih K hs1 hs2 hva hv; omega
    rw [show IntKind.u64.wrap (Int.tdiv ((w + 4294967296 * (H % 1000000000) : Nat) : Int) 1000000000) = (((w + 4294967296 * (H % 1000000000)) / 1000000000 : Nat) : Int) by
        generalize w + 4294967296 * (H % 1000000000) = y at hq ⊢
        rw [Int.tdiv_eq_ediv_of_nonneg (by omega), wu64 (by omega) (by omega)]; omega,
      show Int.tmod ((w + 4294967296 * (H % 1000000000) : Nat) : Int) 1000000000 = (((w + 4294967296 * (H % 1000000000)) % 1000000000 : Nat) : Int) by
        generalize w + 4294967296 * (H % 1000000000) = y at hq ⊢
        rw [Int.tmod_eq_emod_of_nonneg (by omega)]; omega, ← hs2, ← hva, w64 (by omega) (by omega), Int.toNat_natCast]
    refine Ev.pos (by omega) (Ev.pos (by omega) (Ev.pos (by omega) (ih _ (by omega) (by rw [List.length_set]; exact hc) (L32.ok_set hokc d (by omega) (by omega)) ?_ ?_)))
    · rw [List.take_set_of_le (Nat.le_refl d)]
      have h1 := congrArg (List.take d) ht
      rw [List.take_take, List.take_take, Nat.min_eq_left (Nat.le_succ d)] at h1
      exact h1
    · rw [val_set0 _ _ _ (by omega), hv, Int.toNat_natCast, hva, hs1]
/-- All rounds. -/
theorem di_l1 (l0 : List Int) (b : Bool) (n : Nat) (hb : b = true → n ≠ 0) (hl : b = decide (0 < l0.length)) (hn : ndig n ≤ 10000) (m : Nat) : ∀ (i : Nat) (a : List Int), m = n / 1000000000 ^ i → L32.Ok a → L32.val a = m → a.length ≤ 100000 → (0 < a.length → m ≠ 0) →
    Ev (fun k => impl_digits.l1 k l0 a ((revDig n).take (9 * i))) (text b n) := by
  induction m using Nat.strongRecOn with
  | _ m ih =>
    intro i a hm hok hv ha h0
    by_cases hz : 0 < a.length
    · have hm0 := h0 hz
      have hlt : m / 1000000000 < m := Nat.div_lt_self (by omega) (by omega)
      have K := ih (m / 1000000000) hlt (i + 1) (L32.lim (m / 1000000000)) (by rw [hm, pow_succ_div]) (L32.ok_lim _) (L32.val_lim _)
      refine Ev.step ?_
      simp only [impl_digits.l1]
      refine Ev.pos (by omega) ?_
      rw [w64 (by omega) (by omega)]
      have hlen : (L32.lim (m / 1000000000)).length ≤ 100000 := by
        refine Nat.le_trans (L32.len_le (m := a.length) ?_) ha
        have := L32.val_lt hok
        rw [hv] at this
        omega
      have hK := K hlen (fun h => by
        have := L32.len_zero (n := m / 1000000000)
        omega)
      have h := di_l2 l0 ((revDig n).take (9 * i)) (text b n) a hok ha (fun c hc hokc hvc => by
        refine di_l3 l0 _ _ _ (m / 1000000000) ?_ c.length c rfl (by omega) hokc (by rw [hvc, hv])
        refine Ev.step ?_
        simp only [impl_digits.j4]
        have h4 := di_l4 l0 (text b n) n i hn (L32.lim (m / 1000000000)) (by rw [hm, pow_succ_div]) hK 9 0 (m % 1000000000) (Nat.zero_add _) (by rw [hm, Nat.pow_zero, Nat.div_one])
        rw [hv]
        exact h4) a.length a (Nat.le_refl _) rfl hok rfl (by rw [List.drop_length]; rfl)
      rw [List.drop_length, show ((L32.val [] % 1000000000 : Nat) : Int) = 0 from rfl] at h
      exact h
    · have ha0 : a = [] := List.length_eq_zero_iff.1 (by omega)
      subst ha0
      have hm1 : m = 0 := hv.symm
      have hall : (revDig n).length ≤ 9 * i := by
        rcases Nat.lt_or_ge (9 * i) (revDig n).length with h | h
        · have := (revDig_len n (9 * i)).1 h
          rw [Nat.pow_mul] at this
          exact absurd (hm.symm.trans hm1) this
        · exact h
      rw [List.take_of_length_le hall]
      exact di_end l0 b n hb hl hn
theorem halves (t : Nat) : t % 4294967296 + 4294967296 * (t / 4294967296) = t := Nat.mod_add_div t 4294967296
/-- The thin package's digits. -/
theorem digits_some (l0 : List Int) (b : Bool) (n : Nat) (hb : b = true → n ≠ 0) (hl : b = decide (0 < l0.length)) (hn : ndig n ≤ 10000) (hL : (L64.lim n).length ≤ 1000) : Ev (fun k => impl_digits.f k l0 (L64.lim n)) (text b n) := by
  obtain ⟨L, hLL⟩ : ∃ L, (L64.lim n).length = L := ⟨_, rfl⟩
  have loop : ∀ d i (a : List Int), i + d = L → L32.Ok a → a.length = 2 * i → L32.val a = n % 18446744073709551616 ^ i → Ev (fun k => impl_digits.l0 k l0 a (L64.lim n) (L : Int) (i : Int)) (text b n) := by
    intro d
    induction d with
    | zero =>
      intro i a hi hok ha hv
      obtain rfl : i = L := hi
      refine Ev.step ?_
      simp only [impl_digits.l0]
      have hlt : n < 18446744073709551616 ^ i := L64.lt_of_len (by omega)
      rw [Nat.mod_eq_of_lt hlt] at hv
      have h := di_l1 l0 b n hb hl hn n 0 a (by rw [Nat.pow_zero, Nat.div_one]) hok hv (by omega) (fun h h0 => by
        have := L64.len_zero (n := n)
        omega)
      exact Ev.neg (by omega) h
    | succ d ih =>
      intro i a hi hok ha hv
      have ht : n / 18446744073709551616 ^ i % 18446744073709551616 < 18446744073709551616 := Nat.mod_lt _ (by omega)
      have hps := Nat.mod_pow_succ (b := 18446744073709551616) (k := i) (x := n)
      refine Ev.step ?_
      simp only [impl_digits.l0]
      rw [L64.rd_lim]
      generalize n / 18446744073709551616 ^ i % 18446744073709551616 = t at ht hps ⊢
      have h := ih (i + 1) (a ++ [((t % 4294967296 : Nat) : Int), ((t / 4294967296 : Nat) : Int)]) (by omega)
        (L32.ok_append hok (fun x hx => by
          rcases List.mem_cons.1 hx with rfl | hx
          · omega
          · rcases List.mem_cons.1 hx with rfl | hx
            · omega
            · cases hx)) (by rw [List.length_append]; simp; omega)
        (by
          rw [L32.val_append, hv, ha, hps, Nat.pow_mul]
          show _ + _ * ((t % 4294967296 : Nat) + 4294967296 * ((t / 4294967296 : Nat) + 4294967296 * 0)) = _
          rw [Nat.mul_zero, Nat.add_zero, halves])
      rw [and32 t ht, show (t : Int) / 4294967296 = ((t / 4294967296 : Nat) : Int) by omega, w64s i (by omega)]
      exact Ev.pos (by omega) (Ev.pos (by omega) (Ev.pos (by omega) (Ev.pos (by simp; omega) h)))
  have h := loop L 0 [] (Nat.zero_add _) L32.ok_nil rfl (by rw [Nat.pow_zero, Nat.mod_one]; rfl)
  exact Ev.congr h (fun k => by unfold impl_digits.f; rw [hLL]; rfl)
end Go.Proofs.YtghabdpbacgicaaDoor.Lm
