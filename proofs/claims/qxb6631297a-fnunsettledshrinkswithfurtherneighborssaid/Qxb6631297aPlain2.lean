/-
  THE PLAIN PART, MORE: the sum, the order and the number of bits of identifiers, byte by byte.
-/
import Derived.Test.Qxb6631297aPlain
namespace Go.Proofs.Qxb6631297a
open Go.RowKit

/-! ### a + b -/
def add (a b : Nat) : Nat := (a + b) % M128
theorem add_lt (a b : Nat) : add a b < M128 := Nat.mod_lt _ (by decide)
def car (a b k : Nat) : Nat := (a % 256 ^ k + b % 256 ^ k) / 256 ^ k
theorem car_bd (a b k : Nat) : car a b k ≤ 1 := by
  unfold car
  have hM : 0 < 256 ^ k := Nat.pow_pos (by decide)
  have h1 := Nat.mod_lt a hM
  have h2 := Nat.mod_lt b hM
  generalize 256 ^ k = M at *
  have : (a % M + b % M) / M < 2 := by rw [Nat.div_lt_iff_lt_mul hM]; omega
  omega
theorem car_zero (a b : Nat) : car a b 0 = 0 := by simp [car, Nat.mod_one]
theorem add_step (a b k : Nat) (hk : k < 16) : by8 (add a b) k = (by8 a k + by8 b k + car a b k) % 256 ∧ car a b (k + 1) = (by8 a k + by8 b k + car a b k) / 256 := by
  have hM : 0 < 256 ^ k := Nat.pow_pos (by decide)
  have hd : 256 ^ (k + 1) ∣ M128 := by rw [M128_eq]; exact Nat.pow_dvd_pow 256 (by omega)
  have e0 : by8 (add a b) k = (a + b) % 256 ^ (k + 1) / 256 ^ k := by
    have : add a b % 256 ^ (k + 1) = (a + b) % 256 ^ (k + 1) := by unfold add; rw [Nat.mod_mod_of_dvd _ hd]
    rw [← this, mod_succ, Nat.mul_comm, Nat.mul_add_div hM, Nat.div_eq_of_lt (Nat.mod_lt _ hM), Nat.add_zero]
  have e1 : (a + b) % 256 ^ (k + 1) / 256 ^ k = (a + b) / 256 ^ k % 256 := by
    rw [Nat.pow_succ, Nat.mod_mul_right_div_self]
  have e2 : (a + b) / 256 ^ k = a / 256 ^ k + b / 256 ^ k + car a b k := by
    unfold car
    have h1 := Nat.div_add_mod a (256 ^ k)
    have h2 := Nat.div_add_mod b (256 ^ k)
    generalize 256 ^ k = M at *
    have : a + b = M * (a / M + b / M) + (a % M + b % M) := by rw [Nat.mul_add]; omega
    rw [this, Nat.mul_add_div hM]
  constructor
  · rw [e0, e1, e2]; unfold by8; omega
  · have : car a b (k + 1) = (by8 a k * 256 ^ k + a % 256 ^ k + (by8 b k * 256 ^ k + b % 256 ^ k)) / (256 ^ k * 256) := by
      unfold car; rw [mod_succ, mod_succ, Nat.pow_succ]
    rw [this, ← Nat.div_div_eq_div_mul]
    congr 1
    unfold car
    generalize by8 a k = x
    generalize by8 b k = y
    generalize a % 256 ^ k = x0
    generalize b % 256 ^ k = y0
    generalize 256 ^ k = M at *
    have : x * M + x0 + (y * M + y0) = M * (x + y) + (x0 + y0) := by rw [Nat.mul_add, Nat.mul_comm x, Nat.mul_comm y]; omega
    rw [this, Nat.mul_add_div hM]

/-! ### the order -/
def cmp (a b : Nat) : Int := if a < b then -1 else if b < a then 1 else 0
theorem div_next (a m : Nat) : a / 256 ^ m = a / 256 ^ (m + 1) * 256 + by8 a m := by
  unfold by8
  rw [Nat.pow_succ, ← Nat.div_div_eq_div_mul]
  omega
theorem cmp_lt {a b m : Nat} (h : a / 256 ^ (m + 1) = b / 256 ^ (m + 1)) (h1 : by8 a m < by8 b m) : cmp a b = -1 := by
  have ea := div_next a m
  have eb := div_next b m
  have : a < b := by
    by_cases hlt : a < b
    · exact hlt
    · have := Nat.div_le_div_right (c := 256 ^ m) (Nat.not_lt.1 hlt)
      omega
  simp [cmp, this]
theorem cmp_swap (a b : Nat) : cmp a b = - cmp b a := by unfold cmp; repeat' split <;> omega
theorem cmp_gt {a b m : Nat} (h : a / 256 ^ (m + 1) = b / 256 ^ (m + 1)) (h1 : by8 b m < by8 a m) : cmp a b = 1 := by
  rw [cmp_swap, cmp_lt h.symm h1]; rfl
theorem div_eq_next {a b m : Nat} (h : a / 256 ^ (m + 1) = b / 256 ^ (m + 1)) (h1 : by8 a m = by8 b m) : a / 256 ^ m = b / 256 ^ m := by
  rw [div_next a m, div_next b m, h, h1]
theorem div_full {a : Nat} (h : a < M128) : a / 256 ^ 16 = 0 := by rw [← M128_eq]; exact Nat.div_eq_of_lt h

/-! ### the number of bits -/
def blen (n : Nat) : Nat := if n = 0 then 0 else Nat.log2 n + 1
theorem blen_le (n m : Nat) : m < blen n ↔ 2 ^ m ≤ n := by
  unfold blen
  by_cases h : n = 0
  · subst h
    have : 0 < 2 ^ m := Nat.pow_pos (by decide)
    simp
  · rw [if_neg h, Nat.lt_succ_iff, Nat.le_log2 h]
theorem blen_uniq (n m : Nat) (h : ∀ k, k < m ↔ 2 ^ k ≤ n) : blen n = m := by
  rcases Nat.lt_trichotomy (blen n) m with hlt | heq | hgt
  · have := (h (blen n)).1 hlt
    rw [← blen_le] at this; omega
  · exact heq
  · have := (blen_le n m).1 hgt
    rw [← h] at this; omega
theorem blen_half (v : Nat) (h : v ≠ 0) : blen (v / 2) + 1 = blen v := by
  symm
  refine blen_uniq v _ (fun k => ?_)
  match k with
  | 0 => simp; omega
  | k + 1 =>
    rw [Nat.add_lt_add_iff_right, blen_le, Nat.pow_succ, Nat.le_div_iff_mul_le (by decide)]
theorem blen_shift (n m : Nat) (h : n / 2 ^ m ≠ 0) : m + blen (n / 2 ^ m) = blen n := by
  symm
  refine blen_uniq n _ (fun k => ?_)
  have hp : 0 < 2 ^ m := Nat.pow_pos (by decide)
  by_cases hk : k < m
  · have h1 : 2 ^ m ≤ n := by
      have : 1 ≤ n / 2 ^ m := Nat.one_le_iff_ne_zero.2 h
      rw [Nat.le_div_iff_mul_le hp] at this; omega
    have h2 : 2 ^ k ≤ 2 ^ m := Nat.pow_le_pow_right (by decide) (by omega)
    constructor
    · intro _; omega
    · intro _; omega
  · obtain ⟨j, rfl⟩ : ∃ j, k = m + j := ⟨k - m, by omega⟩
    rw [Nat.add_lt_add_iff_left, blen_le, Nat.le_div_iff_mul_le hp, Nat.pow_add, Nat.mul_comm]
theorem blen_le_8 (v : Nat) (h : v < 256) : blen v ≤ 8 := by
  by_cases hc : 8 < blen v
  · rw [blen_le] at hc; omega
  · omega
theorem by8_top {n m : Nat} (h : n < 256 ^ (m + 1)) : by8 n m = n / 256 ^ m := by
  unfold by8
  rw [Nat.mod_eq_of_lt]
  rw [Nat.div_lt_iff_lt_mul (Nat.pow_pos (by decide)), Nat.mul_comm, ← Nat.pow_succ]; exact h
theorem lt_next {n m : Nat} (h : n < 256 ^ (m + 1)) (h0 : by8 n m = 0) : n < 256 ^ m := by
  rw [by8_top h] at h0
  by_cases hc : n < 256 ^ m
  · exact hc
  · have : 1 ≤ n / 256 ^ m := by rw [Nat.le_div_iff_mul_le (Nat.pow_pos (by decide))]; omega
    omega
theorem blen_byte {n m : Nat} (h : n < 256 ^ (m + 1)) (h0 : by8 n m ≠ 0) : m * 8 + blen (by8 n m) = blen n := by
  have e : (256 : Nat) ^ m = 2 ^ (m * 8) := by rw [Nat.mul_comm, Nat.pow_mul]
  rw [by8_top h] at h0 ⊢
  rw [e] at h0 ⊢
  exact blen_shift n (m * 8) h0
theorem blen_zero : blen 0 = 0 := rfl
theorem blen_M (n : Nat) (h : n < M128) : blen n ≤ 128 := by
  by_cases hc : 128 < blen n
  · rw [blen_le] at hc
    have : M128 = 2 ^ 128 := rfl
    omega
  · omega
end Go.Proofs.Qxb6631297a
