/-
  THE PLAIN PART: an array of sixteen bytes is the number that it writes, the most significant byte first ('bs n'). No Go text is walked here.
-/
import Derived.WalkKit
import Derived.Laws.Rows
import Derived.Laws.Tables
namespace Go.Proofs.Qxb6631297a
open Go.RowKit

/-- The byte of weight 256^k. -/
def by8 (n k : Nat) : Nat := n / 256 ^ k % 256
theorem by8_lt (n k : Nat) : by8 n k < 256 := Nat.mod_lt _ (by decide)
def bl (n : Nat) : List Value := (List.range 16).map fun i => .int .u8 (by8 n (15 - i) : Int)
def bs (n : Nat) : Array Value := (bl n).toArray
theorem bl_length (n : Nat) : (bl n).length = 16 := by simp [bl]
theorem bs_size (n : Nat) : (bs n).size = 16 := by simp [bs, bl]
theorem bs_get (n j : Nat) (h : j < 16) : (bs n)[j]? = some (.int .u8 (by8 n (15 - j) : Int)) := by
  simp [bs, bl, h]
theorem bl_get (n j : Nat) (h : j < 16) : (bl n)[j]? = some (.int .u8 (by8 n (15 - j) : Int)) := by
  simp [bl, h]
theorem bs_zero : #[Value.int .u8 0, .int .u8 0, .int .u8 0, .int .u8 0, .int .u8 0, .int .u8 0, .int .u8 0, .int .u8 0, .int .u8 0, .int .u8 0, .int .u8 0, .int .u8 0, .int .u8 0, .int .u8 0, .int .u8 0, .int .u8 0] = bs 0 := by
  rfl
theorem bl_one (n : Nat) : ∀ v ∈ bl n, v.oneCell' = true := by
  intro v hv
  simp only [bl, List.mem_map] at hv
  obtain ⟨i, _, rfl⟩ := hv
  rfl
theorem bs_one (n : Nat) : (bs n).all (·.oneCell') = true :=
  Array.all_eq_true_iff_forall_mem.2 (fun v hv => bl_one n v (by simpa [bs] using hv))

theorem by8_mod_lo (D k j : Nat) (h : j < k) : by8 (D % 256 ^ k) j = by8 D j := by
  unfold by8
  obtain ⟨m, rfl⟩ : ∃ m, k = j + 1 + m := ⟨k - j - 1, by omega⟩
  rw [show 256 ^ (j + 1 + m) = 256 ^ j * (256 * 256 ^ m) by rw [Nat.pow_add, Nat.pow_succ, Nat.mul_assoc], Nat.mod_mul_right_div_self]
  exact Nat.mod_mul_right_mod _ _ _
theorem by8_mod_hi (D k j : Nat) (h : k ≤ j) : by8 (D % 256 ^ k) j = 0 := by
  unfold by8
  rw [Nat.div_eq_of_lt (Nat.lt_of_lt_of_le (Nat.mod_lt _ (Nat.pow_pos (by decide))) (Nat.pow_le_pow_right (by decide) h))]

/-- One byte more, from the lowest up. -/
theorem bs_set (D k : Nat) (h : k < 16) : (bs (D % 256 ^ k)).setIfInBounds (15 - k) (.int .u8 (by8 D k : Int)) = bs (D % 256 ^ (k + 1)) := by
  apply Array.ext_getElem?
  intro i
  rw [Array.getElem?_setIfInBounds]
  by_cases hi : i < 16
  · rw [bs_get _ i hi, bs_get _ i hi, bs_size]
    by_cases e : 15 - k = i
    · subst e
      rw [if_pos rfl, if_pos hi, by8_mod_lo _ _ _ (by omega), show 15 - (15 - k) = k by omega]
    · rw [if_neg e]
      by_cases hlt : 15 - i < k
      · rw [by8_mod_lo _ _ _ hlt, by8_mod_lo _ _ _ (by omega)]
      · rw [by8_mod_hi _ _ _ (by omega), by8_mod_hi _ _ _ (by omega)]
  · have : 15 - k ≠ i := by omega
    rw [if_neg this]
    simp [bs_size, hi]

def M128 : Nat := 2 ^ 128
theorem M128_eq : M128 = 256 ^ 16 := by decide +kernel
theorem bs_full (D : Nat) (h : D < M128) : bs (D % 256 ^ 16) = bs D := by rw [← M128_eq, Nat.mod_eq_of_lt h]

/-! ### a - b, byte by byte -/
def sub (a b : Nat) : Nat := (a + M128 - b) % M128
theorem sub_lt (a b : Nat) : sub a b < M128 := Nat.mod_lt _ (by decide)
def bor (a b k : Nat) : Int := if a % 256 ^ k < b % 256 ^ k then 1 else 0
theorem bor_bd (a b k : Nat) : 0 ≤ bor a b k ∧ bor a b k ≤ 1 := by unfold bor; split <;> omega
theorem split_k (a k : Nat) : a = a / 256 ^ (k + 1) * 256 ^ (k + 1) + by8 a k * 256 ^ k + a % 256 ^ k := by
  unfold by8
  have h1 := Nat.div_add_mod a (256 ^ k)
  have h2 := Nat.div_add_mod (a / 256 ^ k) 256
  have h3 : a / 256 ^ (k + 1) = a / 256 ^ k / 256 := by rw [Nat.pow_succ, Nat.div_div_eq_div_mul]
  rw [h3, Nat.pow_succ]
  generalize a / 256 ^ k = q at *
  generalize 256 ^ k = M at *
  have : q / 256 * (M * 256) + q % 256 * M = M * q := by
    have : M * q = M * (256 * (q / 256) + q % 256) := by rw [h2]
    rw [this, Nat.mul_add, Nat.mul_comm (q / 256), Nat.mul_assoc, Nat.mul_comm (q % 256)]
  omega
theorem mod_succ (a k : Nat) : a % 256 ^ (k + 1) = by8 a k * 256 ^ k + a % 256 ^ k := by
  unfold by8
  rw [Nat.pow_succ, Nat.mod_mul, Nat.mul_comm (256 ^ k), Nat.add_comm]


theorem two_digits {x y u v M : Nat} (h : x * M + u = y * M + v) (hv : v < M) (hu : u < 2 * M) : (x = y ∧ u = v) ∨ (x + 1 = y ∧ u = v + M) := by
  rcases Nat.lt_trichotomy x y with hlt | heq | hgt
  · obtain ⟨t, rfl⟩ : ∃ t, y = x + 1 + t := ⟨y - x - 1, by omega⟩
    rw [Nat.add_mul, Nat.add_mul] at h
    match t with
    | 0 => right; omega
    | t + 1 =>
      rw [Nat.add_mul t 1] at h
      omega
  · subst heq; left; omega
  · obtain ⟨t, rfl⟩ : ∃ t, x = y + 1 + t := ⟨x - y - 1, by omega⟩
    rw [Nat.add_mul, Nat.add_mul] at h
    omega

theorem sub_mod (a b k : Nat) (hb : b < M128) (hk : k ≤ 16) : ∃ c, sub a b % 256 ^ k + b % 256 ^ k = a % 256 ^ k + c * 256 ^ k ∧ c ≤ 1 := by
  have hd : 256 ^ k ∣ M128 := by rw [M128_eq]; exact Nat.pow_dvd_pow 256 hk
  unfold sub
  rw [Nat.mod_mod_of_dvd _ hd]
  have hP : 0 < 256 ^ k := Nat.pow_pos (by decide)
  generalize 256 ^ k = P at *
  obtain ⟨R, hR⟩ := hd
  have h1 := Nat.div_add_mod a P
  have h2 := Nat.div_add_mod b P
  have l1 := Nat.mod_lt a hP
  have l2 := Nat.mod_lt b hP
  have hb2 : b / P < R := by rw [Nat.div_lt_iff_lt_mul hP, Nat.mul_comm]; omega
  generalize a / P = A at *
  generalize b / P = B at *
  generalize a % P = x at *
  generalize b % P = y at *
  rw [hR, ← h1, ← h2]
  obtain ⟨t, rfl⟩ : ∃ t, R = B + 1 + t := ⟨R - B - 1, by omega⟩
  rw [Nat.mul_add, Nat.mul_add, Nat.mul_one]
  by_cases hc : y ≤ x
  · refine ⟨0, ?_, by omega⟩
    have e : P * A + x + (P * B + P + P * t) - (P * B + y) = P * (A + 1 + t) + (x - y) := by rw [Nat.mul_add, Nat.mul_add]; omega
    rw [e, Nat.mul_add_mod, Nat.mod_eq_of_lt (by omega)]; omega
  · refine ⟨1, ?_, by omega⟩
    have e : P * A + x + (P * B + P + P * t) - (P * B + y) = P * (A + t) + (P + x - y) := by rw [Nat.mul_add]; omega
    rw [e, Nat.mul_add_mod, Nat.mod_eq_of_lt (by omega)]; omega

theorem sub_step (a b k : Nat) (hb : b < M128) (hk : k < 16) :
    ((by8 a k : Int) - by8 b k - bor a b k < 0 → (by8 (sub a b) k : Int) = by8 a k - by8 b k - bor a b k + 256 ∧ bor a b (k + 1) = 1) ∧
    (0 ≤ (by8 a k : Int) - by8 b k - bor a b k → (by8 (sub a b) k : Int) = by8 a k - by8 b k - bor a b k ∧ bor a b (k + 1) = 0) := by
  obtain ⟨c, hc, hc1⟩ := sub_mod a b (k + 1) hb (by omega)
  rw [mod_succ, mod_succ, mod_succ] at hc
  have p1 : 256 ^ (k + 1) = 256 * 256 ^ k := by rw [Nat.pow_succ, Nat.mul_comm]
  have la := by8_lt a k
  have lb := by8_lt b k
  have ls := by8_lt (sub a b) k
  have hM : 0 < 256 ^ k := Nat.pow_pos (by decide)
  have m1 := Nat.mod_lt a hM
  have m2 := Nat.mod_lt b hM
  have m3 := Nat.mod_lt (sub a b) hM
  have hbor : bor a b (k + 1) = if by8 a k * 256 ^ k + a % 256 ^ k < by8 b k * 256 ^ k + b % 256 ^ k then 1 else 0 := by
    unfold bor; rw [mod_succ, mod_succ]
  have hbor0 : bor a b k = if a % 256 ^ k < b % 256 ^ k then 1 else 0 := rfl
  rw [hbor, hbor0]
  clear hbor hbor0
  rw [p1] at hc
  generalize by8 a k = x at *
  generalize by8 b k = y at *
  generalize by8 (sub a b) k = s at *
  generalize a % 256 ^ k = x0 at *
  generalize b % 256 ^ k = y0 at *
  generalize sub a b % 256 ^ k = s0 at *
  generalize 256 ^ k = M at *
  have key : (s + y) * M + (s0 + y0) = (x + 256 * c) * M + x0 := by rw [Nat.add_mul, Nat.add_mul, Nat.mul_comm 256 c, Nat.mul_assoc]; omega
  have cmp : (x < y → x * M + x0 < y * M + y0) ∧ (y < x → y * M + y0 < x * M + x0) := by
    constructor
    · intro h
      have := Nat.mul_le_mul_right M (show x + 1 ≤ y from h)
      rw [Nat.add_mul] at this; omega
    · intro h
      have := Nat.mul_le_mul_right M (show y + 1 ≤ x from h)
      rw [Nat.add_mul] at this; omega
  have ceq : x = y → x * M = y * M := fun h => by rw [h]
  rcases two_digits key m1 (by omega) with ⟨e1, e2⟩ | ⟨e1, e2⟩
  · rw [if_neg (show ¬ x0 < y0 by omega)]
    constructor
    · intro h
      rw [if_pos (cmp.1 (by omega))]; omega
    · intro h
      rw [if_neg (by rcases Nat.lt_or_ge y x with g | g; · have := cmp.2 g; omega
                     · have := ceq (by omega); omega)]; omega
  · rw [if_pos (show x0 < y0 by omega)]
    constructor
    · intro h
      rw [if_pos (by rcases Nat.lt_or_ge x y with g | g; · exact cmp.1 g
                     · have := ceq (by omega); omega)]; omega
    · intro h
      rw [if_neg (by have := cmp.2 (by omega); omega)]; omega

end Go.Proofs.Qxb6631297a
