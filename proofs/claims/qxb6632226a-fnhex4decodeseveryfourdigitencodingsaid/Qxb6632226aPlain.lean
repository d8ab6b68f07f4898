/-
  THE PLAIN PART: a hexadecimal digit's value; the number that four digits write.
-/
import Derived.WalkKit
import Derived.Lib.EndianBits
namespace Go.Proofs.Qxb6632226a
open Go.RowKit

/-- The value of a hexadecimal digit, or -1. -/
def hxv (c : Int) : Int := if 48 ≤ c ∧ c ≤ 57 then c - 48 else if 97 ≤ c ∧ c ≤ 102 then c - 87 else if 65 ≤ c ∧ c ≤ 70 then c - 55 else -1
theorem hxv_bd (c : Int) : -1 ≤ hxv c ∧ hxv c ≤ 15 := by unfold hxv; repeat' split <;> omega
theorem hxv_cases (c : Int) : (48 ≤ c ∧ c ≤ 57 ∧ hxv c = c - 48) ∨ (97 ≤ c ∧ c ≤ 102 ∧ hxv c = c - 87) ∨ (65 ≤ c ∧ c ≤ 70 ∧ hxv c = c - 55) ∨ ((c < 48 ∨ 57 < c) ∧ (c < 97 ∨ 102 < c) ∧ (c < 65 ∨ 70 < c) ∧ hxv c = -1) := by
  unfold hxv
  repeat' split
  all_goals omega
/-- The number that the first k digits write. -/
def acc (z : Nat → Int) : Nat → Int
  | 0 => 0
  | k + 1 => acc z k * 16 + hxv (z k)
theorem acc_bd (z : Nat → Int) : ∀ k, k ≤ 4 → (∀ j, j < k → 0 ≤ hxv (z j)) → 0 ≤ acc z k ∧ acc z k < 16 ^ k
  | 0, _, _ => by simp [acc]
  | k + 1, hk, h => by
    have ih := acc_bd z k (by omega) (fun j hj => h j (by omega))
    have h0 := h k (by omega)
    have h1 := hxv_bd (z k)
    rw [acc, Int.pow_succ]
    omega
theorem acc_lt (z : Nat → Int) (k : Nat) (hk : k ≤ 3) (h : ∀ j, j < k → 0 ≤ hxv (z j)) : 0 ≤ acc z k ∧ acc z k < 4096 := by
  have := acc_bd z k (by omega) h
  refine ⟨this.1, Int.lt_of_lt_of_le this.2 ?_⟩
  have h3 : k = 0 ∨ k = 1 ∨ k = 2 ∨ k = 3 := by omega
  rcases h3 with rfl | rfl | rfl | rfl <;> decide
/-- The answer of hex4 for the first four bytes. -/
def ok4 (z : Nat → Int) : Bool := decide (0 ≤ hxv (z 0)) && decide (0 ≤ hxv (z 1)) && decide (0 ≤ hxv (z 2)) && decide (0 ≤ hxv (z 3))
def val4 (z : Nat → Int) : Int := if ok4 z then acc z 4 else 0
theorem ok4_true {z : Nat → Int} (h : ∀ j, j < 4 → 0 ≤ hxv (z j)) : ok4 z = true ∧ val4 z = acc z 4 := by
  have : ok4 z = true := by simp [ok4, h 0 (by omega), h 1 (by omega), h 2 (by omega), h 3 (by omega)]
  exact ⟨this, by rw [val4, if_pos this]⟩
theorem ok4_false {z : Nat → Int} {j : Nat} (hj : j < 4) (h : hxv (z j) = -1) : ok4 z = false ∧ val4 z = 0 := by
  have : ok4 z = false := by
    have h3 : j = 0 ∨ j = 1 ∨ j = 2 ∨ j = 3 := by omega
    rcases h3 with rfl | rfl | rfl | rfl <;> simp [ok4, h]
  exact ⟨this, by rw [val4, if_neg (by rw [this]; decide)]⟩
theorem or_i32 (a h : Int) (ha : 0 ≤ a) (ha2 : a < 4096) (h0 : 0 ≤ h) (h1 : h ≤ 15) : bits .or .i32 (a * 16) h = a * 16 + h := by
  refine bits_join .i32 16 (by decide) (fun n h0 h1 => ?_) 4 (a * 16) h (by omega) (by omega) (by omega) h0 (by omega) (by omega)
  simp [IntKind.wrap, IntKind.bits, IntKind.signed]
  omega
/-- The table "0123456789abcdefABCDEF". -/
def tabv (k : Nat) : Int := if k < 10 then 48 + k else if k < 16 then 87 + k else 49 + k
theorem tab_hit (k : Nat) (hk : k < 22) : hxv (tabv k) = if k < 16 then (k : Int) else (k : Int) - 6 := by
  unfold tabv hxv
  repeat' split
  all_goals omega
theorem tab_miss (c : Int) (h : ∀ j, j < 22 → tabv j ≠ c) : hxv c = -1 := by
  rcases hxv_cases c with ⟨a, b, e⟩ | ⟨a, b, e⟩ | ⟨a, b, e⟩ | ⟨_, _, _, e⟩
  · exact absurd (by unfold tabv; rw [if_pos (by omega)]; omega) (h (c - 48).toNat (by omega))
  · exact absurd (by unfold tabv; rw [if_neg (by omega), if_pos (by omega)]; omega) (h (c - 87).toNat (by omega))
  · exact absurd (by unfold tabv; rw [if_neg (by omega), if_neg (by omega)]; omega) (h (c - 49).toNat (by omega))
  · exact e
/-- The model's running total and weight. -/
def tot (z : Nat → Int) : Nat → Int
  | 0 => 0
  | 1 => hxv (z 0) * 4096
  | 2 => hxv (z 0) * 4096 + hxv (z 1) * 256
  | 3 => hxv (z 0) * 4096 + hxv (z 1) * 256 + hxv (z 2) * 16
  | _ => hxv (z 0) * 4096 + hxv (z 1) * 256 + hxv (z 2) * 16 + hxv (z 3) * 1
theorem tot_acc (z : Nat → Int) : tot z 4 = acc z 4 := by
  show hxv (z 0) * 4096 + hxv (z 1) * 256 + hxv (z 2) * 16 + hxv (z 3) * 1 = (((0 * 16 + hxv (z 0)) * 16 + hxv (z 1)) * 16 + hxv (z 2)) * 16 + hxv (z 3)
  omega
end Go.Proofs.Qxb6632226a
