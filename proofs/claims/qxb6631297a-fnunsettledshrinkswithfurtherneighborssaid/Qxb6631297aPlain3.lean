import Derived.Test.Qxb6631297aMem
import Derived.Test.Qxb6631297aPlain2
namespace Go.Proofs.Qxb6631297a
open Go.RowKit
def hiW (n : Nat) : Nat := n / 18446744073709551616
def loW (n : Nat) : Nat := n % 18446744073709551616
theorem bs_ext {A : Array Value} {m : Nat} (hs : A.size = 16) (h : ∀ k, k < 16 → A[15 - k]? = some (.int .u8 (by8 m k : Int))) : A = bs m := by
  apply Array.ext_getElem?
  intro i
  by_cases hi : i < 16
  · rw [bs_get m i hi]
    have := h (15 - i) (by omega)
    rwa [show 15 - (15 - i) = i by omega] at this
  · simp [bs_size, hi, hs]
theorem bs_getE (n j : Nat) (h : j < (bs n).size) : (bs n)[j] = .int .u8 (by8 n (15 - j) : Int) := by
  have := bs_get n j (by rwa [bs_size] at h)
  rw [Array.getElem?_eq_getElem h] at this
  simpa using this
theorem put_hi_bytes (n v : Nat) (hv : v < 18446744073709551616) : ((((((((bs n).setIfInBounds 0 (.int .u8 ((v : Int) / 72057594037927936))).setIfInBounds 1 (.int .u8 ((v : Int) / 281474976710656 % 256))).setIfInBounds 2 (.int .u8 ((v : Int) / 1099511627776 % 256))).setIfInBounds 3 (.int .u8 ((v : Int) / 4294967296 % 256))).setIfInBounds 4 (.int .u8 ((v : Int) / 16777216 % 256))).setIfInBounds 5 (.int .u8 ((v : Int) / 65536 % 256))).setIfInBounds 6 (.int .u8 ((v : Int) / 256 % 256))).setIfInBounds 7 (.int .u8 ((v : Int) % 256)) = bs (v * 18446744073709551616 + loW n) := by
  refine bs_ext (by simp [bs_size]) (fun k hk => ?_)
  unfold loW
  have h : k = 0 ∨ k = 1 ∨ k = 2 ∨ k = 3 ∨ k = 4 ∨ k = 5 ∨ k = 6 ∨ k = 7 ∨ k = 8 ∨ k = 9 ∨ k = 10 ∨ k = 11 ∨ k = 12 ∨ k = 13 ∨ k = 14 ∨ k = 15 := by omega
  rcases h with rfl | rfl | rfl | rfl | rfl | rfl | rfl | rfl | rfl | rfl | rfl | rfl | rfl | rfl | rfl | rfl
  all_goals simp [bs_size, bs_getE]
  all_goals unfold by8
  all_goals simp only [Nat.reducePow]
  all_goals omega
theorem put_lo_bytes (n v : Nat) (hv : v < 18446744073709551616) : ((((((((bs n).setIfInBounds 8 (.int .u8 ((v : Int) / 72057594037927936))).setIfInBounds 9 (.int .u8 ((v : Int) / 281474976710656 % 256))).setIfInBounds 10 (.int .u8 ((v : Int) / 1099511627776 % 256))).setIfInBounds 11 (.int .u8 ((v : Int) / 4294967296 % 256))).setIfInBounds 12 (.int .u8 ((v : Int) / 16777216 % 256))).setIfInBounds 13 (.int .u8 ((v : Int) / 65536 % 256))).setIfInBounds 14 (.int .u8 ((v : Int) / 256 % 256))).setIfInBounds 15 (.int .u8 ((v : Int) % 256)) = bs (hiW n * 18446744073709551616 + v) := by
  refine bs_ext (by simp [bs_size]) (fun k hk => ?_)
  unfold hiW
  have h : k = 0 ∨ k = 1 ∨ k = 2 ∨ k = 3 ∨ k = 4 ∨ k = 5 ∨ k = 6 ∨ k = 7 ∨ k = 8 ∨ k = 9 ∨ k = 10 ∨ k = 11 ∨ k = 12 ∨ k = 13 ∨ k = 14 ∨ k = 15 := by omega
  rcases h with rfl | rfl | rfl | rfl | rfl | rfl | rfl | rfl | rfl | rfl | rfl | rfl | rfl | rfl | rfl | rfl
  all_goals simp [bs_size, bs_getE]
  all_goals unfold by8
  all_goals simp only [Nat.reducePow]
  all_goals omega

theorem hi_lt {n : Nat} (h : n < M128) : hiW n < 18446744073709551616 := by
  have : M128 = 340282366920938463463374607431768211456 := by decide +kernel
  unfold hiW; omega
theorem lo_lt (n : Nat) : loW n < 18446744073709551616 := Nat.mod_lt _ (by decide)
theorem hi_bytes {n : Nat} (h : n < M128) : by8 n 8 + 256 * by8 n 9 + 65536 * by8 n 10 + 16777216 * by8 n 11 + 4294967296 * by8 n 12 + 1099511627776 * by8 n 13 + 281474976710656 * by8 n 14 + 72057594037927936 * by8 n 15 = hiW n := by
  have : M128 = 340282366920938463463374607431768211456 := by decide +kernel
  unfold hiW by8
  simp only [Nat.reducePow]
  omega
theorem lo_bytes (n : Nat) : by8 n 0 + 256 * by8 n 1 + 65536 * by8 n 2 + 16777216 * by8 n 3 + 4294967296 * by8 n 4 + 1099511627776 * by8 n 5 + 281474976710656 * by8 n 6 + 72057594037927936 * by8 n 7 = loW n := by
  unfold loW by8
  simp only [Nat.reducePow]
  omega
end Go.Proofs.Qxb6631297a
