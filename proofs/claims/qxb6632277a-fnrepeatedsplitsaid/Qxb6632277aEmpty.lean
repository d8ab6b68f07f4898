/-
  The guards and the two laws at the empty slice.
-/
import Derived.Test.Qxb6632277aMem
namespace Go.Proofs.Qxb6632277a
open Go.RowKit
set_option linter.unusedSimpArgs false
set_option linter.unusedVariables false
set_option maxRecDepth 100000
theorem bytes11_empty (a : Option Addr) (cap : Nat) (w : World) : Calls Try.prog 11 #[.slice a 0 cap] w fun e w' => e = .returned (.bool true) ∧ w' = w := by
  go_enter Try.func11, Try.ntmps11
  go_wp2
  go_loop [3, 4] (fun t i => t = .int .i64 0 ∧ i = .int .i64 0) (fun _ _ => 0)
  case atStart => exact ⟨rfl, rfl⟩
  case round =>
    obtain ⟨rfl, rfl⟩ := hrel
    go_wp2
    go_ret
    exact ⟨rfl, rfl⟩
theorem bytes5_empty (a : Option Addr) (cap : Nat) (k : Int) (w : World) : Calls Try.prog 5 #[.slice a 0 cap, .int .i64 k] w fun e w' => e = .returned (.bool true) ∧ w' = w := by
  go_enter Try.func5, Try.ntmps5
  go_wp2
  go_loop [5, 6] (fun t i => t = .int .i64 0 ∧ i = .int .i64 0) (fun _ _ => 0)
  case atStart => exact ⟨rfl, rfl⟩
  case round =>
    obtain ⟨rfl, rfl⟩ := hrel
    go_wp2
    go_ret
    exact ⟨rfl, rfl⟩
theorem big_empty (a : Option Addr) (cap : Nat) (w : World) : Calls Try.prog 6 #[.slice a 0 cap] w fun e w' => e = .returned (.bool false) ∧ w' = w := by
  go_enter Try.func6, Try.ntmps6
  go_wp2
  go_loop [3, 4] (fun t i => t = .int .i64 0 ∧ i = .int .i64 0) (fun _ _ => 0)
  case atStart => exact ⟨rfl, rfl⟩
  case round =>
    obtain ⟨rfl, rfl⟩ := hrel
    go_wp2
    go_ret
    exact ⟨rfl, rfl⟩
theorem law4_empty (a : Option Addr) (cap : Nat) (w : World) : Calls Try.prog 4 #[.slice a 0 cap] w fun e w' => e = .returned (.bool true) ∧ Below w.heap.size w w' := by
  go_enter Try.func4, Try.ntmps4
  go_wp2_with (first | (go_at_call 11; refine (bytes11_empty _ _ _).mono ?_; rintro e wq ⟨rfl, hq⟩; subst wq) | (go_at_call 6; refine (big_empty _ _ _).mono ?_; rintro e wq ⟨rfl, hq⟩; subst wq))
  go_ret
  exact ⟨rfl, Below.refl _ _⟩
theorem law3_empty (a : Option Addr) (cap : Nat) (k : Int) (w : World) : Calls Try.prog 3 #[.slice a 0 cap, .int .i64 k] w fun e w' => e = .returned (.bool true) ∧ Below w.heap.size w w' := by
  go_enter Try.func3, Try.ntmps3
  go_wp2_with (first | (go_at_call 5; refine (bytes5_empty _ _ _ _).mono ?_; rintro e wq ⟨rfl, hq⟩; subst wq) | (go_at_call 6; refine (big_empty _ _ _).mono ?_; rintro e wq ⟨rfl, hq⟩; subst wq))
  go_ret
  exact ⟨rfl, Below.refl _ _⟩
end Go.Proofs.Qxb6632277a
