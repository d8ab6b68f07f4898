/-
  'Rows.FnRepeatedNestedSaid', PROVED: the row over the walk.
-/
import Derived.Test.Qxb6632277aNested
import Derived.Test.Qxb6632277aOpen
import Derived.Test.Qxb6632277aEmpty
import Derived.ShutString
import Derived.Below
namespace Go.Proofs.Qxb6632277a
open Go.ChangeShapes Go.WideShapes Go.ChangeAt Go.RowKit
set_option linter.unusedVariables false

theorem nested_walk (a : Option Addr) (n cap : Nat) (A : List Rec) (nl : Nat → Bool) (Ls : Nat → List ByteArray) (w : World) (h : AIn w a n cap A nl Ls) :
    Calls Try.prog 4 #[.slice a n cap] w fun e w' => e = .returned (.bool true) ∧ Below w.heap.size w w' := by
  by_cases h0 : n = 0
  · subst h0
    exact law4_empty a cap w
  · rcases h.cells with e | ⟨b, off, rfl, hc⟩
    · have := h.len
      rw [e] at this
      exact absurd this.symm h0
    · exact law4_some b off cap n A nl Ls h.len (by omega) h.max w (fun i r hi => ⟨hc i r hi, (h.strs i r hi).1⟩)

set_option maxRecDepth 100000 in
theorem nested_lifted (os : Os) (started : os.Started) (H : Type) (enc : TypeId × Value → H) :
    ReturnsInHanded {} Try.checked os 4 .any (Rows.fnRepeatedNestedSpec.pre6 enc Try.prog Try.f4 Rows.fnRepeatedNestedRow.domain false) (Rows.fnRepeatedNestedSpec.post enc Try.prog Try.f4 false true false false) := by
  refine returnsInHanded_of_change (C := Try.checked) own started (by kernel_rfl) Try.func4
    (ChangeSpec.witness6 (enc := enc) (C := Try.checked) false ⟨#[], #[.slice none 0 0], []⟩ 8 (by kernel_rfl) (by kernel_rfl) (by kernel_rfl) (by kernel_rfl)) ?_
  intro W base args ds gs before hval0 hW hcnd _
  have hval : ∀ (j : Nat) t v, Try.f4.params[j]? = some t → args[j]? = some v → Value.okWide Try.prog W .any base t v := hval0
  have hW' := hW
  obtain ⟨p, q, hA0, hV, rfl, hfz, hnd⟩ := hW
  have hA : DataW.TrodAll enc Try.prog W 0 (fun _ => true) true Try.f4.params.toList args.toList ds p := hA0
  rw [Try.params4] at hA hval
  obtain ⟨v0, vs0, d0, ds0, p0, q0, hargs, rfl, rfl, h0, r0⟩ := trodAll_cons hA
  obtain ⟨rfl, rfl, rfl⟩ := trodAll_nil r0
  obtain rfl : args = #[v0] := by cases args; simp_all
  obtain ⟨rfl, rfl⟩ := trodVars_none hV
  obtain ⟨a, n, cap, A, nl, Ls, rfl, hin⟩ := open_atts (hval 0 22 v0 rfl rfl) h0
  have lt0 : ∀ x ∈ p0, x.block < W.heap.size := by obtain ⟨m, hm⟩ := h0; exact DataW.trod_lt m _ _ _ hm
  clear hA0 hval0
  refine (nested_walk a n cap A nl Ls W hin).mono fun e W' ⟨he, bel⟩ => ?_
  subst he
  exact ⟨_, rfl, _, _, _, [], _, [], hW', trodAll_mk1 (shut_bool Try.underlying4 _), (trodAll_cons_mk (Below.trod laidOut (by kernel_rfl) (of_decide_eq_true (by kernel_rfl)) h0 bel lt0) trodAll_mk0), rfl, bel.frame _, fun h => by cases h⟩

theorem nested_over : Rows.fnRepeatedNestedRow.holds Try.pinned (OpenSpec.ofChange Rows.fnRepeatedNestedSpec) :=
  OpenClaim.holds_of_wide 4 Try.f4 rfl rfl rfl rfl rfl rfl rfl ⟨rfl, rfl, rfl, rfl, rfl⟩ rfl rfl rfl rfl rfl (by kernel_rfl) Try.func4 (by kernel_rfl)
    (of_decide_eq_true (by kernel_rfl)) (by unfold Func.isWrapper; first | (rw [if_pos (by decide +kernel)]; kernel_rfl) | (rw [if_neg (by decide +kernel)]; exact ⟨rfl, rfl⟩))
    (fun os started H enc _ => nested_lifted os started H enc)

/-- THE STATEMENT. -/
theorem nested_proved : Rows.FnRepeatedNestedSaid := nested_over
end Go.Proofs.Qxb6632277a
