/-
  'Rows.FnRepeatedSplitSaid', PROVED: the row over the walk.
-/
import Derived.Test.Qxb6632277aSplit
import Derived.Test.Qxb6632277aOpen
import Derived.Test.Qxb6632277aEmpty
import Derived.ShutString
import Derived.Below
namespace Go.Proofs.Qxb6632277a
open Go.ChangeShapes Go.WideShapes Go.ChangeAt Go.RowKit
set_option linter.unusedVariables false

theorem split_walk (a : Option Addr) (n cap : Nat) (k : Int) (A : List Rec) (nl : Nat → Bool) (Ls : Nat → List ByteArray) (w : World) (h : AIn w a n cap A nl Ls) :
    Calls Try.prog 3 #[.slice a n cap, .int .i64 k] w fun e w' => e = .returned (.bool true) ∧ Below w.heap.size w w' := by
  by_cases h0 : n = 0
  · subst h0
    exact law3_empty a cap k w
  · rcases h.cells with e | ⟨b, off, rfl, hc⟩
    · have := h.len
      rw [e] at this
      exact absurd this.symm h0
    · exact law3_some b off cap n k A nl Ls h.len (by omega) h.max w (fun i r hi => ⟨hc i r hi, (h.strs i r hi).1⟩)

set_option maxRecDepth 100000 in
theorem split_lifted (os : Os) (started : os.Started) (H : Type) (enc : TypeId × Value → H) :
    ReturnsInHanded {} Try.checked os 3 .any (Rows.fnRepeatedSplitSpec.pre6 enc Try.prog Try.f3 Rows.fnRepeatedSplitRow.domain false) (Rows.fnRepeatedSplitSpec.post enc Try.prog Try.f3 false true false false) := by
  refine returnsInHanded_of_change (C := Try.checked) own started (by kernel_rfl) Try.func3
    (ChangeSpec.witness6 (enc := enc) (C := Try.checked) false ⟨#[], #[.slice none 0 0, .int .i64 0], []⟩ 8 (by kernel_rfl) (by kernel_rfl) (by kernel_rfl) (by kernel_rfl)) ?_
  intro W base args ds gs before hval0 hW hcnd _
  have hval : ∀ (j : Nat) t v, Try.f3.params[j]? = some t → args[j]? = some v → Value.okWide Try.prog W .any base t v := hval0
  have hW' := hW
  obtain ⟨p, q, hA0, hV, rfl, hfz, hnd⟩ := hW
  have hA : DataW.TrodAll enc Try.prog W 0 (fun _ => true) true Try.f3.params.toList args.toList ds p := hA0
  rw [Try.params3] at hA hval
  obtain ⟨v0, vs0, d0, ds0, p0, q0, hargs, rfl, rfl, h0, r0⟩ := trodAll_cons hA
  obtain ⟨v1, vs1, d1, ds1, p1, q1, rfl, rfl, rfl, h1, r1⟩ := trodAll_cons r0
  obtain ⟨rfl, rfl, rfl⟩ := trodAll_nil r1
  obtain rfl : args = #[v0, v1] := by cases args; simp_all
  obtain ⟨rfl, rfl⟩ := trodVars_none hV
  obtain ⟨a, n, cap, A, nl, Ls, rfl, hin⟩ := open_atts (hval 0 22 v0 rfl rfl) h0
  have lt1 : ∀ x ∈ p1, x.block < W.heap.size := by obtain ⟨m, hm⟩ := h1; exact DataW.trod_lt m _ _ _ hm
  have k1 := h1
  obtain ⟨k, rfl, rfl, rfl, wk⟩ := open_int Try.underlying3 (hval 1 3 v1 rfl rfl) h1
  have lt0 : ∀ x ∈ p0, x.block < W.heap.size := by obtain ⟨m, hm⟩ := h0; exact DataW.trod_lt m _ _ _ hm
  clear hA0 hval0
  refine (split_walk a n cap k A nl Ls W hin).mono fun e W' ⟨he, bel⟩ => ?_
  subst he
  exact ⟨_, rfl, _, _, _, [], _, [], hW', trodAll_mk1 (shut_bool Try.underlying4 _), (trodAll_cons_mk (Below.trod laidOut (by kernel_rfl) (of_decide_eq_true (by kernel_rfl)) h0 bel lt0) (trodAll_cons_mk (Below.trod laidOut (by kernel_rfl) (of_decide_eq_true (by kernel_rfl)) k1 bel lt1) trodAll_mk0)), rfl, bel.frame _, fun h => by cases h⟩

theorem split_over : Rows.fnRepeatedSplitRow.holds Try.pinned (OpenSpec.ofChange Rows.fnRepeatedSplitSpec) :=
  OpenClaim.holds_of_wide 3 Try.f3 rfl rfl rfl rfl rfl rfl rfl ⟨rfl, rfl, rfl, rfl, rfl⟩ rfl rfl rfl rfl rfl (by kernel_rfl) Try.func3 (by kernel_rfl)
    (of_decide_eq_true (by kernel_rfl)) (by unfold Func.isWrapper; first | (rw [if_pos (by decide +kernel)]; kernel_rfl) | (rw [if_neg (by decide +kernel)]; exact ⟨rfl, rfl⟩))
    (fun os started H enc _ => split_lifted os started H enc)

/-- THE STATEMENT. -/
theorem split_proved : Rows.FnRepeatedSplitSaid := split_over
end Go.Proofs.Qxb6632277a
