/-
  No cell of these rows narrows 'for every input' (looked for: loops, veiled, ifaces, maps, wideKeys, modest, calm, conditions, laid).
  DERIVED. THE GIVEN ROWS OF THIS SEAT. 2 by the template 'for every input the law returns true; each argument reads behind the call as it read before'; 0 by the template 'total and deterministic' (their statements: Qxb6632277aTotals.lean).
  GIVEN WITH THE SEED: the statements are not yours to turn. If you find one false, say at which input.
  Laid BY PROGRAM, IN A SANDBOX (cutbox-rows.mjs): the forced cells as the released guide's own fill.sh prints them over the translation 386bd947c665c8d7… (all of the seat's roots in one cut). By AI agents, Wed Nov 11 2026. No macro, syntax, notation, axiom, sorry.
-/
import Derived.Test.Qxb6632277aChecked
import GoSem.Claim
import GoSem.ClaimJoined
import GoSem.ClaimMapViews
import Derived.JoinedTies
import Derived.KernelRfl
namespace Go.Proofs.Qxb6632277a
/- THE CELL 'sum', in the pinned program and in every row, IS THE sha256 OF THE DUMP (.gsa) THAT Qxb6632277aProg.lean LOADS. Nothing in Lean hashes anything: it is a label: what it is worth is what the hold of that sum in a sandbox is worth. -/
noncomputable def Try.pinned : Pinned := { name := "qxb6632277a", sum := "386bd947c665c8d7476e24a5d0112a92a7b6774b97b0a24a0ef3cfd75e0872c6", checked := Try.checked }
namespace Rows
def none {H : Type} : Left H := { results := [], args := [] }

/-- 'zzlaws_record_b1.FnRepeatedSplit': WHATEVER THE INPUT: true; the input reads as it did. -/
def fnRepeatedSplitSpec : ChangeSpec := { name := "fnRepeatedSplit", fn := fun _ => fun
  | [d1, d2] => { results := [.lit (.bool true)], args := [d1, d2] }
  | _ => none }
def fnRepeatedSplitRow : OpenClaim := { program := "qxb6632277a", sum := "386bd947c665c8d7476e24a5d0112a92a7b6774b97b0a24a0ef3cfd75e0872c6", func := "example.com/veilscan/veilscan/zzlaws_record_b1.FnRepeatedSplit", spec := "fnRepeatedSplit", apart := false }
def FnRepeatedSplitSaid : Prop := fnRepeatedSplitRow.holds Try.pinned (OpenSpec.ofChange fnRepeatedSplitSpec)

/-- ITS FALSE NEIGHBOUR: 'it returns false'. Refute it at one input. -/
def fnRepeatedSplitWrong : ChangeSpec := { name := "fnRepeatedSplit", fn := fun _ => fun
  | [d1, d2] => { results := [.lit (.bool false)], args := [d1, d2] }
  | _ => none }
def FnRepeatedSplitWrongFalsely : Prop := fnRepeatedSplitRow.holds Try.pinned (OpenSpec.ofChange fnRepeatedSplitWrong)

/-- 'zzlaws_record_b1.FnRepeatedNested': WHATEVER THE INPUT: true; the input reads as it did. -/
def fnRepeatedNestedSpec : ChangeSpec := { name := "fnRepeatedNested", fn := fun _ => fun
  | [d] => { results := [.lit (.bool true)], args := [d] }
  | _ => none }
def fnRepeatedNestedRow : OpenClaim := { program := "qxb6632277a", sum := "386bd947c665c8d7476e24a5d0112a92a7b6774b97b0a24a0ef3cfd75e0872c6", func := "example.com/veilscan/veilscan/zzlaws_record_b1.FnRepeatedNested", spec := "fnRepeatedNested", apart := false }
def FnRepeatedNestedSaid : Prop := fnRepeatedNestedRow.holds Try.pinned (OpenSpec.ofChange fnRepeatedNestedSpec)

/-- ITS FALSE NEIGHBOUR: 'it returns false'. Refute it at one input. -/
def fnRepeatedNestedWrong : ChangeSpec := { name := "fnRepeatedNested", fn := fun _ => fun
  | [d] => { results := [.lit (.bool false)], args := [d] }
  | _ => none }
def FnRepeatedNestedWrongFalsely : Prop := fnRepeatedNestedRow.holds Try.pinned (OpenSpec.ofChange fnRepeatedNestedWrong)

end Rows
end Go.Proofs.Qxb6632277a
