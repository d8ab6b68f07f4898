/-
  No cell of these rows narrows 'for every input' (looked for: loops, veiled, ifaces, maps, wideKeys, modest, calm, conditions, laid).
  DERIVED. THE GIVEN ROWS OF THIS SEAT. 2 by the template 'for every input the law returns true; each argument reads behind the call as it read before'; 0 by the template 'total and deterministic' (their statements: Qxb6632331aTotals.lean).
  GIVEN WITH THE SEED: the statements are not yours to turn. If you find one false, say at which input.
  Laid BY PROGRAM, IN A SANDBOX (cutbox-rows.mjs): the forced cells as the released guide's own fill.sh prints them over the translation 778df7e0283767bd… (all of the seat's roots in one cut). By AI agents, Wed Nov 11 2026. No macro, syntax, notation, axiom, sorry.
-/
import Derived.Test.Qxb6632331aChecked
import GoSem.Claim
import GoSem.ClaimJoined
import GoSem.ClaimMapViews
import Derived.JoinedTies
import Derived.KernelRfl
namespace Go.Proofs.Qxb6632331a
/- THE CELL 'sum', in the pinned program and in every row, IS THE sha256 OF THE DUMP (.gsa) THAT Qxb6632331aProg.lean LOADS. Nothing in Lean hashes anything: it is a label: what it is worth is what the hold of that sum in a sandbox is worth. -/
noncomputable def Try.pinned : Pinned := { name := "qxb6632331a", sum := "778df7e0283767bdd06e2041bc4f56b9e237f6b48f0b3aa2d9005440914d2927", checked := Try.checked }
namespace Rows
def none {H : Type} : Left H := { results := [], args := [] }

/-- 'zzlaws_root_b1.FnSplitFromZeroAddsBucketsAtTheEndInRounds': WHATEVER THE INPUT: true; the input reads as it did. -/
def fnSplitFromZeroAddsBucketsAtTheEndInRoundsSpec : ChangeSpec := { name := "fnSplitFromZeroAddsBucketsAtTheEndInRounds", fn := fun _ => fun
  | [d] => { results := [.lit (.bool true)], args := [d] }
  | _ => none }
def fnSplitFromZeroAddsBucketsAtTheEndInRoundsRow : OpenClaim := { program := "qxb6632331a", sum := "778df7e0283767bdd06e2041bc4f56b9e237f6b48f0b3aa2d9005440914d2927", func := "example.com/espera/espera/zzlaws_root_b1.FnSplitFromZeroAddsBucketsAtTheEndInRounds", spec := "fnSplitFromZeroAddsBucketsAtTheEndInRounds", apart := false }
def FnSplitFromZeroAddsBucketsAtTheEndInRoundsSaid : Prop := fnSplitFromZeroAddsBucketsAtTheEndInRoundsRow.holds Try.pinned (OpenSpec.ofChange fnSplitFromZeroAddsBucketsAtTheEndInRoundsSpec)

/-- ITS FALSE NEIGHBOUR: 'it returns false'. Refute it at one input. -/
def fnSplitFromZeroAddsBucketsAtTheEndInRoundsWrong : ChangeSpec := { name := "fnSplitFromZeroAddsBucketsAtTheEndInRounds", fn := fun _ => fun
  | [d] => { results := [.lit (.bool false)], args := [d] }
  | _ => none }
def FnSplitFromZeroAddsBucketsAtTheEndInRoundsWrongFalsely : Prop := fnSplitFromZeroAddsBucketsAtTheEndInRoundsRow.holds Try.pinned (OpenSpec.ofChange fnSplitFromZeroAddsBucketsAtTheEndInRoundsWrong)

/-- 'zzlaws_root_b1.FnSplitMovesOnlyKeysOfFromIntoTo': WHATEVER THE INPUT: true; the input reads as it did. -/
def fnSplitMovesOnlyKeysOfFromIntoToSpec : ChangeSpec := { name := "fnSplitMovesOnlyKeysOfFromIntoTo", fn := fun _ => fun
  | [d1, d2, d3] => { results := [.lit (.bool true)], args := [d1, d2, d3] }
  | _ => none }
def fnSplitMovesOnlyKeysOfFromIntoToRow : OpenClaim := { program := "qxb6632331a", sum := "778df7e0283767bdd06e2041bc4f56b9e237f6b48f0b3aa2d9005440914d2927", func := "example.com/espera/espera/zzlaws_root_b1.FnSplitMovesOnlyKeysOfFromIntoTo", spec := "fnSplitMovesOnlyKeysOfFromIntoTo", apart := false }
def FnSplitMovesOnlyKeysOfFromIntoToSaid : Prop := fnSplitMovesOnlyKeysOfFromIntoToRow.holds Try.pinned (OpenSpec.ofChange fnSplitMovesOnlyKeysOfFromIntoToSpec)

/-- ITS FALSE NEIGHBOUR: 'it returns false'. Refute it at one input. -/
def fnSplitMovesOnlyKeysOfFromIntoToWrong : ChangeSpec := { name := "fnSplitMovesOnlyKeysOfFromIntoTo", fn := fun _ => fun
  | [d1, d2, d3] => { results := [.lit (.bool false)], args := [d1, d2, d3] }
  | _ => none }
def FnSplitMovesOnlyKeysOfFromIntoToWrongFalsely : Prop := fnSplitMovesOnlyKeysOfFromIntoToRow.holds Try.pinned (OpenSpec.ofChange fnSplitMovesOnlyKeysOfFromIntoToWrong)

end Rows
end Go.Proofs.Qxb6632331a
