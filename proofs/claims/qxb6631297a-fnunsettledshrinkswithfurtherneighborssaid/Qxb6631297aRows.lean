/-
  No cell of these rows narrows 'for every input' (looked for: loops, veiled, ifaces, maps, wideKeys, modest, calm, conditions, laid).
  DERIVED. THE GIVEN ROWS OF THIS SEAT. 2 by the template 'for every input the law returns true; each argument reads behind the call as it read before'; 0 by the template 'total and deterministic' (their statements: Qxb6631297aTotals.lean).
  GIVEN WITH THE SEED: the statements are not yours to turn. If you find one false, say at which input.
  Laid BY PROGRAM, IN A SANDBOX (cutbox-rows.mjs): the forced cells as the released guide's own fill.sh prints them over the translation f232e51b844c55fc… (all of the seat's roots in one cut). By AI agents, Wed Nov 11 2026. No macro, syntax, notation, axiom, sorry.
-/
import Derived.Test.Qxb6631297aChecked
import GoSem.Claim
import GoSem.ClaimJoined
import GoSem.ClaimMapViews
import Derived.JoinedTies
import Derived.KernelRfl
namespace Go.Proofs.Qxb6631297a
/- THE CELL 'sum', in the pinned program and in every row, IS THE sha256 OF THE DUMP (.gsa) THAT Qxb6631297aProg.lean LOADS. Nothing in Lean hashes anything: it is a label: what it is worth is what the hold of that sum in a sandbox is worth. -/
noncomputable def Try.pinned : Pinned := { name := "qxb6631297a", sum := "f232e51b844c55fc51b0be575e6142b0feeb6a0453d7ee2ede9ee1bcc5bfe034", checked := Try.checked }
namespace Rows
def none {H : Type} : Left H := { results := [], args := [] }

/-- 'zzlaws_internal_chord_b1.FnUnsettledExactAndShiftInvariant': WHATEVER THE INPUT: true; the input reads as it did. -/
def fnUnsettledExactAndShiftInvariantSpec : ChangeSpec := { name := "fnUnsettledExactAndShiftInvariant", fn := fun _ => fun
  | [d1, d2, d3, d4] => { results := [.lit (.bool true)], args := [d1, d2, d3, d4] }
  | _ => none }
def fnUnsettledExactAndShiftInvariantRow : OpenClaim := { program := "qxb6631297a", sum := "f232e51b844c55fc51b0be575e6142b0feeb6a0453d7ee2ede9ee1bcc5bfe034", func := "example.com/rebound/rebound/zzlaws_internal_chord_b1.FnUnsettledExactAndShiftInvariant", spec := "fnUnsettledExactAndShiftInvariant", inPlace := ["math/bits.Add64", "math/bits.Sub64", "internal/bytealg.Compare"], named := ["encoding/binary.BigEndian"], apart := false }
def FnUnsettledExactAndShiftInvariantSaid : Prop := fnUnsettledExactAndShiftInvariantRow.holds Try.pinned (OpenSpec.ofChange fnUnsettledExactAndShiftInvariantSpec)

/-- ITS FALSE NEIGHBOUR: 'it returns false'. Refute it at one input. -/
def fnUnsettledExactAndShiftInvariantWrong : ChangeSpec := { name := "fnUnsettledExactAndShiftInvariant", fn := fun _ => fun
  | [d1, d2, d3, d4] => { results := [.lit (.bool false)], args := [d1, d2, d3, d4] }
  | _ => none }
def FnUnsettledExactAndShiftInvariantWrongFalsely : Prop := fnUnsettledExactAndShiftInvariantRow.holds Try.pinned (OpenSpec.ofChange fnUnsettledExactAndShiftInvariantWrong)

/-- 'zzlaws_internal_chord_b1.FnUnsettledShrinksWithFurtherNeighbors': WHATEVER THE INPUT: true; the input reads as it did. -/
def fnUnsettledShrinksWithFurtherNeighborsSpec : ChangeSpec := { name := "fnUnsettledShrinksWithFurtherNeighbors", fn := fun _ => fun
  | [d1, d2, d3, d4, d5] => { results := [.lit (.bool true)], args := [d1, d2, d3, d4, d5] }
  | _ => none }
def fnUnsettledShrinksWithFurtherNeighborsRow : OpenClaim := { program := "qxb6631297a", sum := "f232e51b844c55fc51b0be575e6142b0feeb6a0453d7ee2ede9ee1bcc5bfe034", func := "example.com/rebound/rebound/zzlaws_internal_chord_b1.FnUnsettledShrinksWithFurtherNeighbors", spec := "fnUnsettledShrinksWithFurtherNeighbors", inPlace := ["math/bits.Add64", "math/bits.Sub64", "internal/bytealg.Compare"], named := ["encoding/binary.BigEndian"], apart := false }
def FnUnsettledShrinksWithFurtherNeighborsSaid : Prop := fnUnsettledShrinksWithFurtherNeighborsRow.holds Try.pinned (OpenSpec.ofChange fnUnsettledShrinksWithFurtherNeighborsSpec)

/-- ITS FALSE NEIGHBOUR: 'it returns false'. Refute it at one input. -/
def fnUnsettledShrinksWithFurtherNeighborsWrong : ChangeSpec := { name := "fnUnsettledShrinksWithFurtherNeighbors", fn := fun _ => fun
  | [d1, d2, d3, d4, d5] => { results := [.lit (.bool false)], args := [d1, d2, d3, d4, d5] }
  | _ => none }
def FnUnsettledShrinksWithFurtherNeighborsWrongFalsely : Prop := fnUnsettledShrinksWithFurtherNeighborsRow.holds Try.pinned (OpenSpec.ofChange fnUnsettledShrinksWithFurtherNeighborsWrong)

end Rows
end Go.Proofs.Qxb6631297a
