/-
  No cell of these rows narrows 'for every input' (looked for: loops, veiled, ifaces, maps, wideKeys, modest, calm, conditions, laid).
  DERIVED. THE GIVEN ROWS OF THIS SEAT. 2 by the template 'for every input the law returns true; each argument reads behind the call as it read before'; 0 by the template 'total and deterministic' (their statements: Qxb6632226aTotals.lean).
  GIVEN WITH THE SEED: the statements are not yours to turn. If you find one false, say at which input.
  Laid BY PROGRAM, IN A SANDBOX (cutbox-rows.mjs): the forced cells as the released guide's own fill.sh prints them over the translation af97eae4be24cc77… (all of the seat's roots in one cut). By AI agents, Wed Nov 11 2026. No macro, syntax, notation, axiom, sorry.
-/
import Derived.Test.Qxb6632226aChecked
import GoSem.Claim
import GoSem.ClaimJoined
import GoSem.ClaimMapViews
import Derived.JoinedTies
import Derived.KernelRfl
namespace Go.Proofs.Qxb6632226a
/- THE CELL 'sum', in the pinned program and in every row, IS THE sha256 OF THE DUMP (.gsa) THAT Qxb6632226aProg.lean LOADS. Nothing in Lean hashes anything: it is a label: what it is worth is what the hold of that sum in a sandbox is worth. -/
noncomputable def Try.pinned : Pinned := { name := "qxb6632226a", sum := "af97eae4be24cc77bba2c12f220f68af3c81a17a8d748f7db2d17a1d3237aa17", checked := Try.checked }
namespace Rows
def none {H : Type} : Left H := { results := [], args := [] }

/-- 'zzlaws_pkg_beads_b1.FnHex4MatchesDigitTableModel': WHATEVER THE INPUT: true; the input reads as it did. -/
def fnHex4MatchesDigitTableModelSpec : ChangeSpec := { name := "fnHex4MatchesDigitTableModel", fn := fun _ => fun
  | [d] => { results := [.lit (.bool true)], args := [d] }
  | _ => none }
def fnHex4MatchesDigitTableModelRow : OpenClaim := { program := "qxb6632226a", sum := "af97eae4be24cc77bba2c12f220f68af3c81a17a8d748f7db2d17a1d3237aa17", func := "example.com/retort/retort/zzlaws_pkg_beads_b1.FnHex4MatchesDigitTableModel", spec := "fnHex4MatchesDigitTableModel", apart := false }
def FnHex4MatchesDigitTableModelSaid : Prop := fnHex4MatchesDigitTableModelRow.holds Try.pinned (OpenSpec.ofChange fnHex4MatchesDigitTableModelSpec)

/-- ITS FALSE NEIGHBOUR: 'it returns false'. Refute it at one input. -/
def fnHex4MatchesDigitTableModelWrong : ChangeSpec := { name := "fnHex4MatchesDigitTableModel", fn := fun _ => fun
  | [d] => { results := [.lit (.bool false)], args := [d] }
  | _ => none }
def FnHex4MatchesDigitTableModelWrongFalsely : Prop := fnHex4MatchesDigitTableModelRow.holds Try.pinned (OpenSpec.ofChange fnHex4MatchesDigitTableModelWrong)

/-- 'zzlaws_pkg_beads_b1.FnHex4DecodesEveryFourDigitEncoding': WHATEVER THE INPUT: true; the input reads as it did. -/
def fnHex4DecodesEveryFourDigitEncodingSpec : ChangeSpec := { name := "fnHex4DecodesEveryFourDigitEncoding", fn := fun _ => fun
  | [d1, d2, d3] => { results := [.lit (.bool true)], args := [d1, d2, d3] }
  | _ => none }
def fnHex4DecodesEveryFourDigitEncodingRow : OpenClaim := { program := "qxb6632226a", sum := "af97eae4be24cc77bba2c12f220f68af3c81a17a8d748f7db2d17a1d3237aa17", func := "example.com/retort/retort/zzlaws_pkg_beads_b1.FnHex4DecodesEveryFourDigitEncoding", spec := "fnHex4DecodesEveryFourDigitEncoding", apart := false }
def FnHex4DecodesEveryFourDigitEncodingSaid : Prop := fnHex4DecodesEveryFourDigitEncodingRow.holds Try.pinned (OpenSpec.ofChange fnHex4DecodesEveryFourDigitEncodingSpec)

/-- ITS FALSE NEIGHBOUR: 'it returns false'. Refute it at one input. -/
def fnHex4DecodesEveryFourDigitEncodingWrong : ChangeSpec := { name := "fnHex4DecodesEveryFourDigitEncoding", fn := fun _ => fun
  | [d1, d2, d3] => { results := [.lit (.bool false)], args := [d1, d2, d3] }
  | _ => none }
def FnHex4DecodesEveryFourDigitEncodingWrongFalsely : Prop := fnHex4DecodesEveryFourDigitEncodingRow.holds Try.pinned (OpenSpec.ofChange fnHex4DecodesEveryFourDigitEncodingWrong)

end Rows
end Go.Proofs.Qxb6632226a
