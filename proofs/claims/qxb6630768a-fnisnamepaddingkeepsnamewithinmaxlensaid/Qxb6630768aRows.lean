/-
  No cell of these rows narrows 'for every input' (looked for: loops, veiled, ifaces, maps, wideKeys, modest, calm, conditions, laid).
  DERIVED. THE GIVEN ROWS OF THIS SEAT. 2 by the template 'for every input the law returns true; each argument reads behind the call as it read before'; 0 by the template 'total and deterministic' (their statements: Qxb6630768aTotals.lean).
  GIVEN WITH THE SEED: the statements are not yours to turn. If you find one false, say at which input.
  Laid BY PROGRAM, IN A SANDBOX (cutbox-rows.mjs): the forced cells as the released guide's own fill.sh prints them over the translation 14e1c6f136ea289c… (all of the seat's roots in one cut). By AI agents, Wed Nov 11 2026. No macro, syntax, notation, axiom, sorry.
-/
import Derived.Test.Qxb6630768aChecked
import GoSem.Claim
import GoSem.ClaimJoined
import GoSem.ClaimMapViews
import Derived.JoinedTies
import Derived.KernelRfl
namespace Go.Proofs.Qxb6630768a
/- THE CELL 'sum', in the pinned program and in every row, IS THE sha256 OF THE DUMP (.gsa) THAT Qxb6630768aProg.lean LOADS. Nothing in Lean hashes anything: it is a label: what it is worth is what the hold of that sum in a sandbox is worth. -/
noncomputable def Try.pinned : Pinned := { name := "qxb6630768a", sum := "14e1c6f136ea289c6a8fcde18a356dd704e93fd57ee787c1da05722d7e07a9be", checked := Try.checked }
namespace Rows
def none {H : Type} : Left H := { results := [], args := [] }

/-- 'zzlaws_tuple_b1.FnIsNameIsDocumentedAlphabetByteWise': WHATEVER THE INPUT: true; the input reads as it did. -/
def fnIsNameIsDocumentedAlphabetByteWiseSpec : ChangeSpec := { name := "fnIsNameIsDocumentedAlphabetByteWise", fn := fun _ => fun
  | [d] => { results := [.lit (.bool true)], args := [d] }
  | _ => none }
def fnIsNameIsDocumentedAlphabetByteWiseRow : OpenClaim := { program := "qxb6630768a", sum := "14e1c6f136ea289c6a8fcde18a356dd704e93fd57ee787c1da05722d7e07a9be", func := "example.com/userset/userset/zzlaws_tuple_b1.FnIsNameIsDocumentedAlphabetByteWise", spec := "fnIsNameIsDocumentedAlphabetByteWise", apart := false }
def FnIsNameIsDocumentedAlphabetByteWiseSaid : Prop := fnIsNameIsDocumentedAlphabetByteWiseRow.holds Try.pinned (OpenSpec.ofChange fnIsNameIsDocumentedAlphabetByteWiseSpec)

/-- ITS FALSE NEIGHBOUR: 'it returns false'. Refute it at one input. -/
def fnIsNameIsDocumentedAlphabetByteWiseWrong : ChangeSpec := { name := "fnIsNameIsDocumentedAlphabetByteWise", fn := fun _ => fun
  | [d] => { results := [.lit (.bool false)], args := [d] }
  | _ => none }
def FnIsNameIsDocumentedAlphabetByteWiseWrongFalsely : Prop := fnIsNameIsDocumentedAlphabetByteWiseRow.holds Try.pinned (OpenSpec.ofChange fnIsNameIsDocumentedAlphabetByteWiseWrong)

/-- 'zzlaws_tuple_b1.FnIsNamePaddingKeepsNameWithinMaxLen': WHATEVER THE INPUT: true; the input reads as it did. -/
def fnIsNamePaddingKeepsNameWithinMaxLenSpec : ChangeSpec := { name := "fnIsNamePaddingKeepsNameWithinMaxLen", fn := fun _ => fun
  | [d1, d2, d3] => { results := [.lit (.bool true)], args := [d1, d2, d3] }
  | _ => none }
def fnIsNamePaddingKeepsNameWithinMaxLenRow : OpenClaim := { program := "qxb6630768a", sum := "14e1c6f136ea289c6a8fcde18a356dd704e93fd57ee787c1da05722d7e07a9be", func := "example.com/userset/userset/zzlaws_tuple_b1.FnIsNamePaddingKeepsNameWithinMaxLen", spec := "fnIsNamePaddingKeepsNameWithinMaxLen", apart := false }
def FnIsNamePaddingKeepsNameWithinMaxLenSaid : Prop := fnIsNamePaddingKeepsNameWithinMaxLenRow.holds Try.pinned (OpenSpec.ofChange fnIsNamePaddingKeepsNameWithinMaxLenSpec)

/-- ITS FALSE NEIGHBOUR: 'it returns false'. Refute it at one input. -/
def fnIsNamePaddingKeepsNameWithinMaxLenWrong : ChangeSpec := { name := "fnIsNamePaddingKeepsNameWithinMaxLen", fn := fun _ => fun
  | [d1, d2, d3] => { results := [.lit (.bool false)], args := [d1, d2, d3] }
  | _ => none }
def FnIsNamePaddingKeepsNameWithinMaxLenWrongFalsely : Prop := fnIsNamePaddingKeepsNameWithinMaxLenRow.holds Try.pinned (OpenSpec.ofChange fnIsNamePaddingKeepsNameWithinMaxLenWrong)

end Rows
end Go.Proofs.Qxb6630768a
