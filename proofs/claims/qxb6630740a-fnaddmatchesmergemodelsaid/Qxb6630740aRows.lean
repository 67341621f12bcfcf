/-
  No cell of these rows narrows 'for every input' (looked for: loops, veiled, ifaces, maps, wideKeys, modest, calm, conditions, laid).
  DERIVED. THE GIVEN ROWS OF THIS SEAT. 2 by the template 'for every input the law returns true; each argument reads behind the call as it read before'; 0 by the template 'total and deterministic' (their statements: Qxb6630740aTotals.lean).
  GIVEN WITH THE SEED: the statements are not yours to turn. If you find one false, say at which input.
  Laid BY PROGRAM, IN A SANDBOX (cutbox-rows.mjs): the forced cells as the released guide's own fill.sh prints them over the translation d6efd7e5f2afb561… (all of the seat's roots in one cut). By AI agents, Wed Nov 11 2026. No macro, syntax, notation, axiom, sorry.
-/
import Derived.Test.Qxb6630740aChecked
import GoSem.Claim
import GoSem.ClaimJoined
import GoSem.ClaimMapViews
import Derived.JoinedTies
import Derived.KernelRfl
namespace Go.Proofs.Qxb6630740a
/- THE CELL 'sum', in the pinned program and in every row, IS THE sha256 OF THE DUMP (.gsa) THAT Qxb6630740aProg.lean LOADS. Nothing in Lean hashes anything: it is a label: what it is worth is what the hold of that sum in a sandbox is worth. -/
noncomputable def Try.pinned : Pinned := { name := "qxb6630740a", sum := "d6efd7e5f2afb56193ad65191b486e520601b1b9c9ebe66cdf525985a096bb6a", checked := Try.checked }
namespace Rows
def none {H : Type} : Left H := { results := [], args := [] }

/-- 'zzlaws_internal_gtid_b1.FnAddMatchesMergeModel': WHATEVER THE INPUT: true; the input reads as it did. -/
def fnAddMatchesMergeModelSpec : ChangeSpec := { name := "fnAddMatchesMergeModel", fn := fun _ => fun
  | [d1, d2, d3, d4] => { results := [.lit (.bool true)], args := [d1, d2, d3, d4] }
  | _ => none }
def fnAddMatchesMergeModelRow : OpenClaim := { program := "qxb6630740a", sum := "d6efd7e5f2afb56193ad65191b486e520601b1b9c9ebe66cdf525985a096bb6a", func := "example.com/quorate/quorate/zzlaws_internal_gtid_b1.FnAddMatchesMergeModel", spec := "fnAddMatchesMergeModel", apart := false }
def FnAddMatchesMergeModelSaid : Prop := fnAddMatchesMergeModelRow.holds Try.pinned (OpenSpec.ofChange fnAddMatchesMergeModelSpec)

/-- ITS FALSE NEIGHBOUR: 'it returns false'. Refute it at one input. -/
def fnAddMatchesMergeModelWrong : ChangeSpec := { name := "fnAddMatchesMergeModel", fn := fun _ => fun
  | [d1, d2, d3, d4] => { results := [.lit (.bool false)], args := [d1, d2, d3, d4] }
  | _ => none }
def FnAddMatchesMergeModelWrongFalsely : Prop := fnAddMatchesMergeModelRow.holds Try.pinned (OpenSpec.ofChange fnAddMatchesMergeModelWrong)

/-- 'zzlaws_internal_gtid_b1.FnAddScriptBuildsCanonicalSet': WHATEVER THE INPUT: true; the input reads as it did. -/
def fnAddScriptBuildsCanonicalSetSpec : ChangeSpec := { name := "fnAddScriptBuildsCanonicalSet", fn := fun _ => fun
  | [d1, d2] => { results := [.lit (.bool true)], args := [d1, d2] }
  | _ => none }
def fnAddScriptBuildsCanonicalSetRow : OpenClaim := { program := "qxb6630740a", sum := "d6efd7e5f2afb56193ad65191b486e520601b1b9c9ebe66cdf525985a096bb6a", func := "example.com/quorate/quorate/zzlaws_internal_gtid_b1.FnAddScriptBuildsCanonicalSet", spec := "fnAddScriptBuildsCanonicalSet", apart := false }
def FnAddScriptBuildsCanonicalSetSaid : Prop := fnAddScriptBuildsCanonicalSetRow.holds Try.pinned (OpenSpec.ofChange fnAddScriptBuildsCanonicalSetSpec)

/-- ITS FALSE NEIGHBOUR: 'it returns false'. Refute it at one input. -/
def fnAddScriptBuildsCanonicalSetWrong : ChangeSpec := { name := "fnAddScriptBuildsCanonicalSet", fn := fun _ => fun
  | [d1, d2] => { results := [.lit (.bool false)], args := [d1, d2] }
  | _ => none }
def FnAddScriptBuildsCanonicalSetWrongFalsely : Prop := fnAddScriptBuildsCanonicalSetRow.holds Try.pinned (OpenSpec.ofChange fnAddScriptBuildsCanonicalSetWrong)

end Rows
end Go.Proofs.Qxb6630740a
