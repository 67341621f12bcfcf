/-
  No cell of these rows narrows 'for every input' (looked for: loops, veiled, ifaces, maps, wideKeys, modest, calm, conditions, laid).
  DERIVED. THE GIVEN ROWS OF THIS SEAT. 2 by the template 'for every input the law returns true; each argument reads behind the call as it read before'; 0 by the template 'total and deterministic' (their statements: Qxb6630693aTotals.lean).
  GIVEN WITH THE SEED: the statements are not yours to turn. If you find one false, say at which input.
  Laid BY PROGRAM, IN A SANDBOX (cutbox-rows.mjs): the forced cells as the released guide's own fill.sh prints them over the translation 77dcdc3662516260… (all of the seat's roots in one cut). By AI agents, Wed Nov 11 2026. No macro, syntax, notation, axiom, sorry.
-/
import Derived.Test.Qxb6630693aChecked
import GoSem.Claim
import GoSem.ClaimJoined
import GoSem.ClaimMapViews
import Derived.JoinedTies
import Derived.KernelRfl
namespace Go.Proofs.Qxb6630693a
/- THE CELL 'sum', in the pinned program and in every row, IS THE sha256 OF THE DUMP (.gsa) THAT Qxb6630693aProg.lean LOADS. Nothing in Lean hashes anything: it is a label: what it is worth is what the hold of that sum in a sandbox is worth. -/
noncomputable def Try.pinned : Pinned := { name := "qxb6630693a", sum := "77dcdc3662516260a28cc9c57889e0c0e9e5b994c8f26e08d0a8b5e4977289c3", checked := Try.checked }
namespace Rows
def none {H : Type} : Left H := { results := [], args := [] }

/-- 'zzlaws_topology_b1.FnRingIsTheCycle': WHATEVER THE INPUT: true; the input reads as it did. -/
def fnRingIsTheCycleSpec : ChangeSpec := { name := "fnRingIsTheCycle", fn := fun _ => fun
  | [d] => { results := [.lit (.bool true)], args := [d] }
  | _ => none }
def fnRingIsTheCycleRow : OpenClaim := { program := "qxb6630693a", sum := "77dcdc3662516260a28cc9c57889e0c0e9e5b994c8f26e08d0a8b5e4977289c3", func := "example.com/quietwatch/quietwatch/zzlaws_topology_b1.FnRingIsTheCycle", spec := "fnRingIsTheCycle", recurses := true, apart := false }
def FnRingIsTheCycleSaid : Prop := fnRingIsTheCycleRow.holds Try.pinned (OpenSpec.ofChange fnRingIsTheCycleSpec)

/-- ITS FALSE NEIGHBOUR: 'it returns false'. Refute it at one input. -/
def fnRingIsTheCycleWrong : ChangeSpec := { name := "fnRingIsTheCycle", fn := fun _ => fun
  | [d] => { results := [.lit (.bool false)], args := [d] }
  | _ => none }
def FnRingIsTheCycleWrongFalsely : Prop := fnRingIsTheCycleRow.holds Try.pinned (OpenSpec.ofChange fnRingIsTheCycleWrong)

/-- 'zzlaws_topology_b1.FnRingGrowsByOneMember': WHATEVER THE INPUT: true; the input reads as it did. -/
def fnRingGrowsByOneMemberSpec : ChangeSpec := { name := "fnRingGrowsByOneMember", fn := fun _ => fun
  | [d] => { results := [.lit (.bool true)], args := [d] }
  | _ => none }
def fnRingGrowsByOneMemberRow : OpenClaim := { program := "qxb6630693a", sum := "77dcdc3662516260a28cc9c57889e0c0e9e5b994c8f26e08d0a8b5e4977289c3", func := "example.com/quietwatch/quietwatch/zzlaws_topology_b1.FnRingGrowsByOneMember", spec := "fnRingGrowsByOneMember", recurses := true, apart := false }
def FnRingGrowsByOneMemberSaid : Prop := fnRingGrowsByOneMemberRow.holds Try.pinned (OpenSpec.ofChange fnRingGrowsByOneMemberSpec)

/-- ITS FALSE NEIGHBOUR: 'it returns false'. Refute it at one input. -/
def fnRingGrowsByOneMemberWrong : ChangeSpec := { name := "fnRingGrowsByOneMember", fn := fun _ => fun
  | [d] => { results := [.lit (.bool false)], args := [d] }
  | _ => none }
def FnRingGrowsByOneMemberWrongFalsely : Prop := fnRingGrowsByOneMemberRow.holds Try.pinned (OpenSpec.ofChange fnRingGrowsByOneMemberWrong)

end Rows
end Go.Proofs.Qxb6630693a
