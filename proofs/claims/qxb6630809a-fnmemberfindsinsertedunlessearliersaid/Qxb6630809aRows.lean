/-
  No cell of these rows narrows 'for every input' (looked for: loops, veiled, ifaces, maps, wideKeys, modest, calm, conditions, laid).
  DERIVED. THE GIVEN ROWS OF THIS SEAT. 2 by the template 'for every input the law returns true; each argument reads behind the call as it read before'; 0 by the template 'total and deterministic' (their statements: Qxb6630809aTotals.lean).
  GIVEN WITH THE SEED: the statements are not yours to turn. If you find one false, say at which input.
  Laid BY PROGRAM, IN A SANDBOX (cutbox-rows.mjs): the forced cells as the released guide's own fill.sh prints them over the translation 531deb90a27b9317… (all of the seat's roots in one cut). By AI agents, Wed Nov 11 2026. No macro, syntax, notation, axiom, sorry.
-/
import Derived.Test.Qxb6630809aChecked
import GoSem.Claim
import GoSem.ClaimJoined
import GoSem.ClaimMapViews
import Derived.JoinedTies
import Derived.KernelRfl
namespace Go.Proofs.Qxb6630809a
/- THE CELL 'sum', in the pinned program and in every row, IS THE sha256 OF THE DUMP (.gsa) THAT Qxb6630809aProg.lean LOADS. Nothing in Lean hashes anything: it is a label: what it is worth is what the hold of that sum in a sandbox is worth. -/
noncomputable def Try.pinned : Pinned := { name := "qxb6630809a", sum := "531deb90a27b93179a20e52c9e26f82ef48c368a531ff0389f4746e55ad1036c", checked := Try.checked }
namespace Rows
def none {H : Type} : Left H := { results := [], args := [] }

/-- 'zzlaws_internal_raft_b1.FnMemberAgreesAcrossAnyCut': WHATEVER THE INPUT: true; the input reads as it did. -/
def fnMemberAgreesAcrossAnyCutSpec : ChangeSpec := { name := "fnMemberAgreesAcrossAnyCut", fn := fun _ => fun
  | [d1, d2, d3, d4, d5, d6] => { results := [.lit (.bool true)], args := [d1, d2, d3, d4, d5, d6] }
  | _ => none }
def fnMemberAgreesAcrossAnyCutRow : OpenClaim := { program := "qxb6630809a", sum := "531deb90a27b93179a20e52c9e26f82ef48c368a531ff0389f4746e55ad1036c", func := "example.com/helmsway/helmsway/zzlaws_internal_raft_b1.FnMemberAgreesAcrossAnyCut", spec := "fnMemberAgreesAcrossAnyCut", apart := false }
def FnMemberAgreesAcrossAnyCutSaid : Prop := fnMemberAgreesAcrossAnyCutRow.holds Try.pinned (OpenSpec.ofChange fnMemberAgreesAcrossAnyCutSpec)

/-- ITS FALSE NEIGHBOUR: 'it returns false'. Refute it at one input. -/
def fnMemberAgreesAcrossAnyCutWrong : ChangeSpec := { name := "fnMemberAgreesAcrossAnyCut", fn := fun _ => fun
  | [d1, d2, d3, d4, d5, d6] => { results := [.lit (.bool false)], args := [d1, d2, d3, d4, d5, d6] }
  | _ => none }
def FnMemberAgreesAcrossAnyCutWrongFalsely : Prop := fnMemberAgreesAcrossAnyCutRow.holds Try.pinned (OpenSpec.ofChange fnMemberAgreesAcrossAnyCutWrong)

/-- 'zzlaws_internal_raft_b1.FnMemberFindsInsertedUnlessEarlier': WHATEVER THE INPUT: true; the input reads as it did. -/
def fnMemberFindsInsertedUnlessEarlierSpec : ChangeSpec := { name := "fnMemberFindsInsertedUnlessEarlier", fn := fun _ => fun
  | [d1, d2, d3, d4, d5, d6, d7, d8, d9] => { results := [.lit (.bool true)], args := [d1, d2, d3, d4, d5, d6, d7, d8, d9] }
  | _ => none }
def fnMemberFindsInsertedUnlessEarlierRow : OpenClaim := { program := "qxb6630809a", sum := "531deb90a27b93179a20e52c9e26f82ef48c368a531ff0389f4746e55ad1036c", func := "example.com/helmsway/helmsway/zzlaws_internal_raft_b1.FnMemberFindsInsertedUnlessEarlier", spec := "fnMemberFindsInsertedUnlessEarlier", apart := false }
def FnMemberFindsInsertedUnlessEarlierSaid : Prop := fnMemberFindsInsertedUnlessEarlierRow.holds Try.pinned (OpenSpec.ofChange fnMemberFindsInsertedUnlessEarlierSpec)

/-- ITS FALSE NEIGHBOUR: 'it returns false'. Refute it at one input. -/
def fnMemberFindsInsertedUnlessEarlierWrong : ChangeSpec := { name := "fnMemberFindsInsertedUnlessEarlier", fn := fun _ => fun
  | [d1, d2, d3, d4, d5, d6, d7, d8, d9] => { results := [.lit (.bool false)], args := [d1, d2, d3, d4, d5, d6, d7, d8, d9] }
  | _ => none }
def FnMemberFindsInsertedUnlessEarlierWrongFalsely : Prop := fnMemberFindsInsertedUnlessEarlierRow.holds Try.pinned (OpenSpec.ofChange fnMemberFindsInsertedUnlessEarlierWrong)

end Rows
end Go.Proofs.Qxb6630809a
