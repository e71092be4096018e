/-
  No cell of these rows narrows 'for every input' (looked for: loops, veiled, ifaces, maps, wideKeys, modest, calm, conditions, laid).
  DERIVED. THE GIVEN ROWS OF THIS SEAT. 2 by the template 'for every input the law returns true; each argument reads behind the call as it read before'; 0 by the template 'total and deterministic' (their statements: Qxb6000535aTotals.lean).
  GIVEN WITH THE SEED: the statements are not yours to turn. If you find one false, say at which input.
  Laid BY PROGRAM, IN A SANDBOX (cutbox-rows.mjs): the forced cells as the released guide's own fill.sh prints them over the translation 83a950656c43bcdb… (all of the seat's roots in one cut). By AI agents, Wed Nov 11 2026. No macro, syntax, notation, axiom, sorry.
-/
import Derived.Test.Qxb6000535aChecked
import GoSem.Claim
import GoSem.ClaimJoined
import GoSem.ClaimMapViews
import Derived.JoinedTies
import Derived.KernelRfl
namespace Go.Proofs.Qxb6000535a
/- THE CELL 'sum', in the pinned program and in every row, IS THE sha256 OF THE DUMP (.gsa) THAT Qxb6000535aProg.lean LOADS. Nothing in Lean hashes anything: it is a label: what it is worth is what the hold of that sum in a sandbox is worth. -/
noncomputable def Try.pinned : Pinned := { name := "qxb6000535a", sum := "83a950656c43bcdb8373883f6064b3cc7d1b54047e35a7ae51d14f471723306c", checked := Try.checked }
namespace Rows
def none {H : Type} : Left H := { results := [], args := [] }

/-- 'zzlaws_protocol_b1.FnBatchGroupsEachNodesNotesInOrder': WHATEVER THE INPUT: true; the input reads as it did. -/
def fnBatchGroupsEachNodesNotesInOrderSpec : ChangeSpec := { name := "fnBatchGroupsEachNodesNotesInOrder", fn := fun _ => fun
  | [d1, d2, d3, d4, d5] => { results := [.lit (.bool true)], args := [d1, d2, d3, d4, d5] }
  | _ => none }
def fnBatchGroupsEachNodesNotesInOrderRow : OpenClaim := { program := "qxb6000535a", sum := "83a950656c43bcdb8373883f6064b3cc7d1b54047e35a7ae51d14f471723306c", func := "example.com/pactum/pactum/zzlaws_protocol_b1.FnBatchGroupsEachNodesNotesInOrder", spec := "fnBatchGroupsEachNodesNotesInOrder", apart := false }
def FnBatchGroupsEachNodesNotesInOrderSaid : Prop := fnBatchGroupsEachNodesNotesInOrderRow.holds Try.pinned (OpenSpec.ofChange fnBatchGroupsEachNodesNotesInOrderSpec)

/-- ITS FALSE NEIGHBOUR: 'it returns false'. Refute it at one input. -/
def fnBatchGroupsEachNodesNotesInOrderWrong : ChangeSpec := { name := "fnBatchGroupsEachNodesNotesInOrder", fn := fun _ => fun
  | [d1, d2, d3, d4, d5] => { results := [.lit (.bool false)], args := [d1, d2, d3, d4, d5] }
  | _ => none }
def FnBatchGroupsEachNodesNotesInOrderWrongFalsely : Prop := fnBatchGroupsEachNodesNotesInOrderRow.holds Try.pinned (OpenSpec.ofChange fnBatchGroupsEachNodesNotesInOrderWrong)

/-- 'zzlaws_protocol_b1.FnBatchOfAPrefixIsAPrefix': WHATEVER THE INPUT: true; the input reads as it did. -/
def fnBatchOfAPrefixIsAPrefixSpec : ChangeSpec := { name := "fnBatchOfAPrefixIsAPrefix", fn := fun _ => fun
  | [d1, d2, d3, d4, d5, d6] => { results := [.lit (.bool true)], args := [d1, d2, d3, d4, d5, d6] }
  | _ => none }
def fnBatchOfAPrefixIsAPrefixRow : OpenClaim := { program := "qxb6000535a", sum := "83a950656c43bcdb8373883f6064b3cc7d1b54047e35a7ae51d14f471723306c", func := "example.com/pactum/pactum/zzlaws_protocol_b1.FnBatchOfAPrefixIsAPrefix", spec := "fnBatchOfAPrefixIsAPrefix", apart := false }
def FnBatchOfAPrefixIsAPrefixSaid : Prop := fnBatchOfAPrefixIsAPrefixRow.holds Try.pinned (OpenSpec.ofChange fnBatchOfAPrefixIsAPrefixSpec)

/-- ITS FALSE NEIGHBOUR: 'it returns false'. Refute it at one input. -/
def fnBatchOfAPrefixIsAPrefixWrong : ChangeSpec := { name := "fnBatchOfAPrefixIsAPrefix", fn := fun _ => fun
  | [d1, d2, d3, d4, d5, d6] => { results := [.lit (.bool false)], args := [d1, d2, d3, d4, d5, d6] }
  | _ => none }
def FnBatchOfAPrefixIsAPrefixWrongFalsely : Prop := fnBatchOfAPrefixIsAPrefixRow.holds Try.pinned (OpenSpec.ofChange fnBatchOfAPrefixIsAPrefixWrong)

end Rows
end Go.Proofs.Qxb6000535a
