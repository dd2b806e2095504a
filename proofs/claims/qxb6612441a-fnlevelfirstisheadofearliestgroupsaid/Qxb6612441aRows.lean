/-
  No cell of these rows narrows 'for every input' (looked for: loops, veiled, ifaces, maps, wideKeys, modest, calm, conditions, laid).
  DERIVED. THE GIVEN ROWS OF THIS SEAT. 3 by the template 'for every input the law returns true; each argument reads behind the call as it read before'; 0 by the template 'total and deterministic' (their statements: Qxb6612441aTotals.lean).
  GIVEN WITH THE SEED: the statements are not yours to turn. If you find one false, say at which input.
  Laid BY PROGRAM, IN A SANDBOX (cutbox-rows.mjs): the forced cells as the released guide's own fill.sh prints them over the translation 4246e742eead3492… (all of the seat's roots in one cut). By AI agents, Wed Nov 11 2026. No macro, syntax, notation, axiom, sorry.
-/
import Derived.Test.Qxb6612441aChecked
import GoSem.Claim
import GoSem.ClaimJoined
import GoSem.ClaimMapViews
import Derived.JoinedTies
import Derived.KernelRfl
namespace Go.Proofs.Qxb6612441a
/- THE CELL 'sum', in the pinned program and in every row, IS THE sha256 OF THE DUMP (.gsa) THAT Qxb6612441aProg.lean LOADS. Nothing in Lean hashes anything: it is a label: what it is worth is what the hold of that sum in a sandbox is worth. -/
noncomputable def Try.pinned : Pinned := { name := "qxb6612441a", sum := "4246e742eead349225d6c248b5a69f61f36068166eae96b5abcdd8f7dd8a9fd7", checked := Try.checked }
namespace Rows
def none {H : Type} : Left H := { results := [], args := [] }

/-- 'zzlaws_root_b1.FnLevelFirstIsHeadOfEarliestGroup': WHATEVER THE INPUT: true; the input reads as it did. -/
def fnLevelFirstIsHeadOfEarliestGroupSpec : ChangeSpec := { name := "fnLevelFirstIsHeadOfEarliestGroup", fn := fun _ => fun
  | [d1, d2] => { results := [.lit (.bool true)], args := [d1, d2] }
  | _ => none }
def fnLevelFirstIsHeadOfEarliestGroupRow : OpenClaim := { program := "qxb6612441a", sum := "4246e742eead349225d6c248b5a69f61f36068166eae96b5abcdd8f7dd8a9fd7", func := "example.com/moorline/moorline/zzlaws_root_b1.FnLevelFirstIsHeadOfEarliestGroup", spec := "fnLevelFirstIsHeadOfEarliestGroup", plainKeys := false, apart := false }
def FnLevelFirstIsHeadOfEarliestGroupSaid : Prop := fnLevelFirstIsHeadOfEarliestGroupRow.holds Try.pinned (OpenSpec.ofChange fnLevelFirstIsHeadOfEarliestGroupSpec)

/-- ITS FALSE NEIGHBOUR: 'it returns false'. Refute it at one input. -/
def fnLevelFirstIsHeadOfEarliestGroupWrong : ChangeSpec := { name := "fnLevelFirstIsHeadOfEarliestGroup", fn := fun _ => fun
  | [d1, d2] => { results := [.lit (.bool false)], args := [d1, d2] }
  | _ => none }
def FnLevelFirstIsHeadOfEarliestGroupWrongFalsely : Prop := fnLevelFirstIsHeadOfEarliestGroupRow.holds Try.pinned (OpenSpec.ofChange fnLevelFirstIsHeadOfEarliestGroupWrong)

/-- 'zzlaws_root_b1.FnLevelFirstDrainVisitsNonemptyGroupsInOrder': WHATEVER THE INPUT: true; the input reads as it did. -/
def fnLevelFirstDrainVisitsNonemptyGroupsInOrderSpec : ChangeSpec := { name := "fnLevelFirstDrainVisitsNonemptyGroupsInOrder", fn := fun _ => fun
  | [d] => { results := [.lit (.bool true)], args := [d] }
  | _ => none }
def fnLevelFirstDrainVisitsNonemptyGroupsInOrderRow : OpenClaim := { program := "qxb6612441a", sum := "4246e742eead349225d6c248b5a69f61f36068166eae96b5abcdd8f7dd8a9fd7", func := "example.com/moorline/moorline/zzlaws_root_b1.FnLevelFirstDrainVisitsNonemptyGroupsInOrder", spec := "fnLevelFirstDrainVisitsNonemptyGroupsInOrder", plainKeys := false, apart := false }
def FnLevelFirstDrainVisitsNonemptyGroupsInOrderSaid : Prop := fnLevelFirstDrainVisitsNonemptyGroupsInOrderRow.holds Try.pinned (OpenSpec.ofChange fnLevelFirstDrainVisitsNonemptyGroupsInOrderSpec)

/-- ITS FALSE NEIGHBOUR: 'it returns false'. Refute it at one input. -/
def fnLevelFirstDrainVisitsNonemptyGroupsInOrderWrong : ChangeSpec := { name := "fnLevelFirstDrainVisitsNonemptyGroupsInOrder", fn := fun _ => fun
  | [d] => { results := [.lit (.bool false)], args := [d] }
  | _ => none }
def FnLevelFirstDrainVisitsNonemptyGroupsInOrderWrongFalsely : Prop := fnLevelFirstDrainVisitsNonemptyGroupsInOrderRow.holds Try.pinned (OpenSpec.ofChange fnLevelFirstDrainVisitsNonemptyGroupsInOrderWrong)

/-- 'zzlaws_root_b1.FnSeqHeapAdjacentSwapsRotateLeft': WHATEVER THE INPUT: true; the input reads as it did. -/
def fnSeqHeapAdjacentSwapsRotateLeftSpec : ChangeSpec := { name := "fnSeqHeapAdjacentSwapsRotateLeft", fn := fun _ => fun
  | [d] => { results := [.lit (.bool true)], args := [d] }
  | _ => none }
def fnSeqHeapAdjacentSwapsRotateLeftRow : OpenClaim := { program := "qxb6612441a", sum := "4246e742eead349225d6c248b5a69f61f36068166eae96b5abcdd8f7dd8a9fd7", func := "example.com/moorline/moorline/zzlaws_root_b1.FnSeqHeapAdjacentSwapsRotateLeft", spec := "fnSeqHeapAdjacentSwapsRotateLeft", plainKeys := false, apart := false }
def FnSeqHeapAdjacentSwapsRotateLeftSaid : Prop := fnSeqHeapAdjacentSwapsRotateLeftRow.holds Try.pinned (OpenSpec.ofChange fnSeqHeapAdjacentSwapsRotateLeftSpec)

/-- ITS FALSE NEIGHBOUR: 'it returns false'. Refute it at one input. -/
def fnSeqHeapAdjacentSwapsRotateLeftWrong : ChangeSpec := { name := "fnSeqHeapAdjacentSwapsRotateLeft", fn := fun _ => fun
  | [d] => { results := [.lit (.bool false)], args := [d] }
  | _ => none }
def FnSeqHeapAdjacentSwapsRotateLeftWrongFalsely : Prop := fnSeqHeapAdjacentSwapsRotateLeftRow.holds Try.pinned (OpenSpec.ofChange fnSeqHeapAdjacentSwapsRotateLeftWrong)

end Rows
end Go.Proofs.Qxb6612441a
