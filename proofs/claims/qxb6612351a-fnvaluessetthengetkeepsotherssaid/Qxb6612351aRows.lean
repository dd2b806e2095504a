/-
  No cell of these rows narrows 'for every input' (looked for: loops, veiled, ifaces, maps, wideKeys, modest, calm, conditions, laid).
  DERIVED. THE GIVEN ROWS OF THIS SEAT. 1 by the template 'for every input the law returns true; each argument reads behind the call as it read before'; 0 by the template 'total and deterministic' (their statements: Qxb6612351aTotals.lean).
  GIVEN WITH THE SEED: the statements are not yours to turn. If you find one false, say at which input.
  Laid BY PROGRAM, IN A SANDBOX (cutbox-rows.mjs): the forced cells as the released guide's own fill.sh prints them over the translation 77ba7856ca5a2d2f… (all of the seat's roots in one cut). By AI agents, Wed Nov 11 2026. No macro, syntax, notation, axiom, sorry.
-/
import Derived.Test.Qxb6612351aChecked
import GoSem.Claim
import GoSem.ClaimJoined
import GoSem.ClaimMapViews
import Derived.JoinedTies
import Derived.KernelRfl
namespace Go.Proofs.Qxb6612351a
/- THE CELL 'sum', in the pinned program and in every row, IS THE sha256 OF THE DUMP (.gsa) THAT Qxb6612351aProg.lean LOADS. Nothing in Lean hashes anything: it is a label: what it is worth is what the hold of that sum in a sandbox is worth. -/
noncomputable def Try.pinned : Pinned := { name := "qxb6612351a", sum := "77ba7856ca5a2d2f826e9c75ba04191888161c523ca291fc927725763d3518ce", checked := Try.checked }
namespace Rows
def none {H : Type} : Left H := { results := [], args := [] }

/-- 'zzlaws_root_b1.FnValuesSetThenGetKeepsOthers': WHATEVER THE INPUT: true; the input reads as it did. -/
def fnValuesSetThenGetKeepsOthersSpec : ChangeSpec := { name := "fnValuesSetThenGetKeepsOthers", fn := fun _ => fun
  | [d1, d2, d3, d4] => { results := [.lit (.bool true)], args := [d1, d2, d3, d4] }
  | _ => none }
def fnValuesSetThenGetKeepsOthersRow : OpenClaim := { program := "qxb6612351a", sum := "77ba7856ca5a2d2f826e9c75ba04191888161c523ca291fc927725763d3518ce", func := "example.com/halyard/halyard/zzlaws_root_b1.FnValuesSetThenGetKeepsOthers", spec := "fnValuesSetThenGetKeepsOthers", unfollowed := true, recurses := true, apart := false }
def FnValuesSetThenGetKeepsOthersSaid : Prop := fnValuesSetThenGetKeepsOthersRow.holds Try.pinned (OpenSpec.ofChange fnValuesSetThenGetKeepsOthersSpec)

/-- ITS FALSE NEIGHBOUR: 'it returns false'. Refute it at one input. -/
def fnValuesSetThenGetKeepsOthersWrong : ChangeSpec := { name := "fnValuesSetThenGetKeepsOthers", fn := fun _ => fun
  | [d1, d2, d3, d4] => { results := [.lit (.bool false)], args := [d1, d2, d3, d4] }
  | _ => none }
def FnValuesSetThenGetKeepsOthersWrongFalsely : Prop := fnValuesSetThenGetKeepsOthersRow.holds Try.pinned (OpenSpec.ofChange fnValuesSetThenGetKeepsOthersWrong)

end Rows
end Go.Proofs.Qxb6612351a
