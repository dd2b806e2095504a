/-
  No cell of these rows narrows 'for every input' (looked for: loops, veiled, ifaces, maps, wideKeys, modest, calm, conditions, laid).
  DERIVED. THE GIVEN ROWS OF THIS SEAT. 1 by the template 'for every input the law returns true; each argument reads behind the call as it read before'; 0 by the template 'total and deterministic' (their statements: Qxb6612455aTotals.lean).
  GIVEN WITH THE SEED: the statements are not yours to turn. If you find one false, say at which input.
  Laid BY PROGRAM, IN A SANDBOX (cutbox-rows.mjs): the forced cells as the released guide's own fill.sh prints them over the translation 8c13b1cb555db7df… (all of the seat's roots in one cut). By AI agents, Wed Nov 11 2026. No macro, syntax, notation, axiom, sorry.
-/
import Derived.Test.Qxb6612455aChecked
import GoSem.Claim
import GoSem.ClaimJoined
import GoSem.ClaimMapViews
import Derived.JoinedTies
import Derived.KernelRfl
namespace Go.Proofs.Qxb6612455a
/- THE CELL 'sum', in the pinned program and in every row, IS THE sha256 OF THE DUMP (.gsa) THAT Qxb6612455aProg.lean LOADS. Nothing in Lean hashes anything: it is a label: what it is worth is what the hold of that sum in a sandbox is worth. -/
noncomputable def Try.pinned : Pinned := { name := "qxb6612455a", sum := "8c13b1cb555db7df42fd6b00bc29bb47e3ea7cd646491ccca9f17f96d963b528", checked := Try.checked }
namespace Rows
def none {H : Type} : Left H := { results := [], args := [] }

/-- 'zzlaws_placement_b1.FnKeepFifoWindow': WHATEVER THE INPUT: true; the input reads as it did. -/
def fnKeepFifoWindowSpec : ChangeSpec := { name := "fnKeepFifoWindow", fn := fun _ => fun
  | [d1, d2] => { results := [.lit (.bool true)], args := [d1, d2] }
  | _ => none }
def fnKeepFifoWindowRow : OpenClaim := { program := "qxb6612455a", sum := "8c13b1cb555db7df42fd6b00bc29bb47e3ea7cd646491ccca9f17f96d963b528", func := "example.com/latticework/latticework/zzlaws_placement_b1.FnKeepFifoWindow", spec := "fnKeepFifoWindow", unfollowed := true, recurses := true, apart := false }
def FnKeepFifoWindowSaid : Prop := fnKeepFifoWindowRow.holds Try.pinned (OpenSpec.ofChange fnKeepFifoWindowSpec)

/-- ITS FALSE NEIGHBOUR: 'it returns false'. Refute it at one input. -/
def fnKeepFifoWindowWrong : ChangeSpec := { name := "fnKeepFifoWindow", fn := fun _ => fun
  | [d1, d2] => { results := [.lit (.bool false)], args := [d1, d2] }
  | _ => none }
def FnKeepFifoWindowWrongFalsely : Prop := fnKeepFifoWindowRow.holds Try.pinned (OpenSpec.ofChange fnKeepFifoWindowWrong)

end Rows
end Go.Proofs.Qxb6612455a
