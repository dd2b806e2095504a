/-
  No cell of these rows narrows 'for every input' (looked for: loops, veiled, ifaces, maps, wideKeys, modest, calm, conditions, laid).
  DERIVED. THE GIVEN ROWS OF THIS SEAT. 1 by the template 'for every input the law returns true; each argument reads behind the call as it read before'; 0 by the template 'total and deterministic' (their statements: Qxb6609413aFmtTotals.lean).
  GIVEN WITH THE SEED: the statements are not yours to turn. If you find one false, say at which input.
  Laid BY PROGRAM, IN A SANDBOX (cutbox-rows.mjs): the forced cells as the released guide's own fill.sh prints them over the translation 1e85450aaaaf728c… (all of the seat's roots in one cut). By AI agents, Wed Nov 11 2026. No macro, syntax, notation, axiom, sorry.
-/
import Derived.Test.Qxb6609413aFmtChecked
import GoSem.Claim
import GoSem.ClaimJoined
import GoSem.ClaimMapViews
import Derived.JoinedTies
import Derived.KernelRfl
namespace Go.Proofs.Qxb6609413aFmt
/- THE CELL 'sum', in the pinned program and in every row, IS THE sha256 OF THE DUMP (.gsa) THAT Qxb6609413aFmtProg.lean LOADS. Nothing in Lean hashes anything: it is a label: what it is worth is what the hold of that sum in a sandbox is worth. -/
noncomputable def Tryf.pinned : Pinned := { name := "qxb6609413afmt", sum := "1e85450aaaaf728c35cd1a8a7c5b5add95bf5693b40efaab5432e06eb4f4399c", checked := Tryf.checked }
namespace Rows
def none {H : Type} : Left H := { results := [], args := [] }

/-- 'zzlaws_pkg_yaml_b1.FnScannerFlowEndScript': WHATEVER THE INPUT: true; the input reads as it did. -/
def fnScannerFlowEndScriptSpec : ChangeSpec := { name := "fnScannerFlowEndScript", fn := fun _ => fun
  | [d1, d2, d3, d4, d5, d6, d7, d8, d9] => { results := [.lit (.bool true)], args := [d1, d2, d3, d4, d5, d6, d7, d8, d9] }
  | _ => none }
def fnScannerFlowEndScriptRow : OpenClaim := { program := "qxb6609413afmt", sum := "1e85450aaaaf728c35cd1a8a7c5b5add95bf5693b40efaab5432e06eb4f4399c", func := "example.com/kumquat/kumquat/zzlaws_pkg_yaml_b1.FnScannerFlowEndScript", spec := "fnScannerFlowEndScript", stops := ["fmt.Sprintf, its operands' methods called"], inPlace := ["fmt.Sprintf"], unfollowed := true, recurses := true, apart := false }
/-- NO THEOREM (fmt's text is open here; it may be false): for the released tool's asking of the row's closed facts alone. THE STATEMENT IS 'FnScannerFlowEndScriptToldSaid' (Qxb6609413aFmtCards.lean). -/
def FnScannerFlowEndScriptFormAsk : Prop := fnScannerFlowEndScriptRow.holds Tryf.pinned (OpenSpec.ofChange fnScannerFlowEndScriptSpec)

/-- ITS FALSE NEIGHBOUR: 'it returns false'. Refute it at one input. -/
def fnScannerFlowEndScriptWrong : ChangeSpec := { name := "fnScannerFlowEndScript", fn := fun _ => fun
  | [d1, d2, d3, d4, d5, d6, d7, d8, d9] => { results := [.lit (.bool false)], args := [d1, d2, d3, d4, d5, d6, d7, d8, d9] }
  | _ => none }
def FnScannerFlowEndScriptWrongFormAsk : Prop := fnScannerFlowEndScriptRow.holds Tryf.pinned (OpenSpec.ofChange fnScannerFlowEndScriptWrong)

end Rows
end Go.Proofs.Qxb6609413aFmt
