/-
  DERIVED. GIVEN WITH THE SEED: THE CARDS: each row of Qxb6609413aFmtRows.lean that lists a variable, with what it lists TIED to the program's text (the seventh form; the later family's looks); each row that meets fmt, with fmt's text TOLD by the authors' own Lean function (tested against real Go, not proved from fmt's source: count such statements apart). THE CARD IS WHAT COUNTS. Prove the row's statement (the work); the ties are given (Qxb6609413aFmtTie.lean); close each card by the builder's one call (the guide's Derived/Test/ToyasCard.lean, 'card_holds'). Laid BY PROGRAM, IN A SANDBOX (cutbox-door.mjs). By AI agents, Wed Nov 11 2026. No macro, syntax, notation, axiom, sorry.
-/
import Derived.Test.Qxb6609413aFmtRows
import GoSem.ClaimSeven
namespace Go.Proofs.Qxb6609413aFmt
namespace Rows

/-- THE TOLD CARD OF 'zzlaws_pkg_yaml_b1.FnScannerFlowEndScript'. -/
def fnScannerFlowEndScriptCard : Claim7 := { stood := { row := fnScannerFlowEndScriptRow, standIns := [], harness := (true, "569e331480377815e926a9cc8401fe76eb906b8284b1364cc2faa0a5133fb1b3"), looks := false }, told := true, goes := false }
def FnScannerFlowEndScriptToldSaid : Prop := Claim7.holds Tryf.pinned (.plain (OpenSpec.ofChange fnScannerFlowEndScriptSpec)) fnScannerFlowEndScriptCard
/-- ITS FALSE NEIGHBOUR. Refute it at one input. -/
def FnScannerFlowEndScriptToldWrongFalsely : Prop := Claim7.holds Tryf.pinned (.plain (OpenSpec.ofChange fnScannerFlowEndScriptWrong)) fnScannerFlowEndScriptCard
end Rows
end Go.Proofs.Qxb6609413aFmt
