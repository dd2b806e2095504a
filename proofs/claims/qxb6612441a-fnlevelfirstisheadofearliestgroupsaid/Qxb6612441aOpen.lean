/-
  AN ARRAY OF FOUR BOOLS BY VALUE: what it is, from what it reads as.
-/
import Derived.Test.Qxb6612441aRows
import Derived.ProofKit
import Derived.OpenShut
import Derived.Laws.IdiomArrays
import Derived.ChangeOld
import Derived.Below
namespace Go.Proofs.Qxb6612441a
open Go.ChangeShapes Go.WideShapes Go.ChangeAt Go.RowKit

theorem Try.own : ownKnob Try.prog.godebug = none := by kernel_rfl
theorem Try.laidOut : laidOutB Try.prog = true := by kernel_rfl
theorem Try.cells22 : Try.prog.cellsOf 22 = 4 := by kernel_rfl
theorem Try.cells4 : Try.prog.cellsOf 4 = 1 := by kernel_rfl

theorem list4 {α : Type} (l : List α) (h : l.length = 4) : ∃ a b c d, l = [a, b, c, d] := by
  match l, h with
  | [a, b, c, d], _ => exact ⟨a, b, c, d, rfl⟩

set_option maxRecDepth 100000 in
theorem open_bools {H : Type} {enc : TypeId × Value → H} {W : World} {base : Nat} {spare : Nat → Bool} {held : Bool} {v : Value} {d : DataW H} {p : List MemPlace}
    (hok : Value.okWide Try.prog W .any base 22 v) (h : DataW.Trod enc Try.prog W 0 spare held 22 v d p) : ∃ ne : Nat → Bool, v = .agg #[.bool (ne 0), .bool (ne 1), .bool (ne 2), .bool (ne 3)] := by
  obtain ⟨cs, rfl, hsz, _⟩ : ∃ cs, v = .agg cs ∧ cs.size = Try.prog.cellsOf 22 ∧ Row.okWide Try.prog W .any base 22 cs := by
    simpa [Value.okWide, Try.underlying22] using hok
  rw [Try.cells22] at hsz
  obtain ⟨l⟩ := cs
  obtain ⟨c0, c1, c2, c3, rfl⟩ := list4 l hsz
  obtain ⟨fuel, hf⟩ := h
  obtain ⟨y0, y1, y2, y3, m, _, hy0, hy1, hy2, hy3⟩ := trod_array4 Try.underlying22 Try.cells4 hf
  obtain ⟨x0, e0, _⟩ := DataW.trod_bool Try.underlying4 hy0
  obtain ⟨x1, e1, _⟩ := DataW.trod_bool Try.underlying4 hy1
  obtain ⟨x2, e2, _⟩ := DataW.trod_bool Try.underlying4 hy2
  obtain ⟨x3, e3, _⟩ := DataW.trod_bool Try.underlying4 hy3
  simp at e0 e1 e2 e3
  subst e0 e1 e2 e3
  exact ⟨fun i => [x0, x1, x2, x3].getD i false, rfl⟩
end Go.Proofs.Qxb6612441a
