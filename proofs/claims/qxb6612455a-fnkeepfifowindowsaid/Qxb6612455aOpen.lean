/-
  FROM WHAT AN ARGUMENT READS AS TO WHAT LIES IN MEMORY: a slice of strings.
-/
import Derived.Test.Qxb6612455aReads
import Derived.ProofKit
import Derived.Deep.Slices
namespace Go.Proofs.Qxb6612455a
open Go.ChangeShapes Go.WideShapes Go.ChangeAt Go.RowKit

theorem cell_lt {w : World} {a : Addr} {v : Value} (h : w.cell? a = some v) : a.block < w.heap.size := by
  unfold World.cell? at h
  by_cases hb : a.block < w.heap.size
  · exact hb
  · rw [Array.getElem?_eq_none (by omega)] at h
    simp at h
theorem Try.cells9 : Try.prog.cellsOf 9 = 1 := by kernel_rfl

section
variable {H : Type} {enc : TypeId × Value → H} {w : World} {base : Nat} {spare : Nat → Bool} {held : Bool}

theorem open_texts {a : Option Addr} {len cap : Nat} {D : DataW H} {pl : List MemPlace}
    (h : DataW.Trod enc Try.prog w base spare held 22 (.slice a len cap) D pl) : len ≤ maxLen ∧ ∃ T, TxtAt w a len T := by
  obtain ⟨fuel, hf⟩ := h
  rcases Deep.open_slice Try.underlying22 hf with ⟨hcs, _⟩ | ⟨x, len', cap', m, n, D', Pl, hcs, _, hl, hm, hmm, _, hx⟩
  · simp [Value.cells] at hcs
    obtain ⟨rfl, rfl, rfl⟩ := hcs
    exact ⟨Nat.zero_le _, fun _ => ByteArray.empty, .inl rfl⟩
  · simp [Value.cells] at hcs
    obtain ⟨rfl, rfl, rfl⟩ := hcs
    have hlm : len ≤ m := by rw [hmm]; split <;> omega
    have hy : ∀ i, i < len → ∃ y : ByteArray, w.cells? base (x.add i) 1 = some [.string y] := by
      intro i hi
      obtain ⟨cs', h1, h2⟩ := hx i (by omega)
      rw [Try.cells9, Nat.mul_one] at h1
      obtain ⟨s, rfl, _⟩ := DataW.trod_string Try.underlying9 h2
      exact ⟨s, h1⟩
    obtain ⟨f, hfy⟩ := @Deep.choose_lt ByteArray ⟨ByteArray.empty⟩ len (fun i y => w.cells? base (x.add i) 1 = some [.string y]) hy
    refine ⟨Nat.le_trans hl hm, f, ?_⟩
    by_cases h0 : len = 0
    · exact .inl h0
    · right
      obtain ⟨b, off, spot⟩ := x
      have first := (World.cells?_some (hfy 0 (by omega))).2.2 0 (by decide)
      rw [List.getElem?_eq_getElem (by simp)] at first
      have hspot : spot = none := by
        have := World.cell?_spot first
        unfold Addr.add at this
        cases spot with
        | none => rfl
        | some s => simp at this
      subst hspot
      have hlt := cell_lt first
      rw [add_plain, add_plain] at hlt
      refine ⟨b, off, rfl, hlt, fun k hk => ?_⟩
      have := (World.cells?_some (hfy k hk)).2.2 0 (by decide)
      rw [add_plain, add_plain] at this
      simpa using this
end
end Go.Proofs.Qxb6612455a
