/-
  FROM WHAT AN ARGUMENT READS AS TO WHAT LIES IN MEMORY: a slice of strings, a slice of ints.
-/
import Derived.Test.Qxb6612351aReads
import Derived.ProofKit
import Derived.Deep.Slices
namespace Go.Proofs.Qxb6612351a
open Go.ChangeShapes Go.WideShapes Go.ChangeAt Go.RowKit

theorem cell_lt {w : World} {a : Addr} {v : Value} (h : w.cell? a = some v) : a.block < w.heap.size := by
  unfold World.cell? at h
  by_cases hb : a.block < w.heap.size
  · exact hb
  · rw [Array.getElem?_eq_none (by omega)] at h
    simp at h

section
variable {H : Type} {enc : TypeId × Value → H} {P : Program} {w : World} {base : Nat} {spare : Nat → Bool} {held : Bool}

theorem open_row {α : Type} (d : α) (c : α → List Value) {sz : Nat} {t e : TypeId} (ht : P.underlying t = some (.slice e)) (hsz : P.cellsOf e = sz) (hpos : 0 < sz) (hc : ∀ x, (c x).length = sz)
    (good : ∀ n cs x, DataW.trod enc P w base spare held n e cs = some x → ∃ y : α, cs = c y) {a : Option Addr} {len cap : Nat} {D : DataW H} {pl : List MemPlace}
    (h : DataW.Trod enc P w base spare held t (.slice a len cap) D pl) : ∃ l : List α, l.length = len ∧ len ≤ maxLen ∧ RowAt w a sz c l := by
  obtain ⟨fuel, hf⟩ := h
  rcases Deep.open_slice ht hf with ⟨hcs, _⟩ | ⟨x, len', cap', m, n, D', Pl, hcs, _, hl, hm, hmm, _, hx⟩
  · simp [Value.cells] at hcs
    obtain ⟨rfl, rfl, rfl⟩ := hcs
    exact ⟨[], rfl, Nat.zero_le _, .inl rfl⟩
  · simp [Value.cells] at hcs
    obtain ⟨rfl, rfl, rfl⟩ := hcs
    have hlm : len ≤ m := by rw [hmm]; split <;> omega
    have hy : ∀ i, i < len → ∃ y : α, w.cells? base (x.add (i * sz)) sz = some (c y) := by
      intro i hi
      obtain ⟨cs', h1, h2⟩ := hx i (by omega)
      rw [hsz] at h1
      obtain ⟨y, rfl⟩ := good _ _ _ h2
      exact ⟨y, h1⟩
    obtain ⟨f, hfy⟩ := @Deep.choose_lt α ⟨d⟩ len (fun i y => w.cells? base (x.add (i * sz)) sz = some (c y)) hy
    refine ⟨(List.range len).map f, by simp, Nat.le_trans hl hm, ?_⟩
    by_cases h0 : len = 0
    · left
      rw [h0]
      rfl
    · right
      obtain ⟨b, off, spot⟩ := x
      have first := (World.cells?_some (hfy 0 (by omega))).2.2 0 hpos
      rw [List.getElem?_eq_getElem (by rw [hc]; exact hpos)] at first
      have hspot : spot = none := by simpa [Addr.add] using World.cell?_spot first
      subst hspot
      refine ⟨b, off, rfl, by simpa [Addr.add] using cell_lt first, fun k hk j hj => ?_⟩
      have hk' : k < len := by simpa using hk
      have := (World.cells?_some (hfy k hk')).2.2 j hj
      rw [add_plain, add_plain] at this
      rw [this]
      simp
end

section
variable {H : Type} {enc : TypeId × Value → H} {w : World} {base : Nat} {spare : Nat → Bool} {held : Bool}

theorem good_string (n : Nat) (cs : List Value) (x : DataW H × List MemPlace) (h : DataW.trod enc Try.prog w base spare held n 9 cs = some x) : ∃ y : ByteArray, cs = sc y := by
  obtain ⟨s, rfl, _⟩ := DataW.trod_string Try.underlying9 h
  exact ⟨s, rfl⟩
theorem good_int (n : Nat) (cs : List Value) (x : DataW H × List MemPlace) (h : DataW.trod enc Try.prog w base spare held n 3 cs = some x) : ∃ y : Int, cs = ic y := by
  obtain ⟨s, rfl, _⟩ := DataW.trod_int Try.underlying3 h
  exact ⟨s, rfl⟩
theorem Try.cells3 : Try.prog.cellsOf 3 = 1 := by kernel_rfl
theorem Try.cells9 : Try.prog.cellsOf 9 = 1 := by kernel_rfl
end
end Go.Proofs.Qxb6612351a
