/-
  FROM WHAT AN ARGUMENT READS AS TO WHAT LIES IN MEMORY: a slice of structs, a slice of strings.
-/
import Derived.Test.Qxb6609413aFmtReads
import Derived.ProofKit
import Derived.Deep.Slices
namespace Go.Proofs.Qxb6609413aFmt
open Go.ChangeShapes Go.WideShapes Go.ChangeAt Go.RowKit

theorem cell_lt {w : World} {a : Addr} {v : Value} (h : w.cell? a = some v) : a.block < w.heap.size := by
  unfold World.cell? at h
  by_cases hb : a.block < w.heap.size
  · exact hb
  · rw [Array.getElem?_eq_none (by omega)] at h
    simp at h

section
variable {H : Type} {enc : TypeId × Value → H} {P : Program} {w : World} {base : Nat} {spare : Nat → Bool} {held : Bool}

theorem open_row {α : Type} (d : α) (c : α → List Value) {sz : Nat} {t e : TypeId} (ht : P.underlying t = some (.slice e)) (hsz : P.cellsOf e = sz) (hpos : 0 < sz) (hc : ∀ x, (c x).length = sz)
    (good : ∀ n cs x, DataW.trod enc P w base spare held n e cs = some x → ∃ y : α, cs = c y) {a : Option Addr} {len cap : Nat} {D : DataW H} {pl : List MemPlace}
    (h : DataW.Trod enc P w base spare held t (.slice a len cap) D pl) : ∃ l : List α, l.length = len ∧ len ≤ maxLen ∧ RowAt w a sz c l := by
  obtain ⟨fuel, hf⟩ := h
  rcases Deep.open_slice ht hf with ⟨hcs, _⟩ | ⟨x, len', cap', m, n, D', Pl, hcs, _, hl, hm, hmm, _, hx⟩
  · simp [Value.cells] at hcs
    obtain ⟨rfl, rfl, rfl⟩ := hcs
    exact ⟨[], rfl, Nat.zero_le _, .inl rfl⟩
  · simp [Value.cells] at hcs
    obtain ⟨rfl, rfl, rfl⟩ := hcs
    have hlm : len ≤ m := by rw [hmm]; split <;> omega
    have hy : ∀ i, i < len → ∃ y : α, w.cells? base (x.add (i * sz)) sz = some (c y) := by
      intro i hi
      obtain ⟨cs', h1, h2⟩ := hx i (by omega)
      rw [hsz] at h1
      obtain ⟨y, rfl⟩ := good _ _ _ h2
      exact ⟨y, h1⟩
    obtain ⟨f, hfy⟩ := @Deep.choose_lt α ⟨d⟩ len (fun i y => w.cells? base (x.add (i * sz)) sz = some (c y)) hy
    refine ⟨(List.range len).map f, by simp, Nat.le_trans hl hm, ?_⟩
    by_cases h0 : len = 0
    · left
      rw [h0]
      rfl
    · right
      obtain ⟨b, off, spot⟩ := x
      have first := (World.cells?_some (hfy 0 (by omega))).2.2 0 hpos
      rw [List.getElem?_eq_getElem (by rw [hc]; exact hpos)] at first
      have hspot : spot = none := by simpa [Addr.add] using World.cell?_spot first
      subst hspot
      refine ⟨b, off, rfl, by simpa [Addr.add] using cell_lt first, fun k hk j hj => ?_⟩
      have hk' : k < len := by simpa using hk
      have := (World.cells?_some (hfy k hk')).2.2 j hj
      rw [add_plain, add_plain] at this
      rw [this]
      simp
end

section
variable {H : Type} {enc : TypeId × Value → H} {w : World} {base : Nat} {spare : Nat → Bool} {held : Bool}

theorem good_string (n : Nat) (cs : List Value) (x : DataW H × List MemPlace) (h : DataW.trod enc Tryf.prog w base spare held n 9 cs = some x) : ∃ y : ByteArray, cs = sc y := by
  obtain ⟨s, rfl, _⟩ := DataW.trod_string Tryf.underlying9 h
  exact ⟨s, rfl⟩

theorem Tryf.cells3 : Tryf.prog.cellsOf 3 = 1 := by kernel_rfl
theorem Tryf.cells4 : Tryf.prog.cellsOf 4 = 1 := by kernel_rfl
theorem Tryf.cells9 : Tryf.prog.cellsOf 9 = 1 := by kernel_rfl
theorem Tryf.cells44 : Tryf.prog.cellsOf 44 = 5 := by kernel_rfl
theorem Tryf.cells53 : Tryf.prog.cellsOf 53 = 7 := by kernel_rfl

theorem good_key (n : Nat) (cs : List Value) (x : DataW H × List MemPlace) (h : DataW.trod enc Tryf.prog w base spare held n 44 cs = some x) : ∃ y : Key, cs = kc y := by
  obtain ⟨xs, m, _, _, hl, hxs, hf⟩ := DataW.trod_struct Tryf.underlying44 h
  rw [Tryf.cells44] at hl
  match cs, hl with
  | [v0, v1, v2, v3, v4], _ =>
    have f0 := hf 0 _ rfl
    have f1 := hf 1 _ rfl
    have f2 := hf 2 _ rfl
    have f3 := hf 3 _ rfl
    have f4 := hf 4 _ rfl
    rw [List.getElem?_eq_getElem (by rw [hxs]; decide)] at f0 f1 f2 f3 f4
    obtain ⟨a0, e0, _⟩ := DataW.trod_int Tryf.underlying3 f0
    obtain ⟨a1, e1, _⟩ := DataW.trod_int Tryf.underlying3 f1
    obtain ⟨a2, e2, _⟩ := DataW.trod_int Tryf.underlying3 f2
    obtain ⟨a3, e3, _⟩ := DataW.trod_int Tryf.underlying3 f3
    obtain ⟨a4, e4, _⟩ := DataW.trod_bool Tryf.underlying4 f4
    simp [Tryf.cells3, Tryf.cells4] at e0 e1 e2 e3 e4
    exact ⟨⟨a0, a1, a2, a3, a4⟩, by simp [kc, e0, e1, e2, e3, e4]⟩

theorem good_tok (n : Nat) (cs : List Value) (x : DataW H × List MemPlace) (h : DataW.trod enc Tryf.prog w base spare held n 53 cs = some x) : ∃ y : Tok, cs = tc y := by
  obtain ⟨xs, m, _, _, hl, hxs, hf⟩ := DataW.trod_struct Tryf.underlying53 h
  rw [Tryf.cells53] at hl
  match cs, hl with
  | [v0, v1, v2, v3, v4, v5, v6], _ =>
    have f0 := hf 0 _ rfl
    have f1 := hf 1 _ rfl
    have f2 := hf 2 _ rfl
    have f3 := hf 3 _ rfl
    have f4 := hf 4 _ rfl
    have f5 := hf 5 _ rfl
    have f6 := hf 6 _ rfl
    rw [List.getElem?_eq_getElem (by rw [hxs]; decide)] at f0 f1 f2 f3 f4 f5 f6
    obtain ⟨a0, e0, _⟩ := DataW.trod_string Tryf.underlying9 f0
    obtain ⟨a1, e1, _⟩ := DataW.trod_string Tryf.underlying9 f1
    obtain ⟨a2, e2, _⟩ := DataW.trod_string Tryf.underlying9 f2
    obtain ⟨a3, e3, _⟩ := DataW.trod_string Tryf.underlying9 f3
    obtain ⟨a4, e4, _⟩ := DataW.trod_int Tryf.underlying3 f4
    obtain ⟨a5, e5, _⟩ := DataW.trod_int Tryf.underlying3 f5
    obtain ⟨a6, e6, _⟩ := DataW.trod_int Tryf.underlying3 f6
    simp [Tryf.cells3, Tryf.cells9] at e0 e1 e2 e3 e4 e5 e6
    exact ⟨⟨a0, a1, a2, a3, a4, a5, a6⟩, by simp [tc, e0, e1, e2, e3, e4, e5, e6]⟩
end
end Go.Proofs.Qxb6609413aFmt
