/-
  MEMORY, PLAIN: what a block of the call's own holds ('Blk'), a row of elements of several cells each ('Own'), and what each step of a walk does to them. No program of the seat is imported.
-/
import Derived.WalkKit
namespace Go.Proofs.Qxb6612441a
open Go.RowKit

/-- Block b holds the values L in its first cells; none of its cells is frozen. -/
structure Blk (w : World) (b : Nat) (L : List Value) : Prop where
  lt : b < w.heap.size
  free : ∀ j, w.frozen? ⟨b, j, none⟩ = false
  cells : ∀ j, j < L.length → w.cell? ⟨b, j, none⟩ = L[j]?

theorem Blk.below {w w' : World} {b B : Nat} {L : List Value} (h : Blk w b L) (hb : Below B w w') (hB : b < B) : Blk w' b L :=
  ⟨Nat.lt_of_lt_of_le h.lt hb.size, fun j => (hb.frozen (p := ⟨b, j, none⟩) hB).trans (h.free j), fun j hj => (hb.cell (p := ⟨b, j, none⟩) hB).trans (h.cells j hj)⟩

theorem Blk.of_block {w w' : World} {b : Nat} {L : List Value} (h : Blk w b L) (e : w'.heap[b]? = w.heap[b]?) : Blk w' b L := by
  refine ⟨?_, fun j => (World.frozen?_of_block (w := w) (a := ⟨b, j, none⟩) e).trans (h.free j), fun j hj => (World.cell?_of_block (w := w) (a := ⟨b, j, none⟩) e).trans (h.cells j hj)⟩
  have h1 := h.lt
  rw [Array.getElem?_eq_getElem h1] at e
  exact (Array.getElem?_eq_some_iff.1 e).1

theorem Blk.alloc {w : World} {b : Nat} {L : List Value} (h : Blk w b L) (o : Obj) : Blk (w.alloc o) b L := h.of_block (Below.heap_alloc w o b h.lt)
theorem Blk.drew {w : World} {b : Nat} {L : List Value} (h : Blk w b L) : Blk w.drew b L := h.of_block rfl
theorem Blk.setOther {w : World} {b : Nat} {L : List Value} (h : Blk w b L) {a : Addr} (hne : b ≠ a.block) (v : Value) : Blk (w.setCell a v) b L := h.of_block (Below.heap_setCell w a v b hne)
theorem Blk.set {w : World} {b : Nat} {L : List Value} (h : Blk w b L) (i : Nat) (v : Value) : Blk (w.setCell ⟨b, i, none⟩ v) b (L.set i v) := by
  refine ⟨by simpa [World.setCell] using h.lt, fun j => by rw [World.frozen?_setCell]; exact h.free j, fun j hj => ?_⟩
  have hj' : j < L.length := by simpa using hj
  have h1 := h.cells j hj'
  rw [List.getElem?_eq_getElem hj'] at h1
  by_cases e : i = j
  · subst e
    rw [World.cell?_setCell_same _ _ _ h1, List.getElem?_set]
    simp [hj']
  · rw [World.cell?_setCell_other _ _ _ _ (by simp), List.getElem?_set, if_neg e, h1, List.getElem?_eq_getElem hj']
theorem Blk.new (w : World) (c : Array Value) (t : TypeId) : Blk (w.alloc (.cells c t)) w.heap.size c.toList :=
  ⟨by simp, fun j => World.frozen?_alloc_new w c t j, fun j _ => by rw [World.cell?_alloc_new]; simp⟩
theorem Blk.cell {w : World} {b : Nat} {L : List Value} (h : Blk w b L) {j : Nat} {v : Value} (e : L[j]? = some v) : w.cell? ⟨b, j, none⟩ = some v := by
  rw [h.cells j (List.getElem?_eq_some_iff.1 e).1, e]

/-! ### A row of elements of 'sz' cells each -/
/-- From cell 'off' of block b on lie the elements l, each as the cells 'c x'. -/
def Lies {α : Type} (w : World) (b off sz : Nat) (c : α → List Value) (l : List α) : Prop :=
  ∀ k, (h : k < l.length) → ∀ j, j < sz → w.cell? ⟨b, off + k * sz + j, none⟩ = (c l[k])[j]?

theorem Lies.below {α : Type} {w w' : World} {b off sz B : Nat} {c : α → List Value} {l : List α} (h : Lies w b off sz c l) (hb : Below B w w') (hB : b < B) : Lies w' b off sz c l :=
  fun k hk j hj => (hb.cell (p := ⟨b, _, none⟩) hB).trans (h k hk j hj)

/-- A row of the call's own: block b, from its first cell on. -/
structure Own {α : Type} (w : World) (b sz : Nat) (c : α → List Value) (l : List α) : Prop where
  lt : b < w.heap.size
  free : ∀ j, w.frozen? ⟨b, j, none⟩ = false
  lies : Lies w b 0 sz c l

section
variable {α : Type} {w w' : World} {b sz : Nat} {c : α → List Value} {l : List α}

theorem Own.at_ (h : Own w b sz c l) (k : Nat) (hk : k < l.length) (j : Nat) (hj : j < sz) : w.cell? ⟨b, k * sz + j, none⟩ = (c l[k])[j]? := by
  have := h.lies k hk j hj
  rwa [Nat.zero_add] at this

theorem Own.below {B : Nat} (h : Own w b sz c l) (hb : Below B w w') (hB : b < B) : Own w' b sz c l :=
  ⟨Nat.lt_of_lt_of_le h.lt hb.size, fun j => (hb.frozen (p := ⟨b, j, none⟩) hB).trans (h.free j), h.lies.below hb hB⟩

theorem Own.of_block (h : Own w b sz c l) (e : w'.heap[b]? = w.heap[b]?) : Own w' b sz c l := by
  refine ⟨?_, fun j => (World.frozen?_of_block (w := w) (a := ⟨b, j, none⟩) e).trans (h.free j), fun k hk j hj => (World.cell?_of_block (w := w) (a := ⟨b, _, none⟩) e).trans (h.lies k hk j hj)⟩
  have h1 := h.lt
  rw [Array.getElem?_eq_getElem h1] at e
  exact (Array.getElem?_eq_some_iff.1 e).1

theorem Own.alloc (h : Own w b sz c l) (o : Obj) : Own (w.alloc o) b sz c l := h.of_block (Below.heap_alloc w o b h.lt)
theorem Own.drew (h : Own w b sz c l) : Own w.drew b sz c l := h.of_block rfl
theorem Own.setOther (h : Own w b sz c l) {a : Addr} (hne : b ≠ a.block) (v : Value) : Own (w.setCell a v) b sz c l := h.of_block (Below.heap_setCell w a v b hne)

theorem size_setCells (b : Nat) : ∀ (vs : List Value) (o : Nat) (w : World), (w.setCells b o vs).heap.size = w.heap.size
  | [], _, _ => rfl
  | v :: r, o, w => by rw [World.setCells, size_setCells b r]; simp [World.setCell]

theorem heap_setCells_other (b : Nat) : ∀ (vs : List Value) (o : Nat) (w : World) (k : Nat), k ≠ b → (w.setCells b o vs).heap[k]? = w.heap[k]?
  | [], _, _, _, _ => rfl
  | v :: r, o, w, k, h => by rw [World.setCells, heap_setCells_other b r _ _ k h]; exact Below.heap_setCell w _ v k h

theorem Own.setsOther (h : Own w b sz c l) {b' : Nat} (hne : b ≠ b') (o : Nat) (vs : List Value) : Own (w.setCells b' o vs) b sz c l := h.of_block (heap_setCells_other b' vs o w b hne)
theorem Blk.setsOther {L : List Value} (h : Blk w b L) {b' : Nat} (hne : b ≠ b') (o : Nat) (vs : List Value) : Blk (w.setCells b' o vs) b L := h.of_block (heap_setCells_other b' vs o w b hne)

theorem below_sets {B b : Nat} (hb : B ≤ b) : ∀ (vs : List Value) (o : Nat) (a w : World), Below B a w → Below B a (w.setCells b o vs)
  | [], _, _, _, h => h
  | v :: r, o, a, _, h => below_sets hb r (o + 1) a _ (h.setCell hb v)

/-- A store of a whole element into the row. -/
theorem Own.sets (hc : ∀ x, (c x).length = sz) (h : Own w b sz c l) (k : Nat) (hk : k < l.length) (x : α) : Own (w.setCells b (k * sz) (c x)) b sz c (l.set k x) := by
  refine ⟨by rw [size_setCells]; exact h.lt, fun j => by rw [World.frozen?_setCells]; exact h.free j, fun i hi j hj => ?_⟩
  have hi' : i < l.length := by simpa using hi
  rw [Nat.zero_add]
  by_cases e : i = k
  · subst e
    have hs := World.cell?_setCells_in b (c x) (i * sz) w (fun j hj => by
      rw [h.at_ i hi' j (by rw [← hc x]; exact hj), List.getElem?_eq_getElem (by rw [hc, ← hc x]; exact hj)]; rfl) j (by rw [hc]; exact hj)
    rw [hs, List.getElem_set_self, List.getElem?_eq_getElem (by rw [hc]; exact hj)]
  · rw [List.getElem_set_ne (by omega), World.cell?_setCells_out]
    · exact h.at_ i hi' j hj
    · intro _ _
      rw [hc]
      show i * sz + j < k * sz ∨ k * sz + sz ≤ i * sz + j
      rcases Nat.lt_or_gt_of_ne e with h1 | h1
      · left
        have : (i + 1) * sz ≤ k * sz := Nat.mul_le_mul_right _ h1
        rw [Nat.add_mul] at this
        omega
      · right
        have : (k + 1) * sz ≤ i * sz := Nat.mul_le_mul_right _ h1
        rw [Nat.add_mul] at this
        omega

/-- A store of one cell of an element. -/
theorem Own.setOne (hc : ∀ x, (c x).length = sz) (h : Own w b sz c l) (k : Nat) (hk : k < l.length) (j : Nat) (hj : j < sz) (v : Value) (x : α) (hx : c x = (c l[k]).set j v) : Own (w.setCell ⟨b, k * sz + j, none⟩ v) b sz c (l.set k x) := by
  refine ⟨by simpa [World.setCell] using h.lt, fun i => by rw [World.frozen?_setCell]; exact h.free i, fun i hi t ht => ?_⟩
  have hi' : i < l.length := by simpa using hi
  rw [Nat.zero_add]
  have hold := h.at_ i hi' t ht
  rw [List.getElem?_eq_getElem (by rw [hc]; exact ht)] at hold
  by_cases e : i = k
  · subst e
    rw [List.getElem_set_self, hx, List.getElem?_set]
    by_cases e2 : j = t
    · subst e2
      rw [World.cell?_setCell_same _ _ _ hold, if_pos rfl, if_pos (by rw [hc]; exact hj)]
    · rw [World.cell?_setCell_other _ _ _ _ (by simp), if_neg e2, h.at_ i hi' t ht]
  · rw [List.getElem_set_ne (by omega), World.cell?_setCell_other _ _ _ _ ?_]
    · exact h.at_ i hi' t ht
    · intro hh
      have e3 : k * sz + j = i * sz + t := by injection hh
      rcases Nat.lt_or_gt_of_ne e with h1 | h1
      · have : (i + 1) * sz ≤ k * sz := Nat.mul_le_mul_right _ h1
        rw [Nat.add_mul] at this
        omega
      · have : (k + 1) * sz ≤ i * sz := Nat.mul_le_mul_right _ h1
        rw [Nat.add_mul] at this
        omega

/-- What make lays. -/
theorem Own.made (w : World) (z : Array Value) (d : α) (n : Nat) (t : TypeId) (hz : z.size = sz) (hd : (c d) = z.toList) : Own (w.alloc (.cells (madeCells z (n * sz)) t)) w.heap.size sz c (List.replicate n d) := by
  refine ⟨by simp, fun j => World.frozen?_alloc_new w _ t j, fun k hk j hj => ?_⟩
  have hk' : k < n := by simpa using hk
  rw [Nat.zero_add, World.cell?_alloc_new]
  have h1 : k * sz + j < n * sz := by
    have : (k + 1) * sz ≤ n * sz := Nat.mul_le_mul_right _ hk'
    rw [Nat.add_mul] at this
    omega
  have h2 : (k * sz + j) % sz = j := by rw [Nat.mul_comm, Nat.mul_add_mod, Nat.mod_eq_of_lt hj]
  have h3 : j < z.size := by omega
  simp [madeCells, h1, hz, h2, hd]
  rw [getElem!_pos z j h3, Array.getElem?_eq_getElem h3]
end
end Go.Proofs.Qxb6612441a
