/-
  A row's shape; from a row by its elements ('Own') to a row by its cells ('ownsRow') and back.
-/
import Derived.Test.Qxb6612351aMem
namespace Go.Proofs.Qxb6612351a
open Go.RowKit

def Shape (w : World) (b : Nat) (e : TypeId) (n : Nat) : Prop := ∃ cur : Array Value, w.heap[b]? = some (.cells cur e (0, 0)) ∧ cur.size = n

theorem Shape.new (w : World) (c : Array Value) (e : TypeId) : Shape (w.alloc (.cells c e)) w.heap.size e c.size := ⟨c, heap_alloc_new w _, rfl⟩
theorem Shape.of_block {w w' : World} {b n : Nat} {e : TypeId} (h : Shape w b e n) (he : w'.heap[b]? = w.heap[b]?) : Shape w' b e n := by
  obtain ⟨cur, h1, h2⟩ := h
  exact ⟨cur, he.trans h1, h2⟩
theorem Shape.drew {w : World} {b n : Nat} {e : TypeId} (h : Shape w b e n) : Shape w.drew b e n := h.of_block rfl
theorem Shape.setSame {w : World} {b n : Nat} {e : TypeId} (h : Shape w b e n) (i : Nat) (v : Value) : Shape (w.setCell ⟨b, i, none⟩ v) b e n := by
  obtain ⟨cur, h1, h2⟩ := h
  exact ⟨_, heap_setCell_same w b i cur e v h1, by simpa using h2⟩
theorem Shape.sets {b n : Nat} {e : TypeId} : ∀ (vs : List Value) (o : Nat) {w : World}, Shape w b e n → Shape (w.setCells b o vs) b e n
  | [], _, _, h => h
  | v :: r, o, _, h => Shape.sets r (o + 1) (h.setSame o v)
theorem Shape.setOther {w : World} {b n : Nat} {e : TypeId} (h : Shape w b e n) {a : Addr} (hne : b ≠ a.block) (v : Value) : Shape (w.setCell a v) b e n := h.of_block (Below.heap_setCell w a v b hne)
theorem Shape.lt {w : World} {b n : Nat} {e : TypeId} (h : Shape w b e n) : b < w.heap.size := by
  obtain ⟨cur, h1, _⟩ := h
  exact (Array.getElem?_eq_some_iff.1 h1).1
theorem Shape.alloc {w : World} {b n : Nat} {e : TypeId} (h : Shape w b e n) (o : Obj) : Shape (w.alloc o) b e n := h.of_block (Below.heap_alloc w o b h.lt)

theorem flatMap_len {α : Type} (c : α → List Value) (sz : Nat) (hc : ∀ x, (c x).length = sz) : ∀ l : List α, (l.flatMap c).length = l.length * sz
  | [] => by simp
  | x :: r => by rw [List.flatMap_cons, List.length_append, hc, flatMap_len c sz hc r, List.length_cons, Nat.add_mul]; omega
theorem flatMap_at {α : Type} (c : α → List Value) (sz : Nat) (hc : ∀ x, (c x).length = sz) : ∀ (l : List α) (k : Nat) (hk : k < l.length) (j : Nat), j < sz → (l.flatMap c)[k * sz + j]? = (c l[k])[j]?
  | x :: r, 0, _, j, hj => by
    rw [List.flatMap_cons, Nat.zero_mul, Nat.zero_add, List.getElem?_append_left (by rw [hc]; exact hj)]; rfl
  | x :: r, k + 1, hk, j, hj => by
    rw [List.flatMap_cons, List.getElem?_append_right (by rw [hc, Nat.add_mul]; omega), hc]
    have e : (k + 1) * sz + j - sz = k * sz + j := by rw [Nat.add_mul]; omega
    rw [e, flatMap_at c sz hc r k (by simpa using hk) j hj]
    rfl

section
variable {α : Type} {w : World} {sz : Nat} {c : α → List Value} {l : List α}

theorem own_to_row (hc : ∀ x, (c x).length = sz) (hsz : 0 < sz) {g cap base : Nat} {e : TypeId} (h : Own w g sz c l) (hs : Shape w g e (cap * sz)) (hl : l.length ≤ cap) (hm : cap ≤ maxLen) (hb : base ≤ g) :
    w.ownsRow base e sz (.slice (some ⟨g, 0, none⟩) l.length cap) l.length (l.flatMap c) := by
  obtain ⟨cur, h1, h2⟩ := hs
  refine ⟨flatMap_len c sz hc l, .inr ⟨g, cap, cur, rfl, hb, h1, hl, hm, h2, ?_⟩⟩
  apply List.ext_getElem?
  intro i
  rw [List.getElem?_take]
  by_cases hi : i < l.length * sz
  · rw [if_pos hi]
    have hk : i / sz < l.length := (Nat.div_lt_iff_lt_mul hsz).2 hi
    have hj : i % sz < sz := Nat.mod_lt _ hsz
    have e1 : i / sz * sz + i % sz = i := by rw [Nat.mul_comm]; exact Nat.div_add_mod i sz
    have a1 := h.at_ (i / sz) hk (i % sz) hj
    have a2 := flatMap_at c sz hc l (i / sz) hk (i % sz) hj
    rw [e1] at a1 a2
    rw [cell_of_row w g i cur e (0, 0) h1] at a1
    rw [a2, ← a1]
    simp
  · rw [if_neg hi, List.getElem?_eq_none (by rw [flatMap_len c sz hc]; omega)]

theorem row_to_own (hc : ∀ x, (c x).length = sz) {g n cap base : Nat} {e : TypeId} (h : w.ownsRow base e sz (.slice (some ⟨g, 0, none⟩) n cap) n (l.flatMap c)) (hn : n = l.length) : Own w g sz c l := by
  subst hn
  refine ⟨(h.lt g rfl).2, h.frozenAt, fun k hk j hj => ?_⟩
  rw [Nat.zero_add, h.cellAt _ (by
    have : (k + 1) * sz ≤ l.length * sz := Nat.mul_le_mul_right _ hk
    rw [Nat.add_mul] at this
    omega)]
  exact flatMap_at c sz hc l k hk j hj
end
end Go.Proofs.Qxb6612351a
