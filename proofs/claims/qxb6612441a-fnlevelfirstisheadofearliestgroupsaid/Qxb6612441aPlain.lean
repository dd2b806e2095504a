/-
  PLAIN: four heads, the groups that hold an order, how many of them.
-/
import Derived.Test.Qxb6612441aCalls
import Derived.LaidEqlPtr
namespace Go.Proofs.Qxb6612441a
open Go.RowKit

def hv (H : Nat → Option Addr) : List Value := [.pointer (H 0), .pointer (H 1), .pointer (H 2), .pointer (H 3)]
def bv (ne : Nat → Bool) : List Value := [.bool (ne 0), .bool (ne 1), .bool (ne 2), .bool (ne 3)]
theorem hv_at (H : Nat → Option Addr) (k : Nat) (hk : k < 4) : (hv H)[k]? = some (.pointer (H k)) := by
  match k, hk with
  | 0, _ => rfl
  | 1, _ => rfl
  | 2, _ => rfl
  | 3, _ => rfl
theorem bv_at (ne : Nat → Bool) (k : Nat) (hk : k < 4) : (bv ne)[k]? = some (.bool (ne k)) := by
  match k, hk with
  | 0, _ => rfl
  | 1, _ => rfl
  | 2, _ => rfl
  | 3, _ => rfl
def upd (H : Nat → Option Addr) (k : Nat) (v : Option Addr) : Nat → Option Addr := fun i => if i = k then v else H i
theorem hv_set (H : Nat → Option Addr) (k : Nat) (hk : k < 4) (v : Option Addr) : (hv H).set k (.pointer v) = hv (upd H k v) := by
  match k, hk with
  | 0, _ => rfl
  | 1, _ => rfl
  | 2, _ => rfl
  | 3, _ => rfl
theorem hv_congr (f g : Nat → Option Addr) (h : ∀ i, i < 4 → f i = g i) : hv f = hv g := by
  unfold hv
  rw [h 0 (by omega), h 1 (by omega), h 2 (by omega), h 3 (by omega)]

/-- How many of the first k groups hold an order. -/
def cnt (ne : Nat → Bool) : Nat → Nat
  | 0 => 0
  | k + 1 => cnt ne k + if ne k = true then 1 else 0
theorem cnt_le (ne : Nat → Bool) : ∀ k, cnt ne k ≤ k
  | 0 => Nat.le_refl _
  | k + 1 => by have := cnt_le ne k; unfold cnt; split <;> omega
theorem cnt_none (ne : Nat → Bool) (a : Nat) : ∀ b, a ≤ b → (∀ j, a ≤ j → j < b → ne j = false) → cnt ne b = cnt ne a
  | 0, h, _ => by rw [Nat.le_zero.1 h]
  | b + 1, h, hn => by
    by_cases e : a = b + 1
    · rw [e]
    · have h1 := cnt_none ne a b (by omega) fun j h1 h2 => hn j h1 (by omega)
      have h2 := hn b (by omega) (by omega)
      rw [cnt, h2, h1]
      simp

/-- The next group that holds an order, or none. -/
theorem next_or (ne : Nat → Bool) : ∀ n L, n + L = 4 → (∃ k, L ≤ k ∧ k < 4 ∧ ne k = true ∧ ∀ j, L ≤ j → j < k → ne j = false) ∨ (∀ j, L ≤ j → j < 4 → ne j = false)
  | 0, L, h => .inr fun j h1 h2 => by omega
  | n + 1, L, h => by
    cases hL : ne L with
    | true => exact .inl ⟨L, Nat.le_refl _, by omega, hL, fun j h1 h2 => by omega⟩
    | false =>
      rcases next_or ne n (L + 1) (by omega) with ⟨k, h1, h2, h3, h4⟩ | hn
      · refine .inl ⟨k, by omega, h2, h3, fun j hj1 hj2 => ?_⟩
        by_cases e : j = L
        · subst e; exact hL
        · exact h4 j (by omega) hj2
      · refine .inr fun j hj1 hj2 => ?_
        by_cases e : j = L
        · subst e; exact hL
        · exact hn j (by omega) hj2

/-- The heads that stand: of the first k groups just those that hold an order; all different. -/
structure Heads (ne : Nat → Bool) (k : Nat) (H : Nat → Option Addr) : Prop where
  some_ : ∀ i, i < 4 → i < k → ne i = true → ∃ a, H i = some a
  none_ : ∀ i, i < 4 → (k ≤ i ∨ ne i = false) → H i = none
  inj : ∀ i j a, i < 4 → j < 4 → H i = some a → H j = some a → i = j

/-- Each head leads to a block of cells. -/
def IsCells (w : World) (b : Nat) : Prop := ∃ c t, w.heap[b]? = some (.cells c t (0, 0))
def Cel (w : World) (H : Nat → Option Addr) : Prop := ∀ i a, i < 4 → H i = some a → IsCells w a.block
theorem IsCells.lt {w : World} {b : Nat} (h : IsCells w b) : b < w.heap.size := by
  obtain ⟨c, t, h⟩ := h
  exact (Array.getElem?_eq_some_iff.1 h).1
theorem IsCells.alloc {w : World} {b : Nat} (h : IsCells w b) (o : Obj) : IsCells (w.alloc o) b := by
  have hl := h.lt
  obtain ⟨c, t, h⟩ := h
  exact ⟨c, t, (Below.heap_alloc w o b hl).trans h⟩
theorem IsCells.below {w w' : World} {b : Nat} (h : IsCells w b) (hb : Below w.heap.size w w') : IsCells w' b := by
  have hl := h.lt
  obtain ⟨c, t, h⟩ := h
  exact ⟨c, t, (hb.block b hl).trans h⟩
theorem IsCells.setCell {w : World} {b : Nat} (h : IsCells w b) (g i : Nat) (v : Value) : IsCells (w.setCell ⟨g, i, none⟩ v) b := by
  obtain ⟨c, t, h⟩ := h
  by_cases e : b = g
  · subst e
    exact ⟨_, t, heap_setCell_same w b i c t v h⟩
  · exact ⟨c, t, (heap_setCell_other w ⟨g, i, none⟩ b v e).trans h⟩
theorem IsCells.new (w : World) (c : Array Value) (t : TypeId) : IsCells (w.alloc (.cells c t)) w.heap.size := ⟨c, t, Go.heap_alloc_new w _⟩
theorem Cel.below {w w' : World} {H : Nat → Option Addr} (h : Cel w H) (hb : Below w.heap.size w w') : Cel w' H := fun i a h1 h2 => (h i a h1 h2).below hb
theorem Cel.setCell {w : World} {H : Nat → Option Addr} (h : Cel w H) (g i : Nat) (v : Value) : Cel (w.setCell ⟨g, i, none⟩ v) H := fun j a h1 h2 => (h j a h1 h2).setCell g i v
theorem Cel.alloc {w : World} {H : Nat → Option Addr} (h : Cel w H) (o : Obj) : Cel (w.alloc o) H := fun j a h1 h2 => (h j a h1 h2).alloc o
theorem Cel.upd {w : World} {H : Nat → Option Addr} (h : Cel w H) (k b : Nat) (hb : IsCells w b) : Cel w (upd H k (some ⟨b, 0, none⟩)) := by
  intro i a h1 h2
  unfold Qxb6612441a.upd at h2
  by_cases e : i = k
  · rw [if_pos e] at h2
    cases h2
    exact hb
  · rw [if_neg e] at h2
    exact h i a h1 h2

theorem Heads.start (ne : Nat → Bool) : Heads ne 0 fun _ => none :=
  ⟨fun i _ h => by omega, fun _ _ _ => rfl, fun _ _ _ _ _ h _ => (nomatch h)⟩
theorem Heads.skip {ne : Nat → Bool} {k : Nat} {H : Nat → Option Addr} (h : Heads ne k H) (hn : ne k = false) : Heads ne (k + 1) H := by
  refine ⟨fun i h1 h2 h3 => h.some_ i h1 ?_ h3, fun i h1 h2 => h.none_ i h1 ?_, h.inj⟩
  · by_cases e : i = k
    · subst e; rw [hn] at h3; cases h3
    · omega
  · rcases h2 with h2 | h2
    · exact .inl (by omega)
    · exact .inr h2
theorem Heads.take {ne : Nat → Bool} {k n : Nat} {H : Nat → Option Addr} (h : Heads ne k H) (hn : ∀ i a, i < 4 → H i = some a → a.block ≠ n) (hk : ne k = true) : Heads ne (k + 1) (upd H k (some ⟨n, 0, none⟩)) := by
  refine ⟨fun i h1 h2 h3 => ?_, fun i h1 h2 => ?_, fun i j a h1 h2 h3 h4 => ?_⟩
  · by_cases e : i = k
    · exact ⟨⟨n, 0, none⟩, by simp [upd, e]⟩
    · obtain ⟨a, ha⟩ := h.some_ i h1 (by omega) h3
      exact ⟨a, by simp [upd, e, ha]⟩
  · by_cases e : i = k
    · subst e
      rcases h2 with h2 | h2
      · omega
      · rw [hk] at h2; cases h2
    · simp only [upd, e, if_false]
      refine h.none_ i h1 ?_
      rcases h2 with h2 | h2
      · exact .inl (by omega)
      · exact .inr h2
  · by_cases e : i = k <;> by_cases e' : j = k
    · omega
    · simp only [upd, e, if_true] at h3
      simp only [upd, e', if_false] at h4
      have := hn j a h2 h4
      cases h3
      exact absurd rfl this
    · simp only [upd, e, if_false] at h3
      simp only [upd, e', if_true] at h4
      have := hn i a h1 h3
      cases h4
      exact absurd rfl this
    · simp only [upd, e, e', if_false] at h3 h4
      exact h.inj i j a h1 h2 h3 h4

/-- The heads from group L on. -/
def rest (H : Nat → Option Addr) (L : Nat) : Nat → Option Addr := fun i => if i < L then none else H i
theorem rest_first {ne : Nat → Bool} {L k : Nat} {H : Nat → Option Addr} (h : Heads ne 4 H) (h1 : L ≤ k) (h2 : k < 4) (hn : ∀ j, L ≤ j → j < k → ne j = false) (a : Addr) (ha : H k = some a) : firstOf (rest H L) = some a := by
  refine firstOf_at _ k h2 (fun j hj => ?_) a ?_
  · unfold rest
    by_cases e : j < L
    · rw [if_pos e]
    · rw [if_neg e]; exact h.none_ j (by omega) (.inr (hn j (by omega) hj))
  · unfold rest
    rw [if_neg (by omega), ha]
theorem rest_none {ne : Nat → Bool} {L : Nat} {H : Nat → Option Addr} (h : Heads ne 4 H) (hn : ∀ j, L ≤ j → j < 4 → ne j = false) : firstOf (rest H L) = none := by
  refine firstOf_none _ fun j hj => ?_
  unfold rest
  by_cases e : j < L
  · rw [if_pos e]
  · rw [if_neg e]; exact h.none_ j hj (.inr (hn j (by omega) hj))
theorem rest_upd {ne : Nat → Bool} {L k : Nat} {H : Nat → Option Addr} (h : Heads ne 4 H) (h1 : L ≤ k) (hn : ∀ j, L ≤ j → j < k → ne j = false) : hv (upd (rest H L) k none) = hv (rest H (k + 1)) := by
  refine hv_congr _ _ fun i hi => ?_
  unfold upd rest
  by_cases e : i = k
  · rw [if_pos e, if_pos (by omega)]
  · rw [if_neg e]
    by_cases e1 : i < L
    · rw [if_pos e1, if_pos (by omega)]
    · rw [if_neg e1]
      by_cases e2 : i < k + 1
      · rw [if_pos e2]; exact h.none_ i hi (.inr (hn i (by omega) (by omega)))
      · rw [if_neg e2]

/-! ### '==' between two pointers to entries -/
theorem Try.info54 : (Try.prog.info? 54).map (fun i => decide (i.size ≠ 0)) = some true := by kernel_rfl
theorem eql_same (w : World) (a : Addr) : (binOp .eql 23 (.pointer (some a)) (.pointer (some a))).run Try.prog w = .ok (.bool true) w := by
  cases hi : Try.prog.info? 54 with
  | none => have := Try.info54; rw [hi] at this; cases this
  | some j => exact run_eql_ptr_same w a Try.underlying23 hi
theorem eql_other (w : World) (a b : Addr) (hne : a ≠ b) (ha : IsCells w a.block) (hb : IsCells w b.block) : (binOp .eql 23 (.pointer (some a)) (.pointer (some b))).run Try.prog w = .ok (.bool false) w := by
  obtain ⟨ca, ta, ha⟩ := ha
  obtain ⟨cb, tb, hb⟩ := hb
  cases hi : Try.prog.info? 54 with
  | none => have := Try.info54; rw [hi] at this; cases this
  | some j =>
    have hs := Try.info54
    rw [hi] at hs
    simp at hs
    exact run_eql_ptr_other w Try.underlying23 hi hs hne ha hb
theorem eql_nil (w : World) (a : Addr) : (binOp .eql 23 (.pointer none) (.pointer (some a))).run Try.prog w = .ok (.bool false) w := by
  have h : ∀ d : Nat, (Op.equalIn (d + 1) 23 (.pointer none) (.pointer (some a))).run Try.prog w = .ok false w := fun d => by
    simp [Op.equalIn, run_underlying Try.underlying23]
  simp only [binOp]
  simp [Op.equal, Op.maxDepth, h 9999]
end Go.Proofs.Qxb6612441a
