/-
  THE PLAIN LAW OF THE STORE.
-/
import Derived.Test.Qxb6612351aStore
namespace Go.Proofs.Qxb6612351a
open Go.RowKit

theorem pos_keys (l : List (ByteArray × Int)) (key : ByteArray) : pos l key = (l.map Prod.fst).findIdx? fun k => keq k key := by
  unfold pos
  rw [List.findIdx?_map]
  rfl
theorem pos_set (l : List (ByteArray × Int)) (i : Nat) (hi : i < l.length) (x : Int) (key : ByteArray) : pos (l.set i (l[i].1, x)) key = pos l key := by
  rw [pos_keys, pos_keys]
  congr 1
  apply List.ext_getElem?
  intro j
  rw [List.getElem?_map, List.getElem?_map, List.getElem?_set]
  by_cases e : i = j
  · subst e
    simp [hi]
  · simp [e]
theorem pos_append (l : List (ByteArray × Int)) (e : ByteArray × Int) (key : ByteArray) : pos (l ++ [e]) key = (pos l key).or (if keq e.1 key = true then some l.length else none) := by
  unfold pos
  rw [List.findIdx?_append]
  congr 1
  by_cases h : keq e.1 key = true
  · simp [List.findIdx?_cons, h]
  · simp [List.findIdx?_cons, h]
theorem pos_keq {l : List (ByteArray × Int)} {key : ByteArray} {i : Nat} (h : pos l key = some i) (hi : i < l.length) : keq l[i].1 key = true := by
  unfold pos at h
  rw [List.findIdx?_eq_some_iff_getElem] at h
  exact h.2.1

theorem put_eq_some {l : List (ByteArray × Int)} {key : ByteArray} {i : Nat} (x : Int) (h : pos l key = some i) (hi : i < l.length) : put l key x = l.set i (l[i].1, x) := by
  simp [put, h, List.getD, hi]
theorem put_eq_none {l : List (ByteArray × Int)} {key : ByteArray} (x : Int) (h : pos l key = none) : put l key x = l ++ [(key, x)] := by
  simp [put, h]
theorem keq_refl (k : ByteArray) : keq k k = true := (keq_iff k k).2 rfl

theorem look_put_same (l : List (ByteArray × Int)) (key : ByteArray) (x : Int) : look (put l key x) key = (x, true) := by
  cases h : pos l key with
  | some i =>
    have hi := pos_lt h
    rw [put_eq_some x h hi]
    have hp : pos (l.set i (l[i].1, x)) key = some i := by rw [pos_set l i hi]; exact h
    rw [look_some hp (by simpa using hi)]
    simp
  | none =>
    rw [put_eq_none x h]
    have hp : pos (l ++ [(key, x)]) key = some l.length := by rw [pos_append, h]; simp [keq_refl]
    rw [look_some hp (by simp)]
    simp
theorem look_put_other (l : List (ByteArray × Int)) (key k : ByteArray) (x : Int) (hne : keq k key = false) : look (put l key x) k = look l k := by
  have hk : k ≠ key := fun e => by rw [(keq_iff k key).2 e] at hne; simp at hne
  cases h : pos l key with
  | some i =>
    have hi := pos_lt h
    rw [put_eq_some x h hi]
    have hp := pos_set l i hi x k
    cases h2 : pos l k with
    | some j =>
      have hj := pos_lt h2
      rw [h2] at hp
      rw [look_some hp (by simpa using hj), look_some h2 hj]
      have hij : i ≠ j := fun e => by
        subst e
        exact hk (((keq_iff _ _).1 (pos_keq h2 hj)).symm.trans ((keq_iff _ _).1 (pos_keq h hi)))
      rw [List.getElem_set_ne hij]
    | none =>
      rw [h2] at hp
      rw [look_none hp, look_none h2]
  | none =>
    rw [put_eq_none x h]
    have hkq : ¬ keq key k = true := fun e => hk ((keq_iff _ _).1 e).symm
    have hp := pos_append l (key, x) k
    rw [if_neg hkq] at hp
    cases h2 : pos l k with
    | some j =>
      have hj := pos_lt h2
      rw [h2] at hp
      rw [look_some (by rw [hp]; rfl) (by simp; omega), look_some h2 hj]
      rw [List.getElem_append_left hj]
    | none =>
      rw [h2] at hp
      rw [look_none (by rw [hp]; rfl), look_none h2]

theorem put_len (l : List (ByteArray × Int)) (key : ByteArray) (x : Int) : (put l key x).length ≤ l.length + 1 := by
  unfold put
  split <;> simp

/-- The store after the first i of the keys have been set. -/
def sto (ss : List ByteArray) (vs : List Int) (i : Nat) : List (ByteArray × Int) := ((ss.zip vs).take i).foldl (fun l e => put l e.1 e.2) []
theorem sto_zero (ss : List ByteArray) (vs : List Int) : sto ss vs 0 = [] := by simp [sto]
theorem sto_step (ss : List ByteArray) (vs : List Int) (i : Nat) (h1 : i < ss.length) (h2 : i < vs.length) : sto ss vs (i + 1) = put (sto ss vs i) ss[i] vs[i] := by
  unfold sto
  rw [List.take_succ_eq_append_getElem (by simp; omega), List.foldl_append]
  simp
theorem sto_len (ss : List ByteArray) (vs : List Int) : ∀ i, i ≤ ss.length → i ≤ vs.length → (sto ss vs i).length ≤ i
  | 0, _, _ => by simp [sto_zero]
  | i + 1, h1, h2 => by
    rw [sto_step ss vs i (by omega) (by omega)]
    have := sto_len ss vs i (by omega) (by omega)
    have := put_len (sto ss vs i) ss[i] vs[i]
    omega

/-- The row as it stands after k of its elements have been laid. -/
def part {α : Type} (l : List α) (d : α) (k : Nat) : List α := l.take k ++ List.replicate (l.length - k) d
theorem part_len {α : Type} (l : List α) (d : α) (k : Nat) (h : k ≤ l.length) : (part l d k).length = l.length := by simp [part]; omega
theorem part_zero {α : Type} (l : List α) (d : α) : part l d 0 = List.replicate l.length d := by simp [part]
theorem part_all {α : Type} (l : List α) (d : α) : part l d l.length = l := by simp [part]
theorem part_set {α : Type} (l : List α) (d : α) (k : Nat) (h : k < l.length) : (part l d k).set k l[k] = part l d (k + 1) := by
  have e : l.length - k = (l.length - (k + 1)) + 1 := by omega
  unfold part
  rw [e, List.replicate_succ, List.set_append_right _ _ (by simp; omega), List.take_succ_eq_append_getElem h]
  have e2 : k - (l.take k).length = 0 := by simp; omega
  rw [e2]
  simp only [List.set_cons_zero, List.append_assoc, List.singleton_append]
end Go.Proofs.Qxb6612351a
