/-
  MEMORY, PLAIN: what a block holds, to the cell ('At'); what each step does to it. Then: which function a method of the queue behind heap.Interface is.
-/
import Derived.Test.Qxb6612455aRows
import Derived.WalkKit
import Derived.BigQuiet
import Derived.Deep.QuietTactic
import Derived.LaidEqlPtr
import Derived.WalkSmall
namespace Go.Proofs.Qxb6612455a
open Go.RowKit

/-- Block b is a row of cells of type ty, none frozen, and holds just L. -/
def At (w : World) (b : Nat) (ty : TypeId) (L : List Value) : Prop := w.heap[b]? = some (.cells L.toArray ty (0, 0))

section
variable {w w' : World} {b : Nat} {ty : TypeId} {L : List Value}
theorem At.lt (h : At w b ty L) : b < w.heap.size := (Array.getElem?_eq_some_iff.1 h).1
theorem At.of_block (h : At w b ty L) (e : w'.heap[b]? = w.heap[b]?) : At w' b ty L := e.trans h
theorem At.cell (h : At w b ty L) {j : Nat} {v : Value} (e : L[j]? = some v) : w.cell? ⟨b, j, none⟩ = some v := by
  rw [cell_of_row w b j _ _ _ h]; simpa using e
theorem At.free (h : At w b ty L) (j : Nat) : w.frozen? ⟨b, j, none⟩ = false := frozen_of_row w b j _ _ h
theorem At.set (h : At w b ty L) (i : Nat) (v : Value) : At (w.setCell ⟨b, i, none⟩ v) b ty (L.set i v) := by
  have := heap_setCell_same w b i _ _ v h
  rw [List.setIfInBounds_toArray] at this
  exact this
theorem At.other (h : At w b ty L) {a : Addr} (hne : b ≠ a.block) (v : Value) : At (w.setCell a v) b ty L := h.of_block (heap_setCell_other w a b v hne)
theorem At.alloc (h : At w b ty L) (o : Obj) : At (w.alloc o) b ty L := h.of_block (Below.heap_alloc w o b h.lt)
theorem At.below {B : Nat} (h : At w b ty L) (hb : Below B w w') (hB : b < B) : At w' b ty L := h.of_block (hb.block b hB)
theorem At.new (w : World) (L : List Value) (ty : TypeId) : At (w.alloc (.cells L.toArray ty)) w.heap.size ty L := Go.heap_alloc_new w _
/-- Two rows of different types, or of different content, are two blocks. -/
theorem At.ne_ty {b' : Nat} {ty' : TypeId} {cs : Array Value} {fr : Nat × Nat} (h : At w b ty L) (h' : w.heap[b']? = some (.cells cs ty' fr)) (hne : ty ≠ ty') : b ≠ b' := fun e => by
  subst e
  rw [h] at h'
  simp at h'
  exact hne h'.2.1
theorem At.ne_map {b' : Nat} {es : Array MapEntry} {c : Nat} (h : At w b ty L) (h' : w.heap[b']? = some (.map es c)) : b ≠ b' := fun e => by
  subst e
  rw [h] at h'
  cases h'
theorem At.inj {L' : List Value} {ty' : TypeId} (h : At w b ty L) (h' : At w b ty' L') : L = L' := by
  unfold At at h h'
  rw [h] at h'
  simp at h'
  exact h'.1
end

theorem ownsRow_of_block {w w' : World} {base : Nat} {e : TypeId} {size : Nat} {v : Value} {n : Nat} {xs : List Value} (h : w.ownsRow base e size v n xs) (hv : ∀ k, v.ownBlock = some k → w'.heap[k]? = w.heap[k]?) : w'.ownsRow base e size v n xs := by
  obtain ⟨h1, h2⟩ := h
  refine ⟨h1, ?_⟩
  rcases h2 with h2 | ⟨g, cap, cur, rfl, hg, hh, r⟩
  · exact .inl h2
  · exact .inr ⟨g, cap, cur, rfl, hg, (hv g rfl).trans hh, r⟩
theorem own_form {w : World} {base : Nat} {e : TypeId} {size : Nat} {v : Value} {n : Nat} {xs : List Value} (h : w.ownsRow base e size v n xs) (hn : 0 < n) : ∃ g cap, v = .slice (some ⟨g, 0, none⟩) n cap := by
  rcases h.2 with ⟨_, h0⟩ | ⟨g, cap, _, rfl, _⟩
  · omega
  · exact ⟨g, cap, rfl⟩
theorem row_block {w : World} {base : Nat} {e : TypeId} {size : Nat} {v : Value} {n : Nat} {xs : List Value} (h : w.ownsRow base e size v n xs) : ∀ k, v.ownBlock = some k → ∃ cur, w.heap[k]? = some (.cells cur e (0, 0)) ∧ base ≤ k := by
  intro k hk
  rcases h.2 with ⟨rfl, _⟩ | ⟨g, cap, cur, rfl, hb, hg, _⟩
  · cases hk
  · simp [Value.ownBlock] at hk
    subst hk
    exact ⟨cur, hg, hb⟩

/-! ### The methods behind heap.Interface -/
theorem m_push (w : World) (a : Addr) : (method 414 85 (.pointer (some a)) "Push").run Try.prog w = .ok (59, .pointer (some a)) w := by kernel_rfl
theorem m_pop (w : World) (a : Addr) : (method 414 85 (.pointer (some a)) "Pop").run Try.prog w = .ok (58, .pointer (some a)) w := by kernel_rfl
theorem l72 (w : World) (a : Addr) (v : Value) (h : w.cell? a = some v) : (loadVar 72 a).run Try.prog w = .ok v w := by
  go_simp
theorem meth_len : ((Try.prog.info? 85).bind fun i => i.methods.find? (·.name == "Len")).map (fun m => (m.path, m.func)) = some (#[], some (55, false)) := by kernel_rfl
theorem meth_less : ((Try.prog.info? 85).bind fun i => i.methods.find? (·.name == "Less")).map (fun m => (m.path, m.func)) = some (#[], some (56, false)) := by kernel_rfl
theorem meth_swap : ((Try.prog.info? 85).bind fun i => i.methods.find? (·.name == "Swap")).map (fun m => (m.path, m.func)) = some (#[], some (57, false)) := by kernel_rfl
set_option maxRecDepth 20000 in
theorem m_val (n : Nat) (name : String) (f : FuncId) (hm : ((Try.prog.info? 85).bind fun i => i.methods.find? (·.name == name)).map (fun m => (m.path, m.func)) = some (#[], some (f, false))) (w : World) (a : Addr) (v : Value) (h : w.cell? a = some v) :
    (method (n + 1) 85 (.pointer (some a)) name).run Try.prog w = .ok (f, v) w := by
  cases hi : Try.prog.info? 85 with
  | none => rw [hi] at hm; cases hm
  | some i =>
    rw [hi] at hm
    simp only [Option.bind_some] at hm
    cases hf : i.methods.find? (·.name == name) with
    | none => rw [hf] at hm; cases hm
    | some m =>
      rw [hf] at hm
      simp only [Option.map_some, Option.some.injEq, Prod.mk.injEq] at hm
      obtain ⟨h1, h2⟩ := hm
      have hl := l72 w a v h
      have hw : ∀ s : String, (Builtin.ssaWrapNilChk_ #[85] 85 #[.pointer (some a), strVal "", strVal s]).run Try.prog w = .ok (.pointer (some a)) w := fun _ => rfl
      have hr : ∀ s : String, (receiverAt 85 (.val (.pointer (some a))) false (some s)).run Try.prog w = .ok v w := by
        intro s
        unfold receiverAt
        simp only [Sem.run_bind, run_underlying Try.underlying85, Result.andThen_ok, Place.get, Sem.run_pure, hw]
        simp [asAddr, hl]
      rw [method]
      simp [typeInfo, hi, hf, h1, h2, follow, hr]
theorem m_len (w : World) (a : Addr) (v : Value) (h : w.cell? a = some v) : (method 414 85 (.pointer (some a)) "Len").run Try.prog w = .ok (55, v) w := m_val 413 _ 55 meth_len w a v h
theorem m_less (w : World) (a : Addr) (v : Value) (h : w.cell? a = some v) : (method 414 85 (.pointer (some a)) "Less").run Try.prog w = .ok (56, v) w := m_val 413 _ 56 meth_less w a v h
theorem m_swap (w : World) (a : Addr) (v : Value) (h : w.cell? a = some v) : (method 414 85 (.pointer (some a)) "Swap").run Try.prog w = .ok (57, v) w := m_val 413 _ 57 meth_swap w a v h
end Go.Proofs.Qxb6612455a
