/-
  THE CACHE's OWN FUNCTIONS: weight, release, reuse, keep.
-/
import Derived.Test.Qxb6612455aHeapOps
import Derived.Deep.RegionHeld3
import Derived.Deep.RegionWith
namespace Go.Proofs.Qxb6612455a
open Go.RowKit

theorem wrap_id (k : Nat) (hk : k < 1000000) : IntKind.i64.wrap (k : Int) = (k : Int) := by
  simp [IntKind.wrap, IntKind.bits, IntKind.signed]
  omega
theorem info67 : (Try.prog.info? 67).isSome = true := by kernel_rfl
theorem eql33 (w : World) (a : Addr) : (binOp .eql 33 (.pointer (some a)) (.pointer (some a))).run Try.prog w = .ok (.bool true) w := by
  cases hi : Try.prog.info? 67 with
  | none => have := info67; rw [hi] at this; cases this
  | some j => exact run_eql_ptr_same w a Try.underlying33 hi
theorem neq_of_eql {P : Program} {t : TypeId} {x y : Option Addr} {w : World} {b : Bool} (h : (binOp .eql t (.pointer x) (.pointer y)).run P w = .ok (.bool b) w) : (binOp .neq t (.pointer x) (.pointer y)).run P w = .ok (.bool !b) w := by
  simp only [binOp, Sem.run_bind] at h ⊢
  cases hr : (Op.equal t (.pointer x) (.pointer y)).run P w with
  | halt _ _ => rw [hr] at h; cases h
  | ok v w1 =>
    rw [hr] at h
    simp at h
    obtain ⟨rfl, rfl⟩ := h
    simp
theorem neq33 (w : World) (a : Addr) : (binOp .neq 33 (.pointer (some a)) (.pointer (some a))).run Try.prog w = .ok (.bool false) w := neq_of_eql (eql33 w a)
theorem info82 : ((Try.prog.info? 82).any fun i => decide (i.size ≠ 0)) = true := by kernel_rfl
theorem neq27_same (w : World) (a : Addr) : (binOp .neq 27 (.pointer (some a)) (.pointer (some a))).run Try.prog w = .ok (.bool false) w := by
  cases hi : Try.prog.info? 82 with
  | none => have := info82; rw [hi] at this; cases this
  | some j => exact neq_of_eql (run_eql_ptr_same w a Try.underlying27 hi)
theorem neq27_other (w : World) (a b : Addr) (hne : a ≠ b) {ca cb : Array Value} {ta tb : TypeId} (ha : w.heap[a.block]? = some (.cells ca ta (0, 0))) (hb : w.heap[b.block]? = some (.cells cb tb (0, 0))) : (binOp .neq 27 (.pointer (some a)) (.pointer (some b))).run Try.prog w = .ok (.bool true) w := by
  cases hi : Try.prog.info? 82 with
  | none => have := info82; rw [hi] at this; cases this
  | some j =>
    have hs := info82
    rw [hi] at hs
    simp at hs
    exact neq_of_eql (run_eql_ptr_other w Try.underlying27 hi hs hne ha hb)

set_option maxRecDepth 100000 in
theorem weight_any {C K W : Nat} {w : World} (c0 : w.cell? ⟨K, 0, none⟩ = some (.pointer (some ⟨W, 0, none⟩))) (c3 : w.cell? ⟨C, 3, none⟩ = some (.pointer (some ⟨W, 0, none⟩))) :
    Calls Try.prog 19 #[.pointer (some ⟨C, 0, none⟩), .pointer (some ⟨K, 0, none⟩)] w fun e w' => e = .returned (.int .i64 1) ∧ ∃ k, w' = w.drewN k := by
  have he := fun w => eql33 w ⟨W, 0, none⟩
  go_enter Try.func19, Try.ntmps19
  go_wp2
  go_quiet (fail)
  go_wp2
  go_ret
  exact ⟨rfl, _, rfl⟩

set_option maxRecDepth 100000 in
theorem reuse_any {C K W : Nat} {w : World} (c0 : w.cell? ⟨K, 0, none⟩ = some (.pointer (some ⟨W, 0, none⟩))) (c3 : w.cell? ⟨C, 3, none⟩ = some (.pointer (some ⟨W, 0, none⟩))) :
    Calls Try.prog 21 #[.pointer (some ⟨C, 0, none⟩), .pointer (some ⟨K, 0, none⟩)] w fun e w' => e = .returned (.tuple #[]) ∧ ∃ k, w' = w.drewN k := by
  have he := fun w => neq33 w ⟨W, 0, none⟩
  go_enter Try.func21, Try.ntmps21
  go_wp2
  go_quiet (fail)
  go_wp2
  go_end0
  exact ⟨rfl, _, rfl⟩

section
variable {E : Env} {w : World} {q : Value} {held lo c clock : Nat} {ix h : Nat → Nat} {n t g cap : Nat}

def RelPost (E : Env) (held lo clock n t : Nat) (e : Ending) (w' : World) : Prop :=
  e = .returned (.tuple #[]) ∧ ∃ g cap ix h, Mem E w' (.slice (some ⟨g, 0, none⟩) n cap) held lo n clock ix h n t ∧ (∀ k, k < n → ix (h k) = k) ∧ Win h n lo t ∧ IsHeap h n

set_option maxHeartbeats 4000000 in
set_option maxRecDepth 100000 in
theorem release_any (m : Mem E w (.slice (some ⟨g, 0, none⟩) (n + 1) cap) (held + 1) lo (n + 1) clock ix h (n + 1) t) (hx : ∀ k, k < n + 1 → ix (h k) = k) (hh : IsHeap h (n + 1)) (hw : Win h (n + 1) lo t) (h0 : h 0 = lo) (hn : n < 1000000)
    (hd : ∀ i, lo ≤ i → i < lo + (n + 1) → E.txt i = E.txt lo → i = lo) (hheld : held < 1000000) :
    Calls Try.prog 20 #[.pointer (some ⟨E.C, 0, none⟩), .pointer (some ⟨E.kb lo, 0, none⟩)] w (RelPost E held (lo + 1) clock n t) := by
  have hlt : lo < t := by rw [← h0]; exact m.lts 0 (by omega)
  have c4 := m.bC.cell (j := 4) rfl
  have k1 := (m.bk lo hlt).cell (j := 1) rfl
  have hdel := fun ty => run_delete ty m.bM hd
  have hdel' := fun ty => run_delete (w := w.drew) ty m.bM hd
  have HM : Hid (Mem E w (.slice (some ⟨g, 0, none⟩) (n + 1) cap) (held + 1) lo (n + 1) clock ix h (n + 1) t) := m
  have HA : Hid ((∀ k, k < n + 1 → ix (h k) = k) ∧ IsHeap h (n + 1) ∧ Win h (n + 1) lo t ∧ h 0 = lo) := ⟨hx, hh, hw, h0⟩
  clear m hx hh hw h0
  go_enter Try.func20, Try.ntmps20
  go_wp2
  go_region
  have m1 := HM.out.drew.putM (lo + 1) n clock
  generalize putM w.drew E.M (mes E (lo + 1) n) clock = w1 at m1 ⊢
  have k4 := (m1.bk lo hlt).cell (j := 4) rfl
  have hix : ix lo = 0 := by
    have := HA.out.1 0 (by omega)
    rwa [HA.out.2.2.2] at this
  rw [hix] at k4
  have HR := heapRemove_any m1.drew HA.out.1 HA.out.2.1 HA.out.2.2.1 HA.out.2.2.2 hn
  clear c4 k1 hdel hdel' HM m1
  go_wp2
  go_region_with (go_at_call 24; refine HR.mono ?_; rintro e w2 ⟨v, rfl, ix2, h2, m2, hx2, hw2, hh2⟩)
  have c6 := m2.bC.cell (j := 6) rfl
  have f6 := m2.bC.free 6
  have c3 := m2.bC.cell (j := 3) rfl
  have c0 := (m2.bk lo hlt).cell (j := 0) rfl
  have HM2 : Hid (Mem E w2 (.slice (some ⟨g, 0, none⟩) n cap) (held + 1) (lo + 1) n clock ix2 h2 n t) := m2
  have HA2 : Hid ((∀ k, k < n → ix2 (h2 k) = k) ∧ Win h2 n (lo + 1) t ∧ IsHeap h2 n) := ⟨hx2, hw2, hh2⟩
  clear m2 hx2 hw2 hh2 HR k4 hix HA
  go_wp2
  go_region_with (go_at_call 19; refine (weight_any (W := E.W) (by simpa [go_sem] using c0) (by simpa [go_sem] using c3)).mono ?_; rintro e w3 ⟨rfl, k3, rfl⟩)
  all_goals
    go_end0
    rw [wrap_id held hheld]
    exact ⟨rfl, _, _, _, _, (HM2.out.drewN _).setHeld held, HA2.out⟩
end
end Go.Proofs.Qxb6612455a
