/-
  THE SMALL FUNCTIONS: the cache made, a kept layout made, what is read of the cache; the texts that came in.
-/
import Derived.Test.Qxb6612455aKeep
namespace Go.Proofs.Qxb6612455a
open Go.RowKit

theorem info115 : ((Try.prog.info? 115).any fun i => i.zero.isSome && decide (i.bytes ≤ 1000)) = true := by kernel_rfl
theorem make_nodes (n : Nat) (hn : n ≤ 8192) : ∃ M : Array Value, ∀ W : World, (Instr.makeSlice 36 (.int .i64 (n : Int)) (.int .i64 (n : Int))).run Try.prog W = .ok (.slice (some ⟨W.heap.size, 0, none⟩) n n) (W.alloc (.cells M 115)) := by
  have h := info115
  cases hi : Try.prog.info? 115 with
  | none => rw [hi] at h; cases h
  | some i =>
    rw [hi] at h
    simp at h
    obtain ⟨h0, h1⟩ := h
    cases hz : i.zero with
    | none => rw [hz] at h0; cases h0
    | some z =>
      refine ⟨madeCells z.cells (n * i.size), fun W => ?_⟩
      have hb : i.bytes * n ≤ 1000 * 8192 := Nat.mul_le_mul h1 hn
      have hmk := run_make (P := Try.prog) W 36 115 i _ Try.underlying36 hi hz .i64 .i64 n n (by omega) (by omega) (by omega) (by omega)
      simp only [Int.toNat_natCast] at hmk
      exact hmk
theorem make_map (W : World) : (Instr.makeMap 68 none).run Try.prog W = .ok (.map (some W.heap.size)) (W.alloc (.map #[] 0)) := by
  simp [Instr.makeMap]

def NewPost (n : Nat) (w : World) (e : Ending) (w' : World) : Prop :=
  ∃ C M W N rest, e = .returned (.pointer (some ⟨C, 0, none⟩)) ∧ ∀ txt kb, Full ⟨w, C, M, W, N, n, rest, kb, txt⟩ w' 0 0 0

theorem new_full (n : Nat) (w : World) (A B : Obj) (rest : List Value) (txt : Nat → ByteArray) (kb : Nat → Nat) :
    Full ⟨w, w.heap.size + 1 + 1 + 1, w.heap.size + 1 + 1, w.heap.size + 1, w.heap.size, n, rest, kb, txt⟩
      ((((w.alloc A).alloc B).alloc (.map #[] 0)).alloc (.cells (.slice (some ⟨w.heap.size, 0, none⟩) n n :: .pointer none :: .nilFunc :: .pointer (some ⟨w.heap.size + 1, 0, none⟩) :: .map (some (w.heap.size + 1 + 1)) :: .slice none 0 0 :: .int .i64 0 :: .pointer none :: .int .i64 0 :: .pointer none :: rest).toArray 80)) 0 0 0 := by
  refine ⟨none, 0, fun _ => 0, fun _ => 0, ⟨?_, ?_, ?_, fun j hj => by omega, ?_, ?_, fun j hj => by omega, World.ownsRow_nil _ _ _ _, fun k hk => by omega⟩, fun k hk => by omega, ⟨fun k hk => by omega, fun x h1 h2 => by simp at h2⟩, fun k _ hk => by omega⟩
  · exact ((((Below.refl _ _).alloc (Nat.le_refl _) _).alloc (by simp) _).alloc (by simp; omega) _).alloc (by simp; omega) _
  · show w.heap.size ≤ w.heap.size + 1 + 1 + 1; omega
  · show w.heap.size ≤ w.heap.size + 1 + 1; omega
  · have := At.new (((w.alloc A).alloc B).alloc (.map #[] 0)) (.slice (some ⟨w.heap.size, 0, none⟩) n n :: .pointer none :: .nilFunc :: .pointer (some ⟨w.heap.size + 1, 0, none⟩) :: .map (some (w.heap.size + 1 + 1)) :: .slice none 0 0 :: .int .i64 0 :: .pointer none :: .int .i64 0 :: .pointer none :: rest) 80
    rw [World.size_alloc, World.size_alloc, World.size_alloc] at this
    exact this
  · show (World.alloc _ _).heap[w.heap.size + 1 + 1]? = _
    rw [Below.heap_alloc _ _ _ (by simp)]
    have := Go.heap_alloc_new ((w.alloc A).alloc B) (.map #[] 0)
    rw [World.size_alloc, World.size_alloc] at this
    rw [this]
    rfl

set_option maxRecDepth 100000 in
theorem new_any (n : Nat) (hn : n ≤ 8192) (w : World) : Calls Try.prog 7 #[.int .i64 n] w (NewPost n w) := by
  obtain ⟨M, hM⟩ := make_nodes n hn
  have hmm := make_map
  go_enter Try.func7, Try.ntmps7
  go_wp2
  go_ret
  exact ⟨w.heap.size + 1 + 1 + 1, w.heap.size + 1 + 1, w.heap.size + 1, w.heap.size, _, rfl, fun txt kb => new_full n w _ _ _ txt kb⟩

set_option maxRecDepth 100000 in
theorem newKept_any (C W j : Nat) (txt : ByteArray) (w : World) (c : w.cell? ⟨C, 3, none⟩ = some (.pointer (some ⟨W, 0, none⟩))) : Calls Try.prog 8 #[.pointer (some ⟨C, 0, none⟩), .string txt, .int .i64 (-1), .int .i64 ((j : Int) + 1)] w fun e w' => e = .returned (.pointer (some ⟨w.heap.size, 0, none⟩)) ∧ w' = w.alloc (.cells #[.pointer (some ⟨W, 0, none⟩), .string txt, .int .i64 (-1), .int .i64 ((j : Int) + 1), .int .i64 0] 82) := by
  go_enter Try.func8, Try.ntmps8
  go_wp2
  go_ret
  exact ⟨rfl, rfl⟩

theorem Full.made {E : Env} {w : World} {n lo : Nat} (f : Full E w n lo (lo + n)) :
    Full { E with kb := fun j => if j = lo + n then w.heap.size else E.kb j } (w.alloc (.cells #[.pointer (some ⟨E.W, 0, none⟩), .string (E.txt (lo + n)), .int .i64 (-1), .int .i64 (((lo + n : Nat) : Int) + 1), .int .i64 0] 82)) n lo (lo + n + 1) := by
  obtain ⟨a, cap, ix, h, m, hx, hw, hh⟩ := f
  have hB := m.bel.size
  refine ⟨a, cap, fun j => if j = lo + n then 0 else ix j, h, ⟨m.bel.alloc hB _, m.gC, m.gM, fun j hj => ?_, m.bC.alloc _, ?_, fun j hj => ?_, ?_, fun k hk => ?_⟩, fun k hk => ?_, hw, hh⟩
  · show E.w0.heap.size ≤ (if j = lo + n then w.heap.size else E.kb j)
    split
    · exact hB
    · exact m.gk j (by omega)
  · rw [Below.heap_alloc _ _ _ (Array.getElem?_eq_some_iff.1 m.bM).1]
    show w.heap[E.M]? = _
    rw [m.bM]
    congr 2
    unfold mes
    congr 1
    apply List.map_congr_left
    intro j hj
    have : j ≠ lo + n := by simp at hj; omega
    simp [ment, kp, this]
  · show At _ (if j = lo + n then w.heap.size else E.kb j) 82 (kcells _ j (if j = lo + n then 0 else ix j))
    split
    · next e =>
      subst e
      exact At.new w _ 82
    · exact (m.bk j (by omega)).alloc _
  · have e : prow { E with kb := fun j => if j = lo + n then w.heap.size else E.kb j } h n = prow E h n := by
      unfold prow
      apply List.map_congr_left
      intro k hk
      have : h k ≠ lo + n := by have := m.lts k (by simpa using hk); omega
      simp [kp, this]
    rw [e]
    exact m.row.alloc _
  · have := m.lts k hk; omega
  · show (if h k = lo + n then 0 else ix (h k)) = k
    have := m.lts k hk
    rw [if_neg (by omega)]
    exact hx k hk

theorem keepZ_any {E : Env} {w : World} {n lo : Nat} (f : Full E w n lo (lo + n + 1)) (hroom : n ≤ 4 * E.n) (hN : E.n ≤ 8192) (hd : ∀ i j, i ≤ lo + n → j ≤ lo + n → E.txt i = E.txt j → i = j) :
    Calls Try.prog 9 #[.pointer (some ⟨E.C, 0, none⟩), .pointer (some ⟨E.kb (lo + n), 0, none⟩)] w (KeepPost E n lo) := by
  have H := keep_any f hroom hN hd
  clear f hd
  go_enter Try.func9, Try.ntmps9
  go_wp2_with fail
  refine H.mono ?_
  rintro e w' ⟨rfl, h⟩
  have HH : Hid ((n < 4 * E.n ∧ Full E w' (n + 1) lo (lo + n + 1)) ∨ (n = 4 * E.n ∧ Full E w' n (lo + 1) (lo + n + 1))) := h
  clear h H
  go_wp2
  go_end0
  exact ⟨rfl, HH.out⟩

theorem min_any (x y : Nat) (w : World) : Calls Try.prog 10 #[.int .i64 x, .int .i64 y] w fun e w' => e = .returned (.int .i64 ((min x y : Nat) : Int)) ∧ w' = w := by
  by_cases h : x < y
  · have e : min x y = x := by omega
    rw [e]
    go_enter Try.func10, Try.ntmps10
    go_wp2
    go_ret
    exact ⟨rfl, rfl⟩
  · have e : min x y = y := by omega
    rw [e]
    go_enter Try.func10, Try.ntmps10
    go_wp2
    go_ret
    exact ⟨rfl, rfl⟩

section
variable {C : Nat} {w : World}
theorem held_any {v : Value} (c : w.cell? ⟨C, 6, none⟩ = some v) : Calls Try.prog 11 #[.pointer (some ⟨C, 0, none⟩)] w fun e w' => e = .returned v ∧ w' = w := by
  go_enter Try.func11, Try.ntmps11
  go_wp2
  go_ret
  exact ⟨rfl, rfl⟩
theorem keptLen_any {M k : Nat} (c : w.cell? ⟨C, 4, none⟩ = some (.map (some M))) (hl : ∀ ty, (Builtin.len_ #[68] ty #[.map (some M)]).run Try.prog w = .ok (.int .i64 (k : Int)) w) : Calls Try.prog 12 #[.pointer (some ⟨C, 0, none⟩)] w fun e w' => e = .returned (.int .i64 (k : Int)) ∧ w' = w := by
  go_enter Try.func12, Try.ntmps12
  go_wp2
  go_ret
  exact ⟨rfl, rfl⟩
theorem queueLen_any {a : Option Addr} {k cap : Nat} (c : w.cell? ⟨C, 5, none⟩ = some (.slice a k cap)) : Calls Try.prog 13 #[.pointer (some ⟨C, 0, none⟩)] w fun e w' => e = .returned (.int .i64 (k : Int)) ∧ w' = w := by
  go_enter Try.func13, Try.ntmps13
  go_wp2
  go_ret
  exact ⟨rfl, rfl⟩
theorem keptAt_any {M : Nat} {s : ByteArray} {v : Value} (c : w.cell? ⟨C, 4, none⟩ = some (.map (some M))) (hl : (Instr.lookup 68 (.map (some M)) (.string s) false).run Try.prog w = .ok v w) : Calls Try.prog 14 #[.pointer (some ⟨C, 0, none⟩), .string s] w fun e w' => e = .returned v ∧ w' = w := by
  go_enter Try.func14, Try.ntmps14
  go_wp2
  go_ret
  exact ⟨rfl, rfl⟩
theorem spare_any {v : Value} (c : w.cell? ⟨C, 9, none⟩ = some v) : Calls Try.prog 15 #[.pointer (some ⟨C, 0, none⟩)] w fun e w' => e = .returned v ∧ w' = w := by
  go_enter Try.func15, Try.ntmps15
  go_wp2
  go_ret
  exact ⟨rfl, rfl⟩
theorem keptText_any {K : Nat} {v : Value} (c : w.cell? ⟨K, 1, none⟩ = some v) : Calls Try.prog 16 #[.pointer (some ⟨K, 0, none⟩)] w fun e w' => e = .returned v ∧ w' = w := by
  go_enter Try.func16, Try.ntmps16
  go_wp2
  go_ret
  exact ⟨rfl, rfl⟩
end
end Go.Proofs.Qxb6612455a
