/-
  THE CALLEES of the two laws on a level's first order.
-/
import Derived.Test.Qxb6612441aRows
import Derived.Test.Qxb6612441aMem
import Derived.BigQuiet
import Derived.Deep.QuietTactic
namespace Go.Proofs.Qxb6612441a
open Go.RowKit

theorem noHeads_any (w : World) : Calls Try.prog 6 #[] w fun e w' => e = .returned (.agg #[.pointer none, .pointer none, .pointer none, .pointer none]) ∧ ∃ c : Array Value, w' = w.alloc (.cells c 24) := by
  go_enter Try.func6, Try.ntmps6
  go_wp2
  simp [bodyPost, results, Try.results6, go_sem]
  exact ⟨_, rfl⟩

theorem newEntry_any (w : World) : Calls Try.prog 8 #[] w fun e w' => e = .returned (.pointer (some ⟨w.heap.size, 0, none⟩)) ∧ ∃ c : Array Value, w' = w.alloc (.cells c 54) := by
  go_enter Try.func8, Try.ntmps8
  go_wp2
  go_ret
  exact ⟨rfl, _, rfl⟩

theorem newTwo_any (w : World) : Calls Try.prog 7 #[] w fun e w' => e = .returned (.tuple #[.pointer (some ⟨w.heap.size, 0, none⟩), .pointer (some ⟨w.heap.size + 1, 0, none⟩)]) ∧ ∃ c c' : Array Value, w' = (w.alloc (.cells c 54)).alloc (.cells c' 54) := by
  go_enter Try.func7, Try.ntmps7
  go_wp2
  go_ret2
  exact ⟨rfl, _, _, rfl⟩

/-- A level at block L whose four queues have the heads h. -/
structure Level (w : World) (L : Nat) (h : Nat → Option Addr) : Prop where
  lt : L < w.heap.size
  head : ∀ i, i < 4 → w.cell? ⟨L, 1 + i * 2, none⟩ = some (.pointer (h i))

theorem Level.below {w w' : World} {L : Nat} {h : Nat → Option Addr} (hl : Level w L h) (hb : Below w.heap.size w w') : Level w' L h :=
  ⟨Nat.lt_of_lt_of_le hl.lt hb.size, fun i hi => (hb.cell (p := ⟨L, _, none⟩) hl.lt).trans (hl.head i hi)⟩

def LevelPost (h : Nat → Option Addr) (w : World) (e : Ending) (w' : World) : Prop := ∃ L, e = .returned (.pointer (some ⟨L, 0, none⟩)) ∧ Level w' L h ∧ Below w.heap.size w w'

theorem newLevel_any (h t : Nat → Option Addr) (w : World) :
    Calls Try.prog 9 #[.agg #[.pointer (h 0), .pointer (h 1), .pointer (h 2), .pointer (h 3)], .agg #[.pointer (t 0), .pointer (t 1), .pointer (t 2), .pointer (t 3)]] w (LevelPost h w) := by
  go_enter Try.func9, Try.ntmps9
  go_wp2
  go_region
  go_wp2
  go_region
  go_wp2
  go_region
  go_wp2
  go_region
  go_wp2
  go_ret
  refine ⟨w.heap.size + 1 + 1, rfl, ⟨by simp, fun i hi => ?_⟩, (((((((Below.refl _ _).alloc (Nat.le_refl _) _).alloc (by simp) _).alloc (by simp; omega) _).drew).drew).drew).drew⟩
  match i, hi with
  | 0, _ => simp [go_sem]
  | 1, _ => simp [go_sem]
  | 2, _ => simp [go_sem]
  | 3, _ => simp [go_sem]

/-- The first head that is there. -/
def firstOf (h : Nat → Option Addr) : Option Addr := (h 0).or ((h 1).or ((h 2).or (h 3)))
theorem firstOf_at (h : Nat → Option Addr) (k : Nat) (hk : k < 4) (hn : ∀ j, j < k → h j = none) (a : Addr) (hs : h k = some a) : firstOf h = some a := by
  match k, hk with
  | 0, _ => simp [firstOf, hs]
  | 1, _ => simp [firstOf, hn 0 (by omega), hs]
  | 2, _ => simp [firstOf, hn 0 (by omega), hn 1 (by omega), hs]
  | 3, _ => simp [firstOf, hn 0 (by omega), hn 1 (by omega), hn 2 (by omega), hs]
theorem firstOf_none (h : Nat → Option Addr) (hn : ∀ j, j < 4 → h j = none) : firstOf h = none := by
  simp [firstOf, hn 0 (by omega), hn 1 (by omega), hn 2 (by omega), hn 3 (by omega)]

theorem first_any (L : Nat) (h : Nat → Option Addr) (w : World) (hl : Level w L h) :
    Calls Try.prog 17 #[.pointer (some ⟨L, 0, none⟩)] w fun e w' => e = .returned (.pointer (firstOf h)) ∧ w' = w := by
  go_enter Try.func17, Try.ntmps17
  go_wp2
  go_loop [5] (fun i => ∃ k : Nat, k ≤ 4 ∧ i = .int .i64 k ∧ Hid (∀ j, j < k → h j = none)) (fun i => 4 - (intOf i).toNat)
  case atStart => exact ⟨0, by omega, rfl, fun j hj => by omega⟩
  case round =>
    obtain ⟨k, hk, rfl, HN⟩ := hrel
    by_cases hlt : k < 4
    · have c := hl.head k hlt
      have hkI : (k : Int) < 4 := by omega
      cases hh : h k with
      | none =>
        rw [hh] at c
        have HH : Hid (h k = none) := hh
        clear hh hl
        go_wp2
        go_round
        case rel =>
          refine ⟨k + 1, by omega, by go_num, fun j hj => ?_⟩
          by_cases e : j = k
          · subst e; exact HH.out
          · exact HN.out j (by omega)
        case measure => simp [intOf]; omega
      | some a =>
        rw [hh] at c
        have HF : Hid (firstOf h = some a) := firstOf_at h k hlt HN.out a hh
        clear hh hl
        go_wp2
        go_ret
        exact ⟨by rw [HF.out]; rfl, rfl⟩
    · have HF : Hid (firstOf h = none) := firstOf_none h fun j hj => HN.out j (by omega)
      go_wp2
      go_ret
      exact ⟨by rw [HF.out]; rfl, rfl⟩

theorem levelFirst_any (L : Nat) (h : Nat → Option Addr) (w : World) (hl : Level w L h) :
    Calls Try.prog 10 #[.pointer (some ⟨L, 0, none⟩)] w fun e w' => e = .returned (.pointer (firstOf h)) ∧ w' = w := by
  have H := first_any L h w hl
  clear hl
  go_enter Try.func10, Try.ntmps10
  go_wp2_with fail
  refine H.mono ?_
  rintro e w' ⟨rfl, rfl⟩
  clear H
  go_wp2
  go_ret
  exact ⟨rfl, rfl⟩
end Go.Proofs.Qxb6612441a
