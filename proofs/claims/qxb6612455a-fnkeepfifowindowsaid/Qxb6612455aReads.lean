/-
  THE FUNCTIONS THAT ONLY READ THE TEXTS.
-/
import Derived.Test.Qxb6612455aRows
import Derived.WalkKit
import Derived.BigQuiet
import Derived.Deep.QuietTactic
namespace Go.Proofs.Qxb6612455a
open Go.RowKit

/-- The texts that came in: n strings, T 0, .., T (n - 1). -/
def TxtAt (w : World) (a : Option Addr) (n : Nat) (T : Nat → ByteArray) : Prop :=
  n = 0 ∨ ∃ b off, a = some ⟨b, off, none⟩ ∧ b < w.heap.size ∧ ∀ k, k < n → w.cell? ⟨b, off + k, none⟩ = some (.string (T k))

def SomeBool (w : World) (e : Ending) (w' : World) : Prop := ∃ r : Bool, e = .returned (.bool r) ∧ w' = w
theorem someBool_mk (w : World) (r : Bool) : SomeBool w (.returned (.bool r)) w := ⟨r, rfl, rfl⟩

set_option maxHeartbeats 800000 in
theorem bytes_any (x : Int) (a : Option Addr) (cap n : Nat) (T : Nat → ByteArray) (w : World) (hm : n ≤ 9223372036854775807) (hr : TxtAt w a n T) :
    Calls Try.prog 4 #[.int .i64 x, .slice a n cap] w (SomeBool w) := by
  by_cases c1 : 1048576 < n
  · go_enter Try.func4, Try.ntmps4
    go_wp2
    go_ret
    exact someBool_mk _ _
  go_enter Try.func4, Try.ntmps4
  go_wp2
  go_loop [5, 6] (fun s i => ∃ k : Nat, ∃ m : Int, k ≤ n ∧ i = .int .i64 k ∧ s = .int .i64 m ∧ 0 ≤ m ∧ m ≤ 1048576) (fun _ i => n - (intOf i).toNat)
  case atStart => exact ⟨0, _, Nat.zero_le _, rfl, rfl, by omega, by omega⟩
  case round =>
    obtain ⟨k, s, hk, rfl, rfl, h0, h1⟩ := hrel
    by_cases hlt : k < n
    · rcases hr with rfl | ⟨b, off, rfl, hb, hl⟩
      · simp at hlt
      have c0 := hl k hlt
      clear hl
      go_wp2
      all_goals first
        | (go_ret; exact someBool_mk _ _)
        | (go_round
           case rel => exact ⟨k + 1, _, by omega, by go_num, rfl, by omega, by omega⟩
           case measure => simp [intOf]; omega)
    · go_wp2
      go_ret
      exact someBool_mk _ _

set_option maxHeartbeats 800000 in
theorem fit_any (a : Option Addr) (cap n : Nat) (T : Nat → ByteArray) (w : World) (hm : n ≤ 4096) (hr : TxtAt w a n T) :
    Calls Try.prog 5 #[.slice a n cap] w (SomeBool w) := by
  go_enter Try.func5, Try.ntmps5
  go_wp2
  go_loop [3, 4] (fun s i => ∃ k : Nat, ∃ m : Int, k ≤ n ∧ i = .int .i64 k ∧ s = .int .i64 m ∧ 0 ≤ m ∧ m ≤ 1048576) (fun _ i => n - (intOf i).toNat)
  case atStart => exact ⟨0, _, Nat.zero_le _, rfl, rfl, by omega, by omega⟩
  case round =>
    obtain ⟨k, s, hk, rfl, rfl, h0, h1⟩ := hrel
    by_cases hlt : k < n
    · rcases hr with rfl | ⟨b, off, rfl, hb, hl⟩
      · simp at hlt
      have c0 := hl k hlt
      clear hl
      go_wp2
      all_goals first
        | (go_ret; exact someBool_mk _ _)
        | (go_round
           case rel => exact ⟨k + 1, _, by omega, by go_num, rfl, by omega, by omega⟩
           case measure => simp [intOf]; omega)
    · go_wp2
      go_ret
      exact someBool_mk _ _

theorem keq_iff (a b : ByteArray) : (a.toList == b.toList) = true ↔ a = b := by
  rw [ByteArray.toList_eq, ByteArray.toList_eq, beq_iff_eq]
  refine ⟨fun h => ?_, fun h => by rw [h]⟩
  obtain ⟨⟨x⟩⟩ := a
  obtain ⟨⟨y⟩⟩ := b
  simp at h
  rw [h]
theorem keq_false {a b : ByteArray} (h : a ≠ b) : (a.toList == b.toList) = false := by
  cases e : (a.toList == b.toList) with
  | false => rfl
  | true => exact absurd ((keq_iff a b).1 e) h

theorem drewN_add (w : World) (a b : Nat) : (w.drewN a).drewN b = w.drewN (a + b) := by simp [World.drewN, Nat.add_assoc]
def DistPost (n : Nat) (T : Nat → ByteArray) (w : World) (e : Ending) (w' : World) : Prop :=
  ∃ r : Bool, e = .returned (.bool r) ∧ (∃ k, w' = w.drewN k) ∧ (r = true → ∀ i, i < n → ∀ j, j < i → T i ≠ T j)

set_option maxHeartbeats 800000 in
set_option maxRecDepth 100000 in
theorem dist_any (a : Option Addr) (cap n : Nat) (T : Nat → ByteArray) (w : World) (hm : n ≤ 4096) (hr : TxtAt w a n T) :
    Calls Try.prog 6 #[.slice a n cap] w (DistPost n T w) := by
  go_enter Try.func6, Try.ntmps6
  go_wp2
  go_loopw [3] (fun i wr => ∃ k : Nat, k ≤ n ∧ i = .int .i64 k ∧ Hid (∃ d, wr = w.drewN d) ∧ Hid (∀ i, i < k → ∀ j, j < i → T i ≠ T j)) (fun i _ => n - (intOf i).toNat)
  case atStart => exact ⟨0, Nat.zero_le _, rfl, ⟨0, rfl⟩, fun i hi => by omega⟩
  case round =>
    obtain ⟨k, hk, rfl, HD, HN⟩ := hrel
    by_cases hlt : k < n
    · rcases hr with rfl | ⟨b, off, rfl, hb, hl⟩
      · simp at hlt
      have HL : Hid (∀ k, k < n → w.cell? ⟨b, off + k, none⟩ = some (.string (T k))) := hl
      clear hl
      go_wp2
      go_loopw [4] (fun i wr => ∃ m : Nat, m ≤ k ∧ i = .int .i64 m ∧ Hid (∃ d, wr = w.drewN d) ∧ Hid (∀ j, j < m → T k ≠ T j)) (fun i _ => k - (intOf i).toNat)
      case atStart => exact ⟨0, Nat.zero_le _, rfl, HD, fun i hi => by omega⟩
      case round =>
        clear HD
        obtain ⟨m, hmk, rfl, HD, HM⟩ := hrel
        obtain ⟨d, rfl⟩ := HD.out
        by_cases hlt2 : m < k
        · have c1 := HL.out k hlt
          have c2 := HL.out m (by omega)
          by_cases e : T k = T m
          · have hq : ((T k).toList == (T m).toList) = true := (keq_iff _ _).2 e
            rw [e] at c1
            clear hq e HM HN
            go_wp2
            go_quiet (fail)
            go_wp2
            go_ret
            exact ⟨false, rfl, ⟨_, drewN_add _ _ _⟩, fun h => by cases h⟩
          · have hq := keq_false e
            have HE : Hid (T k ≠ T m) := e
            clear e
            go_wp2
            go_quiet (fail)
            go_wp2
            go_roundw
            case rel =>
              refine ⟨m + 1, by omega, by go_num, ⟨_, rfl⟩, fun j hj => ?_⟩
              by_cases e : j = m
              · subst e; exact HE.out
              · exact HM.out j (by omega)
            case measure => simp [intOf]; omega
        · go_wp2
          go_roundw
          case rel =>
            refine ⟨k + 1, by omega, by go_num, ⟨_, rfl⟩, fun i hi j hj => ?_⟩
            by_cases e : i = k
            · subst e; exact HM.out j (by omega)
            · exact HN.out i (by omega) j hj
          case measure => simp [intOf]; omega
    · obtain rfl : k = n := by omega
      go_wp2
      go_ret
      exact ⟨true, rfl, HD.out, fun _ => HN.out⟩
end Go.Proofs.Qxb6612455a
