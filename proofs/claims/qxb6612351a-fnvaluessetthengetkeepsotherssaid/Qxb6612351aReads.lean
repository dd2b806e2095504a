/-
  THE FUNCTIONS THAT ONLY READ THE ARGUMENTS; THE STORE IN MEMORY; index and what it calls.
-/
import Derived.Test.Qxb6612351aRows
import Derived.Test.Qxb6612351aShape
namespace Go.Proofs.Qxb6612351a
open Go.RowKit

/-- A string's one cell; an int's one cell. -/
def sc (s : ByteArray) : List Value := [.string s]
def ic (n : Int) : List Value := [.int .i64 n]
def bc (b : Bool) : List Value := [.bool b]
/-- An entry of the store: its key, its value (an int behind 'any'). -/
def ec (e : ByteArray × Int) : List Value := [.string e.1, .iface 3 (.int .i64 e.2)]
theorem sc_len (k : ByteArray) : (sc k).length = 1 := rfl
theorem ic_len (k : Int) : (ic k).length = 1 := rfl
theorem bc_len (k : Bool) : (bc k).length = 1 := rfl
theorem ec_len (k : ByteArray × Int) : (ec k).length = 2 := rfl

/-- A slice that came in: it is empty, or its elements lie at its address. -/
def RowAt {α : Type} (w : World) (a : Option Addr) (sz : Nat) (c : α → List Value) (l : List α) : Prop :=
  l = [] ∨ ∃ b off, a = some ⟨b, off, none⟩ ∧ b < w.heap.size ∧ Lies w b off sz c l
theorem RowAt.below {α : Type} {w w' : World} {a : Option Addr} {sz : Nat} {c : α → List Value} {l : List α} (h : RowAt w a sz c l) (hb : Below w.heap.size w w') : RowAt w' a sz c l := by
  rcases h with h | ⟨b, off, h1, h2, h3⟩
  · exact .inl h
  · exact .inr ⟨b, off, h1, Nat.lt_of_lt_of_le h2 hb.size, h3.below hb h2⟩
theorem str_cell {w : World} {b off : Nat} {ss : List ByteArray} (h : Lies w b off 1 sc ss) (k : Nat) (hk : k < ss.length) : w.cell? ⟨b, off + k, none⟩ = some (.string ss[k]) := by
  have := h k hk 0 (by decide)
  rwa [Nat.mul_one] at this
theorem int_cell {w : World} {b off : Nat} {ss : List Int} (h : Lies w b off 1 ic ss) (k : Nat) (hk : k < ss.length) : w.cell? ⟨b, off + k, none⟩ = some (.int .i64 ss[k]) := by
  have := h k hk 0 (by decide)
  rwa [Nat.mul_one] at this

def SomeBool (w : World) (e : Ending) (w' : World) : Prop := ∃ r : Bool, e = .returned (.bool r) ∧ w' = w
theorem someBool_mk (w : World) (r : Bool) : SomeBool w (.returned (.bool r)) w := ⟨r, rfl, rfl⟩

set_option maxHeartbeats 800000 in
theorem bytes_any (a a' : Option Addr) (cap cap' : Nat) (ss : List ByteArray) (vs : List Int) (key : ByteArray) (x : Int) (w : World)
    (hm : ss.length ≤ 9223372036854775807) (hm' : vs.length ≤ 9223372036854775807) (hk : key.size ≤ 9223372036854775807) (hr : RowAt w a 1 sc ss) :
    Calls Try.prog 4 #[.slice a ss.length cap, .slice a' vs.length cap', .string key, .int .i64 x] w (SomeBool w) := by
  by_cases c1 : 1048576 < ss.length
  · go_enter Try.func4, Try.ntmps4
    go_wp2
    go_ret
    exact someBool_mk _ _
  go_enter Try.func4, Try.ntmps4
  go_wp2
  go_loop [9, 10] (fun n i => ∃ k : Nat, ∃ m : Int, k ≤ ss.length ∧ i = .int .i64 k ∧ n = .int .i64 m ∧ 0 ≤ m ∧ m ≤ 1048576) (fun _ i => ss.length - (intOf i).toNat)
  case atStart => exact ⟨0, _, Nat.zero_le _, rfl, rfl, by omega, by omega⟩
  case round =>
    obtain ⟨k, n, hk, rfl, rfl, h0, h1⟩ := hrel
    by_cases hlt : k < ss.length
    · rcases hr with rfl | ⟨b, off, rfl, hb, hl⟩
      · simp at hlt
      have c0 := str_cell hl k hlt
      clear hl
      go_wp2
      all_goals first
        | (go_ret; exact someBool_mk _ _)
        | (go_round
           case rel => exact ⟨k + 1, _, by omega, by go_num, rfl, by omega, by omega⟩
           case measure => simp [intOf]; omega)
    · by_cases c2 : 1048576 < vs.length
      · go_wp2
        go_ret
        exact someBool_mk _ _
      by_cases c3 : 1048576 < key.size
      · go_wp2
        all_goals
          go_ret
          exact someBool_mk _ _
      go_wp2
      all_goals
        go_ret
        exact someBool_mk _ _

def SomeInt (w : World) (e : Ending) (w' : World) : Prop := ∃ m : Int, e = .returned (.int .i64 m) ∧ w' = w
theorem someInt_mk (w : World) (m : Int) : SomeInt w (.returned (.int .i64 m)) w := ⟨m, rfl, rfl⟩

theorem stringsBytes_any (a : Option Addr) (cap : Nat) (ss : List ByteArray) (w : World) (hm : ss.length ≤ 4096) (hr : RowAt w a 1 sc ss) :
    Calls Try.prog 5 #[.slice a ss.length cap] w (SomeInt w) := by
  go_enter Try.func5, Try.ntmps5
  go_wp2
  go_loop [3, 4] (fun n i => ∃ k : Nat, ∃ m : Int, k ≤ ss.length ∧ i = .int .i64 k ∧ n = .int .i64 m) (fun _ i => ss.length - (intOf i).toNat)
  case atStart => exact ⟨0, _, Nat.zero_le _, rfl, rfl⟩
  case round =>
    obtain ⟨k, n, hk, rfl, rfl⟩ := hrel
    by_cases hlt : k < ss.length
    · rcases hr with rfl | ⟨b, off, rfl, hb, hl⟩
      · simp at hlt
      have c0 := str_cell hl k hlt
      clear hl
      go_wp2
      go_round
      case rel => exact ⟨k + 1, _, by omega, by go_num, rfl⟩
      case measure => simp [intOf]; omega
    · go_wp2
      go_ret
      exact someInt_mk _ _

/-! ### The plain store -/
/-- Two strings are one (as the walk spells it). -/
def keq (a b : ByteArray) : Bool := a.toList == b.toList
theorem keq_iff (a b : ByteArray) : keq a b = true ↔ a = b := by
  unfold keq
  rw [ByteArray.toList_eq, ByteArray.toList_eq, beq_iff_eq]
  refine ⟨fun h => ?_, fun h => by rw [h]⟩
  obtain ⟨⟨x⟩⟩ := a
  obtain ⟨⟨y⟩⟩ := b
  simp at h
  rw [h]
/-- Where the key stands. -/
def pos (l : List (ByteArray × Int)) (key : ByteArray) : Option Nat := l.findIdx? fun e => keq e.1 key
def idx (l : List (ByteArray × Int)) (key : ByteArray) : Int := match pos l key with
  | some i => (i : Int)
  | none => -1
theorem pos_some (l : List (ByteArray × Int)) (key : ByteArray) (k : Nat) (hk : k < l.length) (h1 : keq l[k].1 key = true) (h2 : ∀ j, (hj : j < l.length) → j < k → keq l[j].1 key = false) : pos l key = some k := by
  unfold pos
  rw [List.findIdx?_eq_some_iff_getElem]
  exact ⟨hk, h1, fun j hj => by simp [h2 j (by omega) hj]⟩
theorem pos_none (l : List (ByteArray × Int)) (key : ByteArray) (h2 : ∀ j, (hj : j < l.length) → keq l[j].1 key = false) : pos l key = none := by
  unfold pos
  rw [List.findIdx?_eq_none_iff]
  intro x hx
  obtain ⟨j, hj, rfl⟩ := List.mem_iff_getElem.1 hx
  exact h2 j hj

/-! ### index$1: the key is asked for -/
theorem closure_any (k : ByteArray) (v : Value) (B : Nat) (key : ByteArray) (w : World) (hB : w.cell? ⟨B, 0, none⟩ = some (.string key)) (hlt : B < w.heap.size) :
    Calls Try.prog 12 #[.agg #[.string k, v], .pointer (some ⟨B, 0, none⟩)] w fun e w' => e = .returned (.bool (keq k key)) ∧ ∃ c1 : Array Value, w' = w.alloc (.cells c1 38) := by
  go_enter Try.func12, Try.ntmps12
  go_wp2
  go_ret
  exact ⟨rfl, _, rfl⟩

/-! ### slices.IndexFunc, at this closure -/
def IdxPost (l : List (ByteArray × Int)) (key : ByteArray) (w : World) (e : Ending) (w' : World) : Prop := e = .returned (.int .i64 (idx l key)) ∧ Below w.heap.size w w'

theorem ent_cells {w : World} {b off : Nat} {l : List (ByteArray × Int)} (h : Lies w b off 2 ec l) (k : Nat) (hk : k < l.length) :
    w.cell? ⟨b, off + k * 2, none⟩ = some (.string l[k].1) ∧ w.cell? ⟨b, off + k * 2 + 1, none⟩ = some (.iface 3 (.int .i64 l[k].2)) :=
  ⟨h k hk 0 (by decide), h k hk 1 (by decide)⟩

set_option maxHeartbeats 800000 in
theorem indexFunc_any (a : Option Addr) (cap : Nat) (l : List (ByteArray × Int)) (hn : l.length ≤ 1000000) (B : Nat) (key : ByteArray) (w : World) (hB : w.cell? ⟨B, 0, none⟩ = some (.string key)) (hlt : B < w.heap.size) (hr : RowAt w a 2 ec l) :
    Calls Try.prog 11 #[.slice a l.length cap, .func (Fn.func 12) #[] #[.pointer (some ⟨B, 0, none⟩)]] w (IdxPost l key w) := by
  go_enter Try.func11, Try.ntmps11
  go_wp2
  go_loopw [8] (fun i wr => ∃ k : Nat, k ≤ l.length ∧ i = .int .i64 k ∧ Hid (∀ j, (hj : j < l.length) → j < k → keq l[j].1 key = false) ∧ Below w.heap.size w wr) (fun i _ => l.length - (intOf i).toNat)
  case atStart => exact ⟨0, Nat.zero_le _, rfl, fun j _ h => by omega, Below.refl _ _⟩
  case round =>
    obtain ⟨k, hk, rfl, HN, hbel⟩ := hrel
    by_cases hlk : k < l.length
    · rcases hr with rfl | ⟨b, off, rfl, hb, hl⟩
      · simp at hlk
      obtain ⟨c0, c1⟩ := ent_cells (hl.below hbel hb) k hlk
      have hB' : wr.cell? ⟨B, 0, none⟩ = some (.string key) := (hbel.cell (p := ⟨B, 0, none⟩) hlt).trans hB
      have hlt' : B < wr.heap.size := Nat.lt_of_lt_of_le hlt hbel.size
      have hkI : (k : Int) < (l.length : Int) := by omega
      have hsz := hbel.size
      clear hl hB
      cases hq : keq l[k].1 key
      · go_wp2_with (go_at_call 12; refine (closure_any _ _ B key _ hB' hlt').mono ?_; rintro e w' ⟨rfl, o1, rfl⟩)
        go_roundw
        case rel =>
          refine ⟨k + 1, by omega, by go_num, fun j hj hjk => ?_, hbel.alloc hsz _⟩
          by_cases e : j = k
          · subst e; exact hq
          · exact HN.out j hj (by omega)
        case measure => simp [intOf]; omega
      · go_wp2_with (go_at_call 12; refine (closure_any _ _ B key _ hB' hlt').mono ?_; rintro e w' ⟨rfl, o1, rfl⟩)
        go_ret
        exact ⟨by rw [idx, pos_some l key k hlk hq HN.out]; rfl, hbel.alloc hsz _⟩
    · have HP : Hid (pos l key = none) := pos_none l key fun j hj => HN.out j hj (by omega)
      go_wp2
      go_ret
      exact ⟨by rw [idx, HP.out]; rfl, hbel⟩
end Go.Proofs.Qxb6612351a
