/-
  THE FUNCTIONS THAT ONLY READ: addLen, scannerBytes, kindsBytes, scriptDropsMust, liveIn, liveKeys, the bound on lengths; and the two that copy one struct.
-/
import Derived.Test.Qxb6609413aFmtRows
import Derived.Test.Qxb6609413aFmtMem
namespace Go.Proofs.Qxb6609413aFmt
open Go.RowKit

structure Key where
  tok : Int
  pos : Int
  line : Int
  col : Int
  must : Bool
structure Tok where
  kind : ByteArray
  value : ByteArray
  handle : ByteArray
  style : ByteArray
  pos : Int
  line : Int
  col : Int

/-- A key's cells (KeyIn, ZZKey, maybeKey: one order). -/
def kc (k : Key) : List Value := [.int .i64 k.tok, .int .i64 k.pos, .int .i64 k.line, .int .i64 k.col, .bool k.must]
/-- A token's cells as TokenIn and ZZToken lay them. -/
def tc (t : Tok) : List Value := [.string t.kind, .string t.value, .string t.handle, .string t.style, .int .i64 t.pos, .int .i64 t.line, .int .i64 t.col]
/-- A token's cells as the scanner's queue lays them. -/
def qc (t : Tok) : List Value := [.string t.kind, .int .i64 t.pos, .int .i64 t.line, .int .i64 t.col, .string t.value, .string t.handle, .string t.style]
/-- A string's one cell. -/
def sc (s : ByteArray) : List Value := [.string s]

/-- A slice that came in: it is empty, or its elements lie at its address. -/
def RowAt {α : Type} (w : World) (a : Option Addr) (sz : Nat) (c : α → List Value) (l : List α) : Prop :=
  l = [] ∨ ∃ b off, a = some ⟨b, off, none⟩ ∧ b < w.heap.size ∧ Lies w b off sz c l

theorem RowAt.below {α : Type} {w w' : World} {a : Option Addr} {sz : Nat} {c : α → List Value} {l : List α} (h : RowAt w a sz c l) (hb : Below w.heap.size w w') : RowAt w' a sz c l := by
  rcases h with h | ⟨b, off, h1, h2, h3⟩
  · exact .inl h
  · exact .inr ⟨b, off, h1, Nat.lt_of_lt_of_le h2 hb.size, h3.below hb h2⟩

theorem key_cells {w : World} {b off : Nat} {ks : List Key} (h : Lies w b off 5 kc ks) (k : Nat) (hk : k < ks.length) :
    w.cell? ⟨b, off + k * 5, none⟩ = some (.int .i64 ks[k].tok) ∧ w.cell? ⟨b, off + k * 5 + 1, none⟩ = some (.int .i64 ks[k].pos) ∧ w.cell? ⟨b, off + k * 5 + 2, none⟩ = some (.int .i64 ks[k].line) ∧
    w.cell? ⟨b, off + k * 5 + 3, none⟩ = some (.int .i64 ks[k].col) ∧ w.cell? ⟨b, off + k * 5 + 4, none⟩ = some (.bool ks[k].must) :=
  ⟨h k hk 0 (by decide), h k hk 1 (by decide), h k hk 2 (by decide), h k hk 3 (by decide), h k hk 4 (by decide)⟩
theorem tok_cells {w : World} {b off : Nat} {ts : List Tok} (h : Lies w b off 7 tc ts) (k : Nat) (hk : k < ts.length) :
    w.cell? ⟨b, off + k * 7, none⟩ = some (.string ts[k].kind) ∧ w.cell? ⟨b, off + k * 7 + 1, none⟩ = some (.string ts[k].value) ∧ w.cell? ⟨b, off + k * 7 + 2, none⟩ = some (.string ts[k].handle) ∧
    w.cell? ⟨b, off + k * 7 + 3, none⟩ = some (.string ts[k].style) ∧ w.cell? ⟨b, off + k * 7 + 4, none⟩ = some (.int .i64 ts[k].pos) ∧ w.cell? ⟨b, off + k * 7 + 5, none⟩ = some (.int .i64 ts[k].line) ∧
    w.cell? ⟨b, off + k * 7 + 6, none⟩ = some (.int .i64 ts[k].col) :=
  ⟨h k hk 0 (by decide), h k hk 1 (by decide), h k hk 2 (by decide), h k hk 3 (by decide), h k hk 4 (by decide), h k hk 5 (by decide), h k hk 6 (by decide)⟩
theorem str_cell {w : World} {b off : Nat} {ss : List ByteArray} (h : Lies w b off 1 sc ss) (k : Nat) (hk : k < ss.length) : w.cell? ⟨b, off + k, none⟩ = some (.string ss[k]) := by
  have := h k hk 0 (by decide)
  rwa [Nat.mul_one] at this

/-! ### addLen -/
theorem addLen_any (n l : Int) (w : World) (h0 : 0 ≤ n) (h2 : 0 ≤ l) :
    Calls Tryf.prog 5 #[.int .i64 n, .int .i64 l] w fun e w' => ∃ m : Int, e = .returned (.int .i64 m) ∧ 0 ≤ m ∧ m ≤ 2097152 ∧ (m ≤ 1048576 → n ≤ 1048576 ∧ l ≤ 1048576) ∧ w' = w := by
  by_cases c1 : 1048576 < n
  · go_enter Tryf.func5, Tryf.ntmps5
    go_wp2
    go_ret
    exact ⟨_, rfl, by omega, by omega, by omega, rfl⟩
  · by_cases c2 : 1048576 < l
    · go_enter Tryf.func5, Tryf.ntmps5
      go_wp2
      go_ret
      exact ⟨_, rfl, by omega, by omega, by omega, rfl⟩
    · go_enter Tryf.func5, Tryf.ntmps5
      go_wp2
      go_ret
      exact ⟨_, rfl, by omega, by omega, rfl⟩

/-! ### kindsBytes -/
theorem kindsBytes_any (a : Option Addr) (cap : Nat) (ss : List ByteArray) (w : World) (hm : ss.length ≤ 9223372036854775807) (hr : RowAt w a 1 sc ss) :
    Calls Tryf.prog 7 #[.slice a ss.length cap] w fun e w' => ∃ m : Int, e = .returned (.int .i64 m) ∧ 0 ≤ m ∧ (m ≤ 1048576 → ss.length ≤ 65536) ∧ w' = w := by
  by_cases c1 : 65536 < ss.length
  · go_enter Tryf.func7, Tryf.ntmps7
    go_wp2
    go_ret
    exact ⟨_, rfl, by omega, by omega, rfl⟩
  · go_enter Tryf.func7, Tryf.ntmps7
    go_wp2
    go_loop [3, 4] (fun n i => ∃ k : Nat, ∃ m : Int, k ≤ ss.length ∧ i = .int .i64 k ∧ n = .int .i64 m ∧ 0 ≤ m) (fun _ i => ss.length - (intOf i).toNat)
    case atStart => exact ⟨0, _, Nat.zero_le _, rfl, rfl, by omega⟩
    case round =>
      obtain ⟨k, m, hk, rfl, rfl, h0⟩ := hrel
      by_cases hlt : k < ss.length
      · rcases hr with rfl | ⟨b, off, rfl, hb, hl⟩
        · simp at hlt
        have c0 := str_cell hl k hlt
        clear hl
        go_wp2_with (go_at_call 5; refine (addLen_any _ _ _ (by omega) (by omega)).mono ?_; rintro e w' ⟨m', rfl, hm1, hm2, hm3, rfl⟩)
        go_round
        case rel => exact ⟨k + 1, m', by omega, by go_num, rfl, by omega⟩
        case measure => simp [intOf]; omega
      · go_wp2
        go_ret
        exact ⟨_, rfl, h0, by omega, rfl⟩


/-! ### scannerBytes -/
theorem scannerBytes_any (a a' : Option Addr) (cap cap' : Nat) (ks : List Key) (ts : List Tok) (w : World) (hm : ks.length ≤ 9223372036854775807) (hm' : ts.length ≤ 9223372036854775807) (hr : RowAt w a' 7 tc ts) :
    Calls Tryf.prog 6 #[.slice a ks.length cap, .slice a' ts.length cap'] w fun e w' => ∃ m : Int, e = .returned (.int .i64 m) ∧ 0 ≤ m ∧ (m ≤ 1048576 → ks.length ≤ 26214 ∧ ts.length ≤ 11915) ∧ w' = w := by
  by_cases c1 : 26214 < ks.length
  · go_enter Tryf.func6, Tryf.ntmps6
    go_wp2
    go_ret
    exact ⟨_, rfl, by omega, by omega, rfl⟩
  by_cases c2 : 11915 < ts.length
  · go_enter Tryf.func6, Tryf.ntmps6
    go_wp2
    go_ret
    exact ⟨_, rfl, by omega, by omega, rfl⟩
  go_enter Tryf.func6, Tryf.ntmps6
  go_wp2
  go_loop [5, 6] (fun n i => ∃ k : Nat, ∃ m : Int, k ≤ ts.length ∧ i = .int .i64 k ∧ n = .int .i64 m ∧ 0 ≤ m) (fun _ i => ts.length - (intOf i).toNat)
  case atStart => exact ⟨0, _, Nat.zero_le _, rfl, rfl, by omega⟩
  case round =>
    obtain ⟨k, m, hk, rfl, rfl, h0⟩ := hrel
    by_cases hlt : k < ts.length
    · rcases hr with rfl | ⟨b, off, rfl, hb, hl⟩
      · simp at hlt
      obtain ⟨t0, t1, t2, t3, _⟩ := tok_cells hl k hlt
      clear hl
      go_wp2_with (go_at_call 5; refine (addLen_any _ _ _ (by omega) (by omega)).mono ?_; rintro e w' ⟨m', rfl, hm1, hm2, hm3, rfl⟩)
      go_round
      case rel => exact ⟨k + 1, _, by omega, by go_num, rfl, by omega⟩
      case measure => simp [intOf]; omega
    · go_wp2
      go_ret
      exact ⟨_, rfl, h0, by omega, rfl⟩

/-! ### liveIn, liveKeys -/
def live (ks : List Key) : Nat := ks.countP fun k => decide (0 ≤ k.tok)
theorem live_le (ks : List Key) : live ks ≤ ks.length := List.countP_le_length
theorem live_take (ks : List Key) (k : Nat) (h : k < ks.length) : live (ks.take (k + 1)) = live (ks.take k) + if 0 ≤ ks[k].tok then 1 else 0 := by
  unfold live
  rw [List.take_succ_eq_append_getElem h, List.countP_append]
  by_cases c : 0 ≤ ks[k].tok <;> simp [c]

theorem liveIn_any (a : Option Addr) (cap : Nat) (ks : List Key) (w : World) (hm : ks.length ≤ 26214) (hr : RowAt w a 5 kc ks) :
    Calls Tryf.prog 19 #[.slice a ks.length cap] w fun e w' => e = .returned (.int .i64 (live ks)) ∧ w' = w := by
  go_enter Tryf.func19, Tryf.ntmps19
  go_wp2
  go_loop [3, 4] (fun t i => ∃ k : Nat, k ≤ ks.length ∧ i = .int .i64 k ∧ t = .int .i64 (live (ks.take k))) (fun _ i => ks.length - (intOf i).toNat)
  case atStart => exact ⟨0, Nat.zero_le _, rfl, rfl⟩
  case round =>
    obtain ⟨k, hk, rfl, rfl⟩ := hrel
    have hle := live_le (ks.take k)
    have hle2 : (ks.take k).length ≤ k := List.length_take_le _ _
    by_cases hlt : k < ks.length
    · rcases hr with rfl | ⟨b, off, rfl, hb, hl⟩
      · simp at hlt
      obtain ⟨c0, _⟩ := key_cells hl k hlt
      have HS : Hid (live (ks.take (k + 1)) = live (ks.take k) + if 0 ≤ ks[k].tok then 1 else 0) := live_take ks k hlt
      clear hl
      by_cases hc : 0 ≤ ks[k].tok
      · go_wp2
        go_round
        case rel => exact ⟨k + 1, by omega, by go_num, by rw [HS.out, if_pos hc]; go_num⟩
        case measure => simp [intOf]; omega
      · go_wp2
        go_round
        case rel => exact ⟨k + 1, by omega, by go_num, by rw [HS.out, if_neg (by omega)]; go_num⟩
        case measure => simp [intOf]; omega
    · have ek : k = ks.length := by omega
      subst ek
      go_wp2
      go_ret
      exact ⟨rfl, rfl⟩

theorem liveKeys_any (a : Option Addr) (cap : Nat) (ks : List Key) (w : World) (hm : ks.length ≤ 26214) (hr : RowAt w a 5 kc ks) :
    Calls Tryf.prog 18 #[.slice a ks.length cap] w fun e w' => e = .returned (.int .i64 (live ks)) ∧ w' = w := by
  go_enter Tryf.func18, Tryf.ntmps18
  go_wp2
  go_loop [3, 4] (fun t i => ∃ k : Nat, k ≤ ks.length ∧ i = .int .i64 k ∧ t = .int .i64 (live (ks.take k))) (fun _ i => ks.length - (intOf i).toNat)
  case atStart => exact ⟨0, Nat.zero_le _, rfl, rfl⟩
  case round =>
    obtain ⟨k, hk, rfl, rfl⟩ := hrel
    have hle := live_le (ks.take k)
    have hle2 : (ks.take k).length ≤ k := List.length_take_le _ _
    by_cases hlt : k < ks.length
    · rcases hr with rfl | ⟨b, off, rfl, hb, hl⟩
      · simp at hlt
      obtain ⟨c0, _⟩ := key_cells hl k hlt
      have HS : Hid (live (ks.take (k + 1)) = live (ks.take k) + if 0 ≤ ks[k].tok then 1 else 0) := live_take ks k hlt
      clear hl
      by_cases hc : 0 ≤ ks[k].tok
      · go_wp2
        go_round
        case rel => exact ⟨k + 1, by omega, by go_num, by rw [HS.out, if_pos hc]; go_num⟩
        case measure => simp [intOf]; omega
      · go_wp2
        go_round
        case rel => exact ⟨k + 1, by omega, by go_num, by rw [HS.out, if_neg (by omega)]; go_num⟩
        case measure => simp [intOf]; omega
    · have ek : k = ks.length := by omega
      subst ek
      go_wp2
      go_ret
      exact ⟨rfl, rfl⟩

/-! ### scriptDropsMust -/
theorem drops_any (a : Option Addr) (cap n : Nat) (ks : List Key) (w : World) (hm : ks.length ≤ 26214) (hn : n ≤ 65536) (hr : RowAt w a 5 kc ks) :
    Calls Tryf.prog 8 #[.slice a ks.length cap, .int .i64 n] w fun e w' => ∃ r : Bool, e = .returned (.bool r) ∧ (r = false → ∀ i, (h : i < ks.length) → ks.length ≤ i + n → 0 ≤ ks[i].tok → ks[i].must = false) ∧ w' = w := by
  go_enter Tryf.func8, Tryf.ntmps8
  go_wp2
  go_loop [5] (fun j => ∃ m : Nat, m ≤ ks.length ∧ j = .int .i64 ((m : Int) - 1) ∧ Hid (∀ i, (h : i < ks.length) → m ≤ i → 0 ≤ ks[i].tok → ks[i].must = false)) (fun j => (intOf j + 1).toNat)
  case atStart => exact ⟨ks.length, Nat.le_refl _, rfl, fun i h1 h2 => by omega⟩
  case round =>
    obtain ⟨m, hmk, rfl, HI⟩ := hrel
    by_cases h1 : 1 ≤ m
    · obtain ⟨k, rfl⟩ : ∃ k, m = k + 1 := ⟨m - 1, by omega⟩
      have e1 : (((k + 1 : Nat) : Int) - 1) = (k : Int) := by omega
      rw [e1]
      clear e1
      rcases hr with rfl | ⟨b, off, rfl, hb, hl⟩
      · simp at hmk
      obtain ⟨c0, _, _, _, c4⟩ := key_cells hl k (by omega)
      clear hl
      by_cases h2 : ks.length ≤ k + n
      · by_cases h3 : 0 ≤ ks[k].tok
        · cases h4 : ks[k].must
          · go_wp2
            go_round
            case rel =>
              refine ⟨k, by omega, by go_num, fun i hi hki ht => ?_⟩
              by_cases e : i = k
              · subst e; exact h4
              · exact HI i hi (by omega) ht
            case measure => simp [intOf]
          · go_wp2
            go_ret
            exact .inr ⟨rfl, rfl⟩
        · go_wp2
          go_round
          case rel =>
            refine ⟨k, by omega, by go_num, fun i hi hki ht => ?_⟩
            by_cases e : i = k
            · subst e; exact absurd ht (by omega)
            · exact HI i hi (by omega) ht
          case measure => simp [intOf]
      · go_wp2
        go_ret
        exact .inl ⟨rfl, fun i hi h ht => HI.out i hi (by omega) ht, rfl⟩
    · obtain rfl : m = 0 := by omega
      go_wp2
      go_ret
      exact .inl ⟨rfl, fun i hi h ht => HI.out i hi (by omega) ht, rfl⟩


/-! ### The two that copy one struct -/
theorem toZZKey_any (k : Key) (w : World) :
    Calls Tryf.prog 16 #[.agg #[.int .i64 k.tok, .int .i64 k.pos, .int .i64 k.line, .int .i64 k.col, .bool k.must]] w fun e w' =>
     e = .returned (.agg #[.int .i64 k.tok, .int .i64 k.pos, .int .i64 k.line, .int .i64 k.col, .bool k.must]) ∧ ∃ c1 c2 : Array Value, w' = (w.alloc (.cells c1 44)).alloc (.cells c2 42) := by
  go_enter Tryf.func16, Tryf.ntmps16
  go_wp2
  simp [bodyPost, results, Tryf.results16, go_sem]
  exact ⟨_, _, rfl⟩

theorem toZZToken_any (t : Tok) (w : World) :
    Calls Tryf.prog 22 #[.agg #[.string t.kind, .string t.value, .string t.handle, .string t.style, .int .i64 t.pos, .int .i64 t.line, .int .i64 t.col]] w fun e w' =>
     e = .returned (.agg #[.string t.kind, .string t.value, .string t.handle, .string t.style, .int .i64 t.pos, .int .i64 t.line, .int .i64 t.col]) ∧ ∃ c1 c2 : Array Value, w' = (w.alloc (.cells c1 53)).alloc (.cells c2 51) := by
  go_enter Tryf.func22, Tryf.ntmps22
  go_wp2
  simp [bodyPost, results, Tryf.results22, go_sem]
  exact ⟨_, _, rfl⟩

end Go.Proofs.Qxb6609413aFmt
