/-
  toZZKeys, toZZTokens: a new row that holds what the slice held.
-/
import Derived.Test.Qxb6609413aFmtReads
namespace Go.Proofs.Qxb6609413aFmt
open Go.RowKit

theorem Tryf.info42 : (Tryf.prog.info? 42).map (fun i => (i.zero, i.size, i.bytes)) = some (some (.agg #[.int .i64 0, .int .i64 0, .int .i64 0, .int .i64 0, .bool false]), 5, 40) := by kernel_rfl
theorem Tryf.info51 : (Tryf.prog.info? 51).map (fun i => (i.zero, i.size, i.bytes)) = some (some (.agg #[.string ByteArray.empty, .string ByteArray.empty, .string ByteArray.empty, .string ByteArray.empty, .int .i64 0, .int .i64 0, .int .i64 0]), 7, 88) := by kernel_rfl

/-- The call hands back a new row that holds l; nothing that was there has turned. -/
def Made {α : Type} (sz : Nat) (c : α → List Value) (l : List α) (w : World) (e : Ending) (w' : World) : Prop :=
  ∃ g, e = .returned (.slice (some ⟨g, 0, none⟩) l.length l.length) ∧ w.heap.size ≤ g ∧ Own w' g sz c l ∧ Below w.heap.size w w'

theorem Own.ex {α : Type} {w : World} {b sz : Nat} {c : α → List Value} {l : List α} (hc : ∀ x, (c x).length = sz) (h : Own w b sz c l) (k : Nat) (hk : k < l.length) (j : Nat) (hj : j < sz) :
    ∃ v, w.cell? ⟨b, k * sz + j, none⟩ = some v := by
  rw [h.at_ k hk j hj, List.getElem?_eq_getElem (by rw [hc]; exact hj)]
  exact ⟨_, rfl⟩

theorem kc_len (k : Key) : (kc k).length = 5 := rfl
theorem tc_len (k : Tok) : (tc k).length = 7 := rfl
theorem qc_len (k : Tok) : (qc k).length = 7 := rfl
theorem sc_len (k : ByteArray) : (sc k).length = 1 := rfl

/-- The row as it stands after k of its elements have been laid. -/
def part {α : Type} (l : List α) (d : α) (k : Nat) : List α := l.take k ++ List.replicate (l.length - k) d
theorem part_len {α : Type} (l : List α) (d : α) (k : Nat) (h : k ≤ l.length) : (part l d k).length = l.length := by simp [part]; omega
theorem part_zero {α : Type} (l : List α) (d : α) : part l d 0 = List.replicate l.length d := by simp [part]
theorem part_all {α : Type} (l : List α) (d : α) : part l d l.length = l := by simp [part]
theorem part_set {α : Type} (l : List α) (d : α) (k : Nat) (h : k < l.length) : (part l d k).set k l[k] = part l d (k + 1) := by
  have e : l.length - k = (l.length - (k + 1)) + 1 := by omega
  unfold part
  rw [e, List.replicate_succ, List.set_append_right _ _ (by simp; omega), List.take_succ_eq_append_getElem h]
  have e2 : k - (l.take k).length = 0 := by simp; omega
  rw [e2]
  simp only [List.set_cons_zero, List.append_assoc, List.singleton_append]

def zk : Key := ⟨0, 0, 0, 0, false⟩
def zt : Tok := ⟨ByteArray.empty, ByteArray.empty, ByteArray.empty, ByteArray.empty, 0, 0, 0⟩

set_option maxHeartbeats 800000 in
theorem toZZKeys_any (a : Option Addr) (cap : Nat) (ks : List Key) (w : World) (hm : ks.length ≤ 26214) (hr : RowAt w a 5 kc ks) :
    Calls Tryf.prog 10 #[.slice a ks.length cap] w (Made 5 kc ks w) := by
  obtain ⟨i0, hi, hz0, hz1, hz2⟩ := info_parts Tryf.info42
  have hmk := run_make (P := Tryf.prog) w 32 42 i0 _ Tryf.underlying32 hi hz0 .i64 .i64 ks.length ks.length (by omega) (by omega) (by rw [hz2]; omega) (by omega)
  simp only [Int.toNat_natCast, hz1] at hmk
  clear hi hz0 hz1 hz2
  have hown : Own (w.alloc (.cells (madeCells (Value.agg #[.int .i64 0, .int .i64 0, .int .i64 0, .int .i64 0, .bool false]).cells (ks.length * 5)) 42)) w.heap.size 5 kc (part ks zk 0) := by
    rw [part_zero]
    exact Own.made w _ zk ks.length 42 rfl rfl
  have hbel : Below w.heap.size w (w.alloc (.cells (madeCells (Value.agg #[.int .i64 0, .int .i64 0, .int .i64 0, .int .i64 0, .bool false]).cells (ks.length * 5)) 42)) := (Below.refl _ _).alloc (Nat.le_refl _) _
  generalize w.alloc (.cells (madeCells (Value.agg #[.int .i64 0, .int .i64 0, .int .i64 0, .int .i64 0, .bool false]).cells (ks.length * 5)) 42) = w1 at hmk hown hbel
  go_enter Tryf.func10, Tryf.ntmps10
  go_wp2
  clear hmk
  go_loopw [4] (fun i wr => ∃ k : Nat, k ≤ ks.length ∧ i = .int .i64 k ∧ Own wr w.heap.size 5 kc (part ks zk k) ∧ Below w.heap.size w wr) (fun i _ => ks.length - (intOf i).toNat)
  case atStart => exact ⟨0, Nat.zero_le _, rfl, hown, hbel⟩
  case round =>
    clear hown hbel
    obtain ⟨k, hk, rfl, hown, hbel⟩ := hrel
    by_cases hlt : k < ks.length
    · rcases hr with rfl | ⟨b, off, rfl, hb, hl⟩
      · simp at hlt
      obtain ⟨c0, c1, c2, c3, c4⟩ := key_cells (hl.below hbel hb) k hlt
      have hsz := hown.lt
      have hpl : k < (part ks zk k).length := by rw [part_len _ _ _ hk]; exact hlt
      obtain ⟨v0, g0⟩ := hown.ex kc_len k hpl 0 (by decide)
      obtain ⟨v1, g1⟩ := hown.ex kc_len k hpl 1 (by decide)
      obtain ⟨v2, g2⟩ := hown.ex kc_len k hpl 2 (by decide)
      obtain ⟨v3, g3⟩ := hown.ex kc_len k hpl 3 (by decide)
      obtain ⟨v4, g4⟩ := hown.ex kc_len k hpl 4 (by decide)
      rw [Nat.add_zero] at g0
      have hfr := hown.free
      clear hl
      go_wp2_with (go_at_call 16; refine (toZZKey_any _ _).mono ?_; rintro e w' ⟨rfl, o1, o2, rfl⟩)
      go_roundw
      case rel =>
        refine ⟨k + 1, by omega, by go_num, ?_, ?_⟩
        · rw [← part_set ks zk k hlt]
          have H := ((Own.sets kc_len hown k hpl ks[k]).alloc (.cells o1 44)).alloc (.cells o2 42)
          simp only [kc, World.setCells, Nat.add_assoc, Nat.reduceAdd] at H
          exact H
        · have H := ((below_sets (Nat.le_refl _) (kc ks[k]) (k * 5) _ _ hbel).alloc (by rw [size_setCells]; omega) (.cells o1 44)).alloc (by simp [size_setCells]; omega) (.cells o2 42)
          simp only [kc, World.setCells, Nat.add_assoc, Nat.reduceAdd] at H
          exact H
      case measure => simp [intOf]; omega
    · obtain rfl : k = ks.length := by omega
      rw [part_all] at hown
      go_wp2
      go_ret
      exact ⟨w.heap.size, rfl, Nat.le_refl _, hown, hbel⟩

set_option maxHeartbeats 800000 in
theorem toZZTokens_any (a : Option Addr) (cap : Nat) (ts : List Tok) (w : World) (hm : ts.length ≤ 11915) (hr : RowAt w a 7 tc ts) :
    Calls Tryf.prog 11 #[.slice a ts.length cap] w (Made 7 tc ts w) := by
  obtain ⟨i0, hi, hz0, hz1, hz2⟩ := info_parts Tryf.info51
  have hmk := run_make (P := Tryf.prog) w 34 51 i0 _ Tryf.underlying34 hi hz0 .i64 .i64 ts.length ts.length (by omega) (by omega) (by rw [hz2]; omega) (by omega)
  simp only [Int.toNat_natCast, hz1] at hmk
  clear hi hz0 hz1 hz2
  have hown : Own (w.alloc (.cells (madeCells (Value.agg #[.string ByteArray.empty, .string ByteArray.empty, .string ByteArray.empty, .string ByteArray.empty, .int .i64 0, .int .i64 0, .int .i64 0]).cells (ts.length * 7)) 51)) w.heap.size 7 tc (part ts zt 0) := by
    rw [part_zero]
    exact Own.made w _ zt ts.length 51 rfl rfl
  have hbel : Below w.heap.size w (w.alloc (.cells (madeCells (Value.agg #[.string ByteArray.empty, .string ByteArray.empty, .string ByteArray.empty, .string ByteArray.empty, .int .i64 0, .int .i64 0, .int .i64 0]).cells (ts.length * 7)) 51)) := (Below.refl _ _).alloc (Nat.le_refl _) _
  generalize w.alloc (.cells (madeCells (Value.agg #[.string ByteArray.empty, .string ByteArray.empty, .string ByteArray.empty, .string ByteArray.empty, .int .i64 0, .int .i64 0, .int .i64 0]).cells (ts.length * 7)) 51) = w1 at hmk hown hbel
  go_enter Tryf.func11, Tryf.ntmps11
  go_wp2
  clear hmk
  go_loopw [4] (fun i wr => ∃ k : Nat, k ≤ ts.length ∧ i = .int .i64 k ∧ Own wr w.heap.size 7 tc (part ts zt k) ∧ Below w.heap.size w wr) (fun i _ => ts.length - (intOf i).toNat)
  case atStart => exact ⟨0, Nat.zero_le _, rfl, hown, hbel⟩
  case round =>
    clear hown hbel
    obtain ⟨k, hk, rfl, hown, hbel⟩ := hrel
    by_cases hlt : k < ts.length
    · rcases hr with rfl | ⟨b, off, rfl, hb, hl⟩
      · simp at hlt
      obtain ⟨c0, c1, c2, c3, c4, c5, c6⟩ := tok_cells (hl.below hbel hb) k hlt
      have hsz := hown.lt
      have hpl : k < (part ts zt k).length := by rw [part_len _ _ _ hk]; exact hlt
      obtain ⟨v0, g0⟩ := hown.ex tc_len k hpl 0 (by decide)
      obtain ⟨v1, g1⟩ := hown.ex tc_len k hpl 1 (by decide)
      obtain ⟨v2, g2⟩ := hown.ex tc_len k hpl 2 (by decide)
      obtain ⟨v3, g3⟩ := hown.ex tc_len k hpl 3 (by decide)
      obtain ⟨v4, g4⟩ := hown.ex tc_len k hpl 4 (by decide)
      obtain ⟨v5, g5⟩ := hown.ex tc_len k hpl 5 (by decide)
      obtain ⟨v6, g6⟩ := hown.ex tc_len k hpl 6 (by decide)
      rw [Nat.add_zero] at g0
      have hfr := hown.free
      clear hl
      go_wp2_with (go_at_call 22; refine (toZZToken_any _ _).mono ?_; rintro e w' ⟨rfl, o1, o2, rfl⟩)
      go_roundw
      case rel =>
        refine ⟨k + 1, by omega, by go_num, ?_, ?_⟩
        · rw [← part_set ts zt k hlt]
          have H := ((Own.sets tc_len hown k hpl ts[k]).alloc (.cells o1 53)).alloc (.cells o2 51)
          simp only [tc, World.setCells, Nat.add_assoc, Nat.reduceAdd] at H
          exact H
        · have H := ((below_sets (Nat.le_refl _) (tc ts[k]) (k * 7) _ _ hbel).alloc (by rw [size_setCells]; omega) (.cells o1 53)).alloc (by simp [size_setCells]; omega) (.cells o2 51)
          simp only [tc, World.setCells, Nat.add_assoc, Nat.reduceAdd] at H
          exact H
      case measure => simp [intOf]; omega
    · obtain rfl : k = ts.length := by omega
      rw [part_all] at hown
      go_wp2
      go_ret
      exact ⟨w.heap.size, rfl, Nat.le_refl _, hown, hbel⟩

end Go.Proofs.Qxb6609413aFmt
