/-
  ZZNewScanner: the scanner laid in new memory.
-/
import Derived.Test.Qxb6609413aFmtScan
import Derived.Test.Qxb6609413aFmtShape
import Derived.Deep.RegionHeld3
namespace Go.Proofs.Qxb6609413aFmt
open Go.RowKit

theorem Tryf.info64 : (Tryf.prog.info? 64).map (fun i => (i.zero, i.size, i.bytes)) = some (some (.agg #[.int .i64 0, .int .i64 0, .int .i64 0, .int .i64 0, .bool false]), 5, 40) := by kernel_rfl
theorem Tryf.info68' : (Tryf.prog.info? 68).map (fun i => (i.zero, i.size, i.bytes)) = some (some (.agg #[.string ByteArray.empty, .int .i64 0, .int .i64 0, .int .i64 0, .string ByteArray.empty, .string ByteArray.empty, .string ByteArray.empty]), 7, 88) := by kernel_rfl

def NewPost (p l c m : Int) (en an : Bool) (ks : List Key) (ts : List Tok) (w : World) (e : Ending) (w' : World) : Prop :=
  ∃ S q, e = .returned (.pointer (some ⟨S, 0, none⟩)) ∧ Scan w' w.heap.size S p l c m en an ks.length ks q ts ∧ Below w.heap.size w w'

/-- make, in whatever world. -/
theorem make_keys (n : Nat) (hn : n ≤ 26214) : ∃ M : Array Value, (∀ W : World, (Instr.makeSlice 58 (.int .i64 (n : Int)) (.int .i64 (n : Int))).run Tryf.prog W = .ok (.slice (some ⟨W.heap.size, 0, none⟩) n n) (W.alloc (.cells M 64))) ∧
    ∀ W : World, Own (W.alloc (.cells M 64)) W.heap.size 5 kc (List.replicate n zk) := by
  obtain ⟨i0, hi, hz0, hz1, hz2⟩ := info_parts Tryf.info64
  refine ⟨_, fun W => ?_, fun W => Own.made W (Value.agg #[.int .i64 0, .int .i64 0, .int .i64 0, .int .i64 0, .bool false]).cells zk n 64 rfl rfl⟩
  have hmk := run_make (P := Tryf.prog) W 58 64 i0 _ Tryf.underlying58 hi hz0 .i64 .i64 n n (by omega) (by omega) (by rw [hz2]; omega) (by omega)
  simp only [Int.toNat_natCast, hz1] at hmk
  exact hmk
theorem make_queue (n : Nat) (hn : n ≤ 11915) : ∃ M : Array Value, (∀ W : World, (Instr.makeSlice 56 (.int .i64 (n : Int)) (.int .i64 (n : Int))).run Tryf.prog W = .ok (.slice (some ⟨W.heap.size, 0, none⟩) n n) (W.alloc (.cells M 68))) ∧
    (∀ W : World, Own (W.alloc (.cells M 68)) W.heap.size 7 qc (List.replicate n zt)) ∧ M.size = n * 7 := by
  obtain ⟨i0, hi, hz0, hz1, hz2⟩ := info_parts Tryf.info68'
  refine ⟨_, fun W => ?_, fun W => Own.made W (Value.agg #[.string ByteArray.empty, .int .i64 0, .int .i64 0, .int .i64 0, .string ByteArray.empty, .string ByteArray.empty, .string ByteArray.empty]).cells zt n 68 rfl rfl, size_madeCells _ _⟩
  have hmk := run_make (P := Tryf.prog) W 56 68 i0 _ Tryf.underlying56 hi hz0 .i64 .i64 n n (by omega) (by omega) (by rw [hz2]; omega) (by omega)
  simp only [Int.toNat_natCast, hz1] at hmk
  exact hmk

set_option maxHeartbeats 1600000 in
set_option maxRecDepth 100000 in
theorem newScanner_any (p l c m : Int) (en an : Bool) (a a' : Option Addr) (cap cap' : Nat) (ks : List Key) (ts : List Tok) (w : World) (hk : ks.length ≤ 26214) (ht : ts.length ≤ 11915) (hr : RowAt w a 5 kc ks) (hr' : RowAt w a' 7 tc ts) :
    Calls Tryf.prog 9 #[.int .i64 p, .int .i64 l, .int .i64 c, .slice a ks.length cap, .int .i64 m, .bool en, .bool an, .slice a' ts.length cap'] w (NewPost p l c m en an ks ts w) := by
  obtain ⟨M1, hm1, ho1⟩ := make_keys ks.length hk
  obtain ⟨M2, hm2, ho2, hz2⟩ := make_queue ts.length ht
  have HO1 : Hid (∀ W : World, Own (W.alloc (.cells M1 64)) W.heap.size 5 kc (List.replicate ks.length zk)) := ho1
  have HO2 : Hid (∀ W : World, Own (W.alloc (.cells M2 68)) W.heap.size 7 qc (List.replicate ts.length zt)) := ho2
  have HZ2 : Hid (M2.size = ts.length * 7) := hz2
  clear ho1 ho2 hz2
  go_enter Tryf.func9, Tryf.ntmps9
  go_wp2
  go_loopw [37] (fun i wr => ∃ k : Nat, k ≤ ks.length ∧ i = .int .i64 k ∧ Blk wr w.heap.size (scells p l c (.slice none 0 0) (.slice (some ⟨w.heap.size + 1, 0, none⟩) ks.length ks.length) m en an) ∧
      Own wr (w.heap.size + 1) 5 kc (part ks zk k) ∧ Below w.heap.size w wr) (fun i _ => ks.length - (intOf i).toNat)
  case atStart =>
    refine ⟨0, Nat.zero_le _, rfl, (Blk.new w _ 62).alloc _, ?_, ((Below.refl _ _).alloc (Nat.le_refl _) _).alloc (by simp) _⟩
    rw [part_zero]
    have := HO1.out (w.alloc (.cells #[Value.string { data := #[] }, Value.int IntKind.i64 p, Value.int IntKind.i64 l, Value.int IntKind.i64 c,
          Value.slice none 0 0, Value.int IntKind.i64 0, Value.bool false, Value.slice none 0 0,
          Value.slice (some { block := w.heap.size + 1, off := 0 }) ks.length ks.length, Value.int IntKind.i64 m,
          Value.int IntKind.i64 0, Value.bool en, Value.bool an, Value.bool false, Value.bool false, Value.pointer none,
          Value.slice none 0 0] 62))
    rw [World.size_alloc] at this
    exact this
  case round =>
    obtain ⟨k, hkl, rfl, hblk, hown, hbel⟩ := hrel
    by_cases hlt : k < ks.length
    · rcases hr with rfl | ⟨b, off, rfl, hb, hl⟩
      · simp at hlt
      obtain ⟨c0, c1, c2, c3, c4⟩ := key_cells (hl.below hbel hb) k hlt
      have hsz := hown.lt
      have hpl : k < (part ks zk k).length := by rw [part_len _ _ _ hkl]; exact hlt
      obtain ⟨v0, g0⟩ : ∃ v, wr.cell? ⟨w.heap.size + 1, k * 5, none⟩ = some v := hown.ex kc_len k hpl 0 (by decide)
      obtain ⟨v1, g1⟩ := hown.ex kc_len k hpl 1 (by decide)
      obtain ⟨v2, g2⟩ := hown.ex kc_len k hpl 2 (by decide)
      obtain ⟨v3, g3⟩ := hown.ex kc_len k hpl 3 (by decide)
      obtain ⟨v4, g4⟩ := hown.ex kc_len k hpl 4 (by decide)
      have hfr := hown.free
      have c8 := hblk.cell (j := 8) rfl
      have hb1 : b ≠ w.heap.size + 1 := by omega
      clear hl hm1 hm2 hr'
      have hltI : (k : Int) < (ks.length : Int) := by omega
      go_wp2
      go_region_held3 (fun w' => w'.cell? ⟨w.heap.size, 8, none⟩ = some (.slice (some ⟨w.heap.size + 1, 0, none⟩) ks.length ks.length) ∧ w'.cell? ⟨b, off + k * 5, none⟩ = some (.int .i64 ks[k].tok) ∧ w'.cell? ⟨b, off + k * 5 + 1, none⟩ = some (.int .i64 ks[k].pos) ∧ w'.cell? ⟨b, off + k * 5 + 2, none⟩ = some (.int .i64 ks[k].line) ∧ w'.cell? ⟨b, off + k * 5 + 3, none⟩ = some (.int .i64 ks[k].col) ∧ w'.cell? ⟨b, off + k * 5 + 4, none⟩ = some (.bool ks[k].must)) (simp [go_sem, *]) (fail)
      go_wp2
      go_roundw
      case rel =>
        refine ⟨k + 1, by omega, by go_num, ?_, ?_, ?_⟩
        · have H := (hblk.setsOther (b' := w.heap.size + 1) (by simp) (k * 5) (kc ks[k])).drew
          simp only [kc, World.setCells, Nat.add_assoc, Nat.reduceAdd] at H
          exact H
        · rw [← part_set ks zk k hlt]
          have H := (Own.sets kc_len hown k hpl ks[k]).drew
          simp only [kc, World.setCells, Nat.add_assoc, Nat.reduceAdd] at H
          exact H
        · have H := (below_sets (b := w.heap.size + 1) (Nat.le_succ _) (kc ks[k]) (k * 5) _ _ hbel).drew
          simp only [kc, World.setCells, Nat.add_assoc, Nat.reduceAdd] at H
          exact H
      case measure => simp [intOf]; omega
    · obtain rfl : k = ks.length := by omega
      rw [part_all] at hown
      have c4 := hblk.cell (j := 4) rfl
      have f4 := hblk.free 4
      have hS := hblk.lt
      obtain ⟨G, hG⟩ : ∃ G, wr.heap.size = G := ⟨_, rfl⟩
      have hSG : w.heap.size + 1 < G := hG ▸ hown.lt
      have hSG' : w.heap.size < G := by omega
      clear hS
      go_wp2
      go_loopw [82] (fun i w2 => ∃ k : Nat, k ≤ ts.length ∧ i = .int .i64 k ∧ Blk w2 w.heap.size (scells p l c (.slice (some ⟨G, 0, none⟩) ts.length ts.length) (.slice (some ⟨w.heap.size + 1, 0, none⟩) ks.length ks.length) m en an) ∧
          Own w2 (w.heap.size + 1) 5 kc ks ∧ Own w2 G 7 qc (part ts zt k) ∧ Shape w2 G 68 (ts.length * 7) ∧ Below w.heap.size w w2) (fun i _ => ts.length - (intOf i).toNat)
      case atStart =>
        refine ⟨0, Nat.zero_le _, rfl, (hblk.set 4 _).alloc _, (hown.setOther (a := ⟨w.heap.size, 4, none⟩) (by simp) _).alloc _, ?_, ?_, (hbel.setCell (p := ⟨w.heap.size, 4, none⟩) (Nat.le_refl _) _).alloc (by simp [World.setCell]; omega) _⟩
        · rw [part_zero]
          have := HO2.out (wr.setCell ⟨w.heap.size, 4, none⟩ (.slice (some ⟨G, 0, none⟩) ts.length ts.length))
          simpa [World.setCell, hG] using this
        · have := Shape.new (wr.setCell ⟨w.heap.size, 4, none⟩ (.slice (some ⟨G, 0, none⟩) ts.length ts.length)) M2 68
          rw [HZ2.out] at this
          simpa [World.setCell, hG] using this
      case round =>
        clear hblk hown hbel c4 f4 hG
        obtain ⟨j, hjl, rfl, hblk, hown, hq, hsh, hbel⟩ := hrel
        by_cases hlt' : j < ts.length
        · rcases hr' with rfl | ⟨b, off, rfl, hb, hl⟩
          · simp at hlt'
          obtain ⟨c0, c1, c2, c3, c4, c5, c6⟩ := tok_cells (hl.below hbel hb) j hlt'
          have hsz := hown.lt
          have hpl : j < (part ts zt j).length := by rw [part_len _ _ _ hjl]; exact hlt'
          obtain ⟨v0, g0⟩ : ∃ v, wr.cell? ⟨G, j * 7, none⟩ = some v := hq.ex qc_len j hpl 0 (by decide)
          obtain ⟨v1, g1⟩ := hq.ex qc_len j hpl 1 (by decide)
          obtain ⟨v2, g2⟩ := hq.ex qc_len j hpl 2 (by decide)
          obtain ⟨v3, g3⟩ := hq.ex qc_len j hpl 3 (by decide)
          obtain ⟨v4, g4⟩ := hq.ex qc_len j hpl 4 (by decide)
          obtain ⟨v5, g5⟩ := hq.ex qc_len j hpl 5 (by decide)
          obtain ⟨v6, g6⟩ := hq.ex qc_len j hpl 6 (by decide)
          have hfr := hq.free
          have c8 := hblk.cell (j := 4) rfl
          have hb1 : b ≠ G := by omega
          clear hl hm1 hm2 hr
          have hltI : (j : Int) < (ts.length : Int) := by omega
          go_wp2
          go_region_held3 (fun w' => w'.cell? ⟨w.heap.size, 4, none⟩ = some (.slice (some ⟨G, 0, none⟩) ts.length ts.length) ∧ w'.cell? ⟨b, off + j * 7, none⟩ = some (.string ts[j].kind) ∧ w'.cell? ⟨b, off + j * 7 + 1, none⟩ = some (.string ts[j].value) ∧ w'.cell? ⟨b, off + j * 7 + 2, none⟩ = some (.string ts[j].handle) ∧ w'.cell? ⟨b, off + j * 7 + 3, none⟩ = some (.string ts[j].style) ∧ w'.cell? ⟨b, off + j * 7 + 4, none⟩ = some (.int .i64 ts[j].pos) ∧ w'.cell? ⟨b, off + j * 7 + 5, none⟩ = some (.int .i64 ts[j].line) ∧ w'.cell? ⟨b, off + j * 7 + 6, none⟩ = some (.int .i64 ts[j].col)) (simp [go_sem, *]) (fail)
          go_wp2
          go_roundw
          case rel =>
            refine ⟨j + 1, by omega, by go_num, ?_, ?_, ?_, ?_, ?_⟩
            · have H := (hblk.setsOther (b' := G) (by omega) (j * 7) (qc ts[j])).drew
              simp only [qc, World.setCells, Nat.add_assoc, Nat.reduceAdd] at H
              exact H
            · have H := (hown.setsOther (b' := G) (by omega) (j * 7) (qc ts[j])).drew
              simp only [qc, World.setCells, Nat.add_assoc, Nat.reduceAdd] at H
              exact H
            · rw [← part_set ts zt j hlt']
              have H := (Own.sets qc_len hq j hpl ts[j]).drew
              simp only [qc, World.setCells, Nat.add_assoc, Nat.reduceAdd] at H
              exact H
            · have H := (Shape.sets (qc ts[j]) (j * 7) hsh).drew
              simp only [qc, World.setCells, Nat.add_assoc, Nat.reduceAdd] at H
              exact H
            · have H := (below_sets (b := G) (by omega) (qc ts[j]) (j * 7) _ _ hbel).drew
              simp only [qc, World.setCells, Nat.add_assoc, Nat.reduceAdd] at H
              exact H
          case measure => simp [intOf]; omega
        · obtain rfl : j = ts.length := by omega
          rw [part_all] at hq
          go_wp2
          go_ret
          refine ⟨w.heap.size, _, rfl, ⟨Nat.le_refl _, Nat.le_refl _, hblk, hown, own_to_row qc_len (by decide) hq hsh (Nat.le_refl _) (by unfold maxLen; omega) (by omega)⟩, hbel⟩

end Go.Proofs.Qxb6609413aFmt
