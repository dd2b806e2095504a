/-
  ZZScannerKeys, ZZScannerQueue: what the scanner holds, copied into new rows.
-/
import Derived.Test.Qxb6609413aFmtScan
import Derived.Test.Qxb6609413aFmtShape
namespace Go.Proofs.Qxb6609413aFmt
open Go.RowKit

theorem ownsRow_below {w w' : World} {base B : Nat} {e : TypeId} {size : Nat} {v : Value} {n : Nat} {xs : List Value} (h : w.ownsRow base e size v n xs) (hb : Below B w w') (hv : ∀ k, v.ownBlock = some k → k < B) : w'.ownsRow base e size v n xs := by
  obtain ⟨h1, h2⟩ := h
  refine ⟨h1, ?_⟩
  rcases h2 with h2 | ⟨g, cap, cur, rfl, hg, hh, r⟩
  · exact .inl h2
  · exact .inr ⟨g, cap, cur, rfl, hg, (hb.block g (hv g rfl)).trans hh, r⟩

section
variable {w w' : World} {B S : Nat} {p l c m : Int} {en an : Bool} {kcap : Nat} {ks : List Key} {q : Value} {ts : List Tok}

theorem Scan.below (h : Scan w B S p l c m en an kcap ks q ts) (hb : Below w.heap.size w w') : Scan w' B S p l c m en an kcap ks q ts :=
  ⟨h.hS, h.kle, h.blk.below hb h.blk.lt, h.keys.below hb h.keys.lt, ownsRow_below h.queue hb fun k e => (h.queue.lt k e).2⟩
theorem Scan.mono {B' : Nat} (h : Scan w B S p l c m en an kcap ks q ts) (hB : B' ≤ B) : Scan w B' S p l c m en an kcap ks q ts :=
  ⟨Nat.le_trans hB h.hS, h.kle, h.blk, h.keys, h.queue⟩

theorem make_out_keys (n : Nat) (hn : n ≤ 26214) : ∃ M : Array Value, (∀ W : World, (Instr.makeSlice 32 (.int .i64 (n : Int)) (.int .i64 (n : Int))).run Tryf.prog W = .ok (.slice (some ⟨W.heap.size, 0, none⟩) n n) (W.alloc (.cells M 42))) ∧
    ∀ W : World, Own (W.alloc (.cells M 42)) W.heap.size 5 kc (List.replicate n zk) := by
  obtain ⟨i0, hi, hz0, hz1, hz2⟩ := info_parts Tryf.info42
  refine ⟨_, fun W => ?_, fun W => Own.made W (Value.agg #[.int .i64 0, .int .i64 0, .int .i64 0, .int .i64 0, .bool false]).cells zk n 42 rfl rfl⟩
  have hmk := run_make (P := Tryf.prog) W 32 42 i0 _ Tryf.underlying32 hi hz0 .i64 .i64 n n (by omega) (by omega) (by rw [hz2]; omega) (by omega)
  simp only [Int.toNat_natCast, hz1] at hmk
  exact hmk
theorem make_out_queue (n : Nat) (hn : n ≤ 1000000) : ∃ M : Array Value, (∀ W : World, (Instr.makeSlice 34 (.int .i64 (n : Int)) (.int .i64 (n : Int))).run Tryf.prog W = .ok (.slice (some ⟨W.heap.size, 0, none⟩) n n) (W.alloc (.cells M 51))) ∧
    ∀ W : World, Own (W.alloc (.cells M 51)) W.heap.size 7 tc (List.replicate n zt) := by
  obtain ⟨i0, hi, hz0, hz1, hz2⟩ := info_parts Tryf.info51
  refine ⟨_, fun W => ?_, fun W => Own.made W (Value.agg #[.string ByteArray.empty, .string ByteArray.empty, .string ByteArray.empty, .string ByteArray.empty, .int .i64 0, .int .i64 0, .int .i64 0]).cells zt n 51 rfl rfl⟩
  have hmk := run_make (P := Tryf.prog) W 34 51 i0 _ Tryf.underlying34 hi hz0 .i64 .i64 n n (by omega) (by omega) (by rw [hz2]; omega) (by omega)
  simp only [Int.toNat_natCast, hz1] at hmk
  exact hmk

set_option maxHeartbeats 800000 in
theorem outKeys_any (h : Scan w B S p l c m en an kcap ks q ts) (hk : ks.length ≤ 26214) :
    Calls Tryf.prog 15 #[.pointer (some ⟨S, 0, none⟩)] w (Made 5 kc ks w) := by
  obtain ⟨M1, hm1, ho1⟩ := make_out_keys ks.length hk
  have HO1 : Hid (∀ W : World, Own (W.alloc (.cells M1 42)) W.heap.size 5 kc (List.replicate ks.length zk)) := ho1
  have c8 := h.blk.cell (j := 8) rfl
  have hS := h.blk.lt
  have HS : Hid (Scan w B S p l c m en an kcap ks q ts) := h
  clear ho1 h
  go_enter Tryf.func15, Tryf.ntmps15
  go_wp2
  clear hm1
  go_loopw [17] (fun i wr => ∃ k : Nat, k ≤ ks.length ∧ i = .int .i64 k ∧ Own wr w.heap.size 5 kc (part ks zk k) ∧ Below w.heap.size w wr) (fun i _ => ks.length - (intOf i).toNat)
  case atStart =>
    refine ⟨0, Nat.zero_le _, rfl, ?_, (Below.refl _ _).alloc (Nat.le_refl _) _⟩
    rw [part_zero]
    exact HO1.out w
  case round =>
    obtain ⟨k, hkl, rfl, hown, hbel⟩ := hrel
    clear c8
    have hs := HS.out.below hbel
    by_cases hlt : k < ks.length
    · have c8 := hs.blk.cell (j := 8) rfl
      have hl : Lies wr (S + 1) 0 5 kc ks := hs.keys.lies
      have k0 : wr.cell? ⟨S + 1, k * 5, none⟩ = some (.int .i64 ks[k].tok) := hs.keys.at_ k hlt 0 (by decide)
      have k1 : wr.cell? ⟨S + 1, k * 5 + 1, none⟩ = some (.int .i64 ks[k].pos) := hs.keys.at_ k hlt 1 (by decide)
      have k2 : wr.cell? ⟨S + 1, k * 5 + 2, none⟩ = some (.int .i64 ks[k].line) := hs.keys.at_ k hlt 2 (by decide)
      have k3 : wr.cell? ⟨S + 1, k * 5 + 3, none⟩ = some (.int .i64 ks[k].col) := hs.keys.at_ k hlt 3 (by decide)
      have k4 : wr.cell? ⟨S + 1, k * 5 + 4, none⟩ = some (.bool ks[k].must) := hs.keys.at_ k hlt 4 (by decide)
      have hS1 : S + 1 < w.heap.size := HS.out.keys.lt
      have hsz := hown.lt
      have hpl : k < (part ks zk k).length := by rw [part_len _ _ _ hkl]; exact hlt
      obtain ⟨v0, g0⟩ : ∃ v, wr.cell? ⟨w.heap.size, k * 5, none⟩ = some v := hown.ex kc_len k hpl 0 (by decide)
      obtain ⟨v1, g1⟩ := hown.ex kc_len k hpl 1 (by decide)
      obtain ⟨v2, g2⟩ := hown.ex kc_len k hpl 2 (by decide)
      obtain ⟨v3, g3⟩ := hown.ex kc_len k hpl 3 (by decide)
      obtain ⟨v4, g4⟩ := hown.ex kc_len k hpl 4 (by decide)
      have hfr := hown.free
      have hltI : (k : Int) < (ks.length : Int) := by omega
      clear hl hs
      go_wp2
      go_roundw
      case rel =>
        refine ⟨k + 1, by omega, by go_num, ?_, ?_⟩
        · rw [← part_set ks zk k hlt]
          have H := (Own.sets kc_len hown k hpl ks[k]).alloc (.cells (kc ks[k]).toArray 64)
          simp only [kc, World.setCells, Nat.add_assoc, Nat.reduceAdd] at H
          exact H
        · have H := (below_sets (Nat.le_refl _) (kc ks[k]) (k * 5) _ _ hbel).alloc (by rw [size_setCells]; omega) (.cells (kc ks[k]).toArray 64)
          simp only [kc, World.setCells, Nat.add_assoc, Nat.reduceAdd] at H
          exact H
      case measure => simp [intOf]; omega
    · obtain rfl : k = ks.length := by omega
      rw [part_all] at hown
      clear hs
      go_wp2
      go_ret
      exact ⟨w.heap.size, rfl, Nat.le_refl _, hown, hbel⟩

theorem row_form {w : World} {base : Nat} {e : TypeId} {size : Nat} {v : Value} {n : Nat} {xs : List Value} (h : w.ownsRow base e size v n xs) : ∃ a cap, v = .slice a n cap ∧ (0 < n → ∃ g, a = some ⟨g, 0, none⟩) := by
  rcases h.2 with ⟨rfl, rfl⟩ | ⟨g, cap, _, rfl, _⟩
  · exact ⟨none, 0, rfl, fun h => absurd h (by omega)⟩
  · exact ⟨some ⟨g, 0, none⟩, cap, rfl, fun _ => ⟨g, rfl⟩⟩

set_option maxHeartbeats 800000 in
theorem outQueue_any (h : Scan w B S p l c m en an kcap ks q ts) (ht : ts.length ≤ 1000000) :
    Calls Tryf.prog 21 #[.pointer (some ⟨S, 0, none⟩)] w (Made 7 tc ts w) := by
  obtain ⟨M1, hm1, ho1⟩ := make_out_queue ts.length ht
  have HO1 : Hid (∀ W : World, Own (W.alloc (.cells M1 51)) W.heap.size 7 tc (List.replicate ts.length zt)) := ho1
  obtain ⟨a, cap, rfl, hg⟩ := row_form h.queue
  have c4 := h.blk.cell (j := 4) rfl
  have hS := h.blk.lt
  have HS : Hid (Scan w B S p l c m en an kcap ks (.slice a ts.length cap) ts) := h
  clear ho1 h
  go_enter Tryf.func21, Tryf.ntmps21
  go_wp2
  clear hm1
  go_loopw [17] (fun i wr => ∃ k : Nat, k ≤ ts.length ∧ i = .int .i64 k ∧ Own wr w.heap.size 7 tc (part ts zt k) ∧ Below w.heap.size w wr) (fun i _ => ts.length - (intOf i).toNat)
  case atStart =>
    refine ⟨0, Nat.zero_le _, rfl, ?_, (Below.refl _ _).alloc (Nat.le_refl _) _⟩
    rw [part_zero]
    exact HO1.out w
  case round =>
    obtain ⟨k, hkl, rfl, hown, hbel⟩ := hrel
    clear c4
    have hs := HS.out.below hbel
    by_cases hlt : k < ts.length
    · obtain ⟨g, rfl⟩ := hg (by omega)
      have c4 := hs.blk.cell (j := 4) rfl
      have hq : Own wr g 7 qc ts := row_to_own qc_len hs.queue rfl
      have k0 : wr.cell? ⟨g, k * 7, none⟩ = some (.string ts[k].kind) := hq.at_ k hlt 0 (by decide)
      have k1 : wr.cell? ⟨g, k * 7 + 1, none⟩ = some (.int .i64 ts[k].pos) := hq.at_ k hlt 1 (by decide)
      have k2 : wr.cell? ⟨g, k * 7 + 2, none⟩ = some (.int .i64 ts[k].line) := hq.at_ k hlt 2 (by decide)
      have k3 : wr.cell? ⟨g, k * 7 + 3, none⟩ = some (.int .i64 ts[k].col) := hq.at_ k hlt 3 (by decide)
      have k4 : wr.cell? ⟨g, k * 7 + 4, none⟩ = some (.string ts[k].value) := hq.at_ k hlt 4 (by decide)
      have k5 : wr.cell? ⟨g, k * 7 + 5, none⟩ = some (.string ts[k].handle) := hq.at_ k hlt 5 (by decide)
      have k6 : wr.cell? ⟨g, k * 7 + 6, none⟩ = some (.string ts[k].style) := hq.at_ k hlt 6 (by decide)
      have hgS : g < w.heap.size := (HS.out.queue.lt g rfl).2
      have hsz := hown.lt
      have hpl : k < (part ts zt k).length := by rw [part_len _ _ _ hkl]; exact hlt
      obtain ⟨v0, g0⟩ : ∃ v, wr.cell? ⟨w.heap.size, k * 7, none⟩ = some v := hown.ex tc_len k hpl 0 (by decide)
      obtain ⟨v1, g1⟩ := hown.ex tc_len k hpl 1 (by decide)
      obtain ⟨v2, g2⟩ := hown.ex tc_len k hpl 2 (by decide)
      obtain ⟨v3, g3⟩ := hown.ex tc_len k hpl 3 (by decide)
      obtain ⟨v4, g4⟩ := hown.ex tc_len k hpl 4 (by decide)
      obtain ⟨v5, g5⟩ := hown.ex tc_len k hpl 5 (by decide)
      obtain ⟨v6, g6⟩ := hown.ex tc_len k hpl 6 (by decide)
      have hfr := hown.free
      have hltI : (k : Int) < (ts.length : Int) := by omega
      clear hq hs hg
      go_wp2
      go_roundw
      case rel =>
        refine ⟨k + 1, by omega, by go_num, ?_, ?_⟩
        · rw [← part_set ts zt k hlt]
          have H := (Own.sets tc_len hown k hpl ts[k]).alloc (.cells (qc ts[k]).toArray 68)
          simp only [tc, qc, World.setCells, Nat.add_assoc, Nat.reduceAdd] at H
          exact H
        · have H := (below_sets (Nat.le_refl _) (tc ts[k]) (k * 7) _ _ hbel).alloc (by rw [size_setCells]; omega) (.cells (qc ts[k]).toArray 68)
          simp only [tc, qc, World.setCells, Nat.add_assoc, Nat.reduceAdd] at H
          exact H
      case measure => simp [intOf]; omega
    · obtain rfl : k = ts.length := by omega
      rw [part_all] at hown
      clear hs
      go_wp2
      go_ret
      exact ⟨w.heap.size, rfl, Nat.le_refl _, hown, hbel⟩

end
end Go.Proofs.Qxb6609413aFmt
