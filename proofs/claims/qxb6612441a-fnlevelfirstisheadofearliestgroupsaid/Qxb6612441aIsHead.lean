/-
  FnLevelFirstIsHeadOfEarliestGroup: THE WALK.
-/
import Derived.Test.Qxb6612441aPlain
namespace Go.Proofs.Qxb6612441a
open Go.RowKit

def HeadPost (w : World) (e : Ending) (w' : World) : Prop := e = .returned (.bool true) ∧ Below w.heap.size w w'

/-- The mask of the first k groups. -/
def msk (ne : Nat → Bool) : Nat → Nat
  | 0 => 0
  | k + 1 => msk ne k + if ne k = true then 2 ^ k else 0
/-- The lowest group that holds an order. -/
def low (ne : Nat → Bool) : Int := if ne 0 = true then 0 else if ne 1 = true then 1 else if ne 2 = true then 2 else if ne 3 = true then 3 else -1

theorem lowest_any (ne : Nat → Bool) (w : World) : Calls Try.prog 11 #[.int .i64 (msk ne 4)] w fun e w' => e = .returned (.int .i64 (low ne)) ∧ w' = w := by
  have hm : (msk ne 4 : Int) = (((0 + if ne 0 = true then 1 else 0) + if ne 1 = true then 2 else 0) + if ne 2 = true then 4 else 0) + if ne 3 = true then 8 else 0 := by
    unfold msk msk msk msk msk
    cases ne 0 <;> cases ne 1 <;> cases ne 2 <;> cases ne 3 <;> rfl
  rw [hm]
  unfold low
  clear hm
  cases ne 0 <;> cases ne 1 <;> cases ne 2 <;> cases ne 3
  all_goals
    simp only [Bool.false_eq_true, if_true, if_false, Int.add_zero, Int.zero_add, Int.reduceAdd]
    go_enter Try.func11, Try.ntmps11
    go_wp2
    go_ret
    exact ⟨rfl, rfl⟩

theorem msk_lt (ne : Nat → Bool) : ∀ k, msk ne k < 2 ^ k
  | 0 => by simp [msk]
  | k + 1 => by
    have := msk_lt ne k
    unfold msk
    rw [Nat.pow_succ]
    split <;> omega
theorem msk_step (ne : Nat → Bool) (k : Nat) (hk : k < 4) (h : ne k = true) : wrap64 ((msk ne k : Int) + wrap64 (2 ^ k)) = (msk ne (k + 1) : Int) := by
  have hl := msk_lt ne k
  have hs : msk ne (k + 1) = msk ne k + 2 ^ k := by show msk ne k + _ = _; rw [h]; rfl
  rw [hs]
  match k, hk with
  | 0, _ => unfold wrap64; omega
  | 1, _ => unfold wrap64; omega
  | 2, _ => unfold wrap64; omega
  | 3, _ => unfold wrap64; omega

/-- What the round that lays a head leaves. -/
theorem laid_head {wr w : World} {N k n t : Nat} {ne lo : Nat → Bool} {H T : Nat → Option Addr} (hlt : k < 4) (hn : Blk wr N (bv ne)) (hl : Blk wr (N + 1) (bv lo)) (hh : Blk wr (N + 1 + 1 + 1) (hv H)) (ht : Blk wr (N + 1 + 1 + 1 + 1 + 1) (hv T)) (hC : Cel wr H) (hbel : Below N w wr) :
    Blk ((wr.setCell ⟨N + 1 + 1 + 1, k, none⟩ (.pointer (some ⟨n, 0, none⟩))).setCell ⟨N + 1 + 1 + 1 + 1 + 1, k, none⟩ (.pointer (some ⟨t, 0, none⟩))) N (bv ne) ∧
    Blk ((wr.setCell ⟨N + 1 + 1 + 1, k, none⟩ (.pointer (some ⟨n, 0, none⟩))).setCell ⟨N + 1 + 1 + 1 + 1 + 1, k, none⟩ (.pointer (some ⟨t, 0, none⟩))) (N + 1) (bv lo) ∧
    Blk ((wr.setCell ⟨N + 1 + 1 + 1, k, none⟩ (.pointer (some ⟨n, 0, none⟩))).setCell ⟨N + 1 + 1 + 1 + 1 + 1, k, none⟩ (.pointer (some ⟨t, 0, none⟩))) (N + 1 + 1 + 1) (hv (upd H k (some ⟨n, 0, none⟩))) ∧
    Blk ((wr.setCell ⟨N + 1 + 1 + 1, k, none⟩ (.pointer (some ⟨n, 0, none⟩))).setCell ⟨N + 1 + 1 + 1 + 1 + 1, k, none⟩ (.pointer (some ⟨t, 0, none⟩))) (N + 1 + 1 + 1 + 1 + 1) (hv (upd T k (some ⟨t, 0, none⟩))) ∧
    Cel ((wr.setCell ⟨N + 1 + 1 + 1, k, none⟩ (.pointer (some ⟨n, 0, none⟩))).setCell ⟨N + 1 + 1 + 1 + 1 + 1, k, none⟩ (.pointer (some ⟨t, 0, none⟩))) H ∧
    Below N w ((wr.setCell ⟨N + 1 + 1 + 1, k, none⟩ (.pointer (some ⟨n, 0, none⟩))).setCell ⟨N + 1 + 1 + 1 + 1 + 1, k, none⟩ (.pointer (some ⟨t, 0, none⟩))) ∧
    ((wr.setCell ⟨N + 1 + 1 + 1, k, none⟩ (.pointer (some ⟨n, 0, none⟩))).setCell ⟨N + 1 + 1 + 1 + 1 + 1, k, none⟩ (.pointer (some ⟨t, 0, none⟩))).heap.size = wr.heap.size := by
  refine ⟨(hn.setOther (a := ⟨N + 1 + 1 + 1, k, none⟩) (by simp <;> omega) _).setOther (a := ⟨N + 1 + 1 + 1 + 1 + 1, k, none⟩) (by simp <;> omega) _,
    (hl.setOther (a := ⟨N + 1 + 1 + 1, k, none⟩) (by simp <;> omega) _).setOther (a := ⟨N + 1 + 1 + 1 + 1 + 1, k, none⟩) (by simp <;> omega) _, ?_, ?_,
    (hC.setCell _ _ _).setCell _ _ _, (hbel.setCell (p := ⟨N + 1 + 1 + 1, k, none⟩) (by simp <;> omega) _).setCell (p := ⟨N + 1 + 1 + 1 + 1 + 1, k, none⟩) (by simp <;> omega) _, by simp [World.setCell]⟩
  · rw [← hv_set H k hlt]
    exact (hh.set k _).setOther (a := ⟨N + 1 + 1 + 1 + 1 + 1, k, none⟩) (by simp <;> omega) _
  · rw [← hv_set T k hlt]
    exact (ht.setOther (a := ⟨N + 1 + 1 + 1, k, none⟩) (by simp <;> omega) _).set k _

theorem low_at (ne : Nat → Bool) (k : Nat) (hk : k < 4) (h : ne k = true) (hn : ∀ j, 0 ≤ j → j < k → ne j = false) : low ne = k := by
  match k, hk with
  | 0, _ => simp [low, h]
  | 1, _ => simp [low, h, hn 0 (by omega) (by omega)]
  | 2, _ => simp [low, h, hn 0 (by omega) (by omega), hn 1 (by omega) (by omega)]
  | 3, _ => simp [low, h, hn 0 (by omega) (by omega), hn 1 (by omega) (by omega), hn 2 (by omega) (by omega)]
theorem low_none (ne : Nat → Bool) (hn : ∀ j, 0 ≤ j → j < 4 → ne j = false) : low ne = -1 := by
  simp [low, hn 0 (by omega) (by omega), hn 1 (by omega) (by omega), hn 2 (by omega) (by omega), hn 3 (by omega) (by omega)]
theorem neq_same (w : World) (a : Addr) : (binOp .neq 23 (.pointer (some a)) (.pointer (some a))).run Try.prog w = .ok (.bool false) w := by
  have h := eql_same w a
  simp only [binOp] at h ⊢
  simp [Op.equal, Op.maxDepth] at h ⊢
  revert h
  cases (Op.equalIn 10000 23 (.pointer (some a)) (.pointer (some a))).run Try.prog w with
  | ok v w' => intro h; simp at h ⊢; exact ⟨h.1, h.2⟩
  | halt p w' => intro h; simp at h

set_option maxHeartbeats 1600000 in
set_option maxRecDepth 100000 in
theorem head_walk (ne lo : Nat → Bool) (w : World) : Calls Try.prog 3 #[.agg #[.bool (ne 0), .bool (ne 1), .bool (ne 2), .bool (ne 3)], .agg #[.bool (lo 0), .bool (lo 1), .bool (lo 2), .bool (lo 3)]] w (HeadPost w) := by
  go_enter Try.func3, Try.ntmps3
  go_wp2_with fail
  refine (noHeads_any _).mono ?_
  rintro e w' ⟨rfl, o1, rfl⟩
  go_wp2_with fail
  refine (noHeads_any _).mono ?_
  rintro e w' ⟨rfl, o2, rfl⟩
  go_wp2
  have hall : ∃ w1, w1 = (((((w.alloc (.cells #[.bool (ne 0), .bool (ne 1), .bool (ne 2), .bool (ne 3)] 22)).alloc (.cells #[.bool (lo 0), .bool (lo 1), .bool (lo 2), .bool (lo 3)] 22)).alloc (.cells o1 24)).alloc (.cells #[.pointer none, .pointer none, .pointer none, .pointer none] 24)).alloc (.cells o2 24)).alloc (.cells #[.pointer none, .pointer none, .pointer none, .pointer none] 24) := ⟨_, rfl⟩
  obtain ⟨w1, hw1⟩ := hall
  rw [← hw1]
  obtain ⟨N, hN⟩ : ∃ N, N = w.heap.size := ⟨_, rfl⟩
  have hn0 : Blk w1 N (bv ne) := by
    rw [hN, hw1]
    exact (((((Blk.new w #[.bool (ne 0), .bool (ne 1), .bool (ne 2), .bool (ne 3)] 22).alloc _).alloc _).alloc _).alloc _).alloc _
  have hl0 : Blk w1 (N + 1) (bv lo) := by
    rw [hN, hw1]
    have := Blk.new (w.alloc (.cells #[.bool (ne 0), .bool (ne 1), .bool (ne 2), .bool (ne 3)] 22)) #[.bool (lo 0), .bool (lo 1), .bool (lo 2), .bool (lo 3)] 22
    rw [World.size_alloc] at this
    exact (((this.alloc _).alloc _).alloc _).alloc _
  have hh0 : Blk w1 (N + 1 + 1 + 1) (hv fun _ => none) := by
    rw [hN, hw1]
    have := Blk.new (((w.alloc (.cells #[.bool (ne 0), .bool (ne 1), .bool (ne 2), .bool (ne 3)] 22)).alloc (.cells #[.bool (lo 0), .bool (lo 1), .bool (lo 2), .bool (lo 3)] 22)).alloc (.cells o1 24)) #[.pointer none, .pointer none, .pointer none, .pointer none] 24
    rw [World.size_alloc, World.size_alloc, World.size_alloc] at this
    exact (this.alloc _).alloc _
  have ht0 : Blk w1 (N + 1 + 1 + 1 + 1 + 1) (hv fun _ => none) := by
    rw [hN, hw1]
    have := Blk.new (((((w.alloc (.cells #[.bool (ne 0), .bool (ne 1), .bool (ne 2), .bool (ne 3)] 22)).alloc (.cells #[.bool (lo 0), .bool (lo 1), .bool (lo 2), .bool (lo 3)] 22)).alloc (.cells o1 24)).alloc (.cells #[.pointer none, .pointer none, .pointer none, .pointer none] 24)).alloc (.cells o2 24)) #[.pointer none, .pointer none, .pointer none, .pointer none] 24
    rw [World.size_alloc, World.size_alloc, World.size_alloc, World.size_alloc, World.size_alloc] at this
    exact this
  have hbel0 : Below N w w1 := by
    rw [hN, hw1]
    exact ((((((Below.refl _ _).alloc (Nat.le_refl _) _).alloc (by simp) _).alloc (by simp; omega) _).alloc (by simp; omega) _).alloc (by simp; omega) _).alloc (by simp; omega) _
  rw [← hN]
  have HN : Hid (N = w.heap.size) := hN
  clear hN hw1
  go_loopw [7, 8] (fun m i wr => ∃ k : Nat, ∃ H T : Nat → Option Addr, k ≤ 4 ∧ i = .int .i64 k ∧ m = .int .i64 (msk ne k) ∧ Blk wr N (bv ne) ∧ Blk wr (N + 1) (bv lo) ∧ Blk wr (N + 1 + 1 + 1) (hv H) ∧ Blk wr (N + 1 + 1 + 1 + 1 + 1) (hv T) ∧ Heads ne k H ∧ Cel wr H ∧ Below N w wr) (fun _ i _ => 4 - (intOf i).toNat)
  case atStart => exact ⟨0, _, _, by omega, rfl, rfl, hn0, hl0, hh0, ht0, Heads.start _, fun _ _ _ h => (nomatch h), hbel0⟩
  case round =>
    clear hn0 hl0 hh0 ht0 hbel0
    obtain ⟨k, H, T, hk, rfl, rfl, hn, hl, hh, ht, hH, hC, hbel⟩ := hrel
    by_cases hlt : k < 4
    · have hkI : (k : Int) < 4 := by omega
      have c0 : wr.cell? ⟨N, k, none⟩ = some (.bool (ne k)) := hn.cell (bv_at ne k hlt)
      have c1 : wr.cell? ⟨N + 1, k, none⟩ = some (.bool (lo k)) := hl.cell (bv_at lo k hlt)
      have c2 : wr.cell? ⟨N + 1 + 1 + 1, k, none⟩ = some (.pointer (H k)) := hh.cell (hv_at H k hlt)
      have c3 : wr.cell? ⟨N + 1 + 1 + 1 + 1 + 1, k, none⟩ = some (.pointer (T k)) := ht.cell (hv_at T k hlt)
      have f2 := hh.free k
      have f3 := ht.free k
      have l2 := hh.lt
      have l3 := ht.lt
      have l1 := hl.lt
      cases hne : ne k with
      | false =>
        rw [hne] at c0
        have HC : Hid (msk ne (k + 1) = msk ne k) := by show msk ne k + _ = _; rw [hne]; rfl
        have HH : Hid (Heads ne (k + 1) H) := hH.skip hne
        have HCel : Hid (Cel wr H) := hC
        clear hne hH hC
        go_wp2
        go_roundw
        case rel => exact ⟨k + 1, H, T, by omega, by go_num, by rw [HC.out], hn, hl, hh, ht, HH.out, HCel.out, hbel⟩
        case measure => simp [intOf]; omega
      | true =>
        rw [hne] at c0
        have HC : Hid (wrap64 ((msk ne k : Int) + wrap64 (2 ^ k)) = (msk ne (k + 1) : Int)) := msk_step ne k hlt hne
        have HH : Hid (Heads ne (k + 1) (upd H k (some ⟨wr.heap.size, 0, none⟩))) := hH.take (fun i a h1 h2 => Nat.ne_of_lt (hC i a h1 h2).lt) hne
        have HCel : Hid (Cel wr H) := hC
        clear hne hH hC
        cases hlo : lo k with
        | true =>
          rw [hlo] at c1
          clear hlo
          have m2 : N + 1 + 1 + 1 < wr.heap.size + 1 := by omega
          have m3 : N + 1 + 1 + 1 + 1 + 1 < wr.heap.size + 1 := by omega
          go_wp2_with (first | (go_at_call 7; refine (newTwo_any _).mono ?_; rintro e w' ⟨rfl, p1, p2, rfl⟩))
          obtain ⟨b1, b2, b3, b4, b5, b6, b7⟩ := laid_head (n := wr.heap.size) (t := wr.heap.size + 1) hlt hn hl hh ht HCel.out hbel
          go_roundw
          case rel =>
            refine ⟨k + 1, upd H k (some ⟨wr.heap.size, 0, none⟩), upd T k (some ⟨wr.heap.size + 1, 0, none⟩), by omega, by go_num, by rw [HC.out], (b1.alloc _).alloc _, (b2.alloc _).alloc _, (b3.alloc _).alloc _, (b4.alloc _).alloc _, HH.out, ?_, (b6.alloc (by rw [b7]; omega) _).alloc (by simp only [World.size_alloc, b7]; omega) _⟩
            refine ((b5.alloc _).alloc _).upd k _ (IsCells.alloc ?_ _)
            have := IsCells.new ((wr.setCell ⟨N + 1 + 1 + 1, k, none⟩ (.pointer (some ⟨wr.heap.size, 0, none⟩))).setCell ⟨N + 1 + 1 + 1 + 1 + 1, k, none⟩ (.pointer (some ⟨wr.heap.size + 1, 0, none⟩))) p1 54
            rw [b7] at this
            exact this
          case measure => simp [intOf]; omega
        | false =>
          rw [hlo] at c1
          clear hlo
          have m2 : N + 1 + 1 + 1 < wr.heap.size + 1 := by omega
          have m3 : N + 1 + 1 + 1 + 1 + 1 < wr.heap.size + 1 := by omega
          go_wp2_with (first | (go_at_call 8; refine (newEntry_any _).mono ?_; rintro e w' ⟨rfl, p1, rfl⟩))
          obtain ⟨b1, b2, b3, b4, b5, b6, b7⟩ := laid_head (n := wr.heap.size) (t := wr.heap.size) hlt hn hl hh ht HCel.out hbel
          go_roundw
          case rel =>
            refine ⟨k + 1, upd H k (some ⟨wr.heap.size, 0, none⟩), upd T k (some ⟨wr.heap.size, 0, none⟩), by omega, by go_num, by rw [HC.out], b1.alloc _, b2.alloc _, b3.alloc _, b4.alloc _, HH.out, ?_, b6.alloc (by rw [b7]; omega) _⟩
            refine (b5.alloc _).upd k _ ?_
            have := IsCells.new ((wr.setCell ⟨N + 1 + 1 + 1, k, none⟩ (.pointer (some ⟨wr.heap.size, 0, none⟩))).setCell ⟨N + 1 + 1 + 1 + 1 + 1, k, none⟩ (.pointer (some ⟨wr.heap.size, 0, none⟩))) p1 54
            rw [b7] at this
            exact this
          case measure => simp [intOf]; omega
    · obtain rfl : k = 4 := by omega
      have e0 : rest H 0 = H := by funext i; simp [rest]
      have HH : Hid (Heads ne 4 H) := hH
      have HCel : Hid (Cel wr H) := hC
      have c0 : wr.cell? ⟨N + 1 + 1 + 1, 0, none⟩ = some (.pointer (H 0)) := hh.cell (j := 0) rfl
      have c1 : wr.cell? ⟨N + 1 + 1 + 1, 1, none⟩ = some (.pointer (H 1)) := hh.cell (j := 1) rfl
      have c2 : wr.cell? ⟨N + 1 + 1 + 1, 2, none⟩ = some (.pointer (H 2)) := hh.cell (j := 2) rfl
      have c3 : wr.cell? ⟨N + 1 + 1 + 1, 3, none⟩ = some (.pointer (H 3)) := hh.cell (j := 3) rfl
      have d0 : wr.cell? ⟨N + 1 + 1 + 1 + 1 + 1, 0, none⟩ = some (.pointer (T 0)) := ht.cell (j := 0) rfl
      have d1 : wr.cell? ⟨N + 1 + 1 + 1 + 1 + 1, 1, none⟩ = some (.pointer (T 1)) := ht.cell (j := 1) rfl
      have d2 : wr.cell? ⟨N + 1 + 1 + 1 + 1 + 1, 2, none⟩ = some (.pointer (T 2)) := ht.cell (j := 2) rfl
      have d3 : wr.cell? ⟨N + 1 + 1 + 1 + 1 + 1, 3, none⟩ = some (.pointer (T 3)) := ht.cell (j := 3) rfl
      have HE : Hid (rest H 0 = H) := e0
      clear hH hC hk hlt hn hl ht e0
      go_wp2_with fail
      refine (newLevel_any H T wr).mono ?_
      rintro e w2 ⟨Lv, rfl, hlv, hb2⟩
      have hh2 := hh.below hb2 hh.lt
      have hbel2 := hbel.trans (hb2.mono (by have := hh.lt; omega))
      have HC2 : Hid (Cel w2 H) := HCel.out.below hb2
      clear c0 c1 c2 c3 d0 d1 d2 d3 hh hbel hb2 HCel
      go_wp2_with fail
      refine (levelFirst_any Lv H w2 hlv).mono ?_
      rintro e w2 ⟨rfl, rfl⟩
      go_wp2_with fail
      refine (lowest_any ne w2).mono ?_
      rintro e w2 ⟨rfl, rfl⟩
      rcases next_or ne 4 0 rfl with ⟨k, h1, h2, h3, h4⟩ | hn
      · obtain ⟨a, ha⟩ := HH.out.some_ k h2 h2 h3
        have hf := rest_first HH.out h1 h2 h4 a ha
        rw [HE.out] at hf
        have hlv' : Hid (Level w2 Lv H) := hlv
        have HF : Hid (firstOf H = some a) := hf
        rw [hf, low_at ne k h2 h3 h4]
        have ck : w2.cell? ⟨N + 1 + 1 + 1, k, none⟩ = some (.pointer (H k)) := hh2.cell (hv_at _ k h2)
        rw [ha] at ck
        have hkI : (k : Int) < 4 := by omega
        have e1 := neq_same w2 a
        have e2 := eql_same w2 a
        clear ha h3 h4 hf hlv h1
        go_wp2_with fail
        refine (levelFirst_any Lv H w2 hlv'.out).mono ?_
        rintro e w2 ⟨rfl, rfl⟩
        rw [HF.out]
        go_wp2
        go_ret
        exact ⟨rfl, HN.out ▸ hbel2⟩
      · have hf := rest_none (L := 0) HH.out hn
        rw [HE.out] at hf
        rw [hf, low_none ne hn]
        clear hf hn hlv
        go_wp2
        go_ret
        exact ⟨rfl, HN.out ▸ hbel2⟩
end Go.Proofs.Qxb6612441a
