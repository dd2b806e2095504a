/-
  FnLevelFirstDrainVisitsNonemptyGroupsInOrder: THE WALK.
-/
import Derived.Test.Qxb6612441aPlain
namespace Go.Proofs.Qxb6612441a
open Go.RowKit

def LawPost (w : World) (e : Ending) (w' : World) : Prop := e = .returned (.bool true) ∧ Below w.heap.size w w'

/-- The group that the inner search has found behind its first j steps. -/
def sel (k j : Nat) : Int := if k < j then (k : Int) else -1
theorem sel_zero (k : Nat) : sel k 0 = -1 := by simp [sel]
theorem sel_at (k : Nat) : sel k (k + 1) = k := by simp [sel]
theorem sel_skip (k j : Nat) (h : j ≠ k) : sel k (j + 1) = sel k j := by
  unfold sel
  by_cases e : k < j
  · rw [if_pos e, if_pos (by omega)]
  · rw [if_neg e, if_neg (by omega)]
theorem sel_four (k : Nat) (h : k < 4) : sel k 4 = k := by simp [sel, h]

set_option maxHeartbeats 1600000 in
set_option maxRecDepth 100000 in
theorem drain_walk (ne : Nat → Bool) (w : World) : Calls Try.prog 4 #[.agg #[.bool (ne 0), .bool (ne 1), .bool (ne 2), .bool (ne 3)]] w (LawPost w) := by
  go_enter Try.func4, Try.ntmps4
  go_wp2_with (go_at_call 6; refine (noHeads_any _).mono ?_; rintro e w' ⟨rfl, o1, rfl⟩)
  obtain ⟨N, hN⟩ : ∃ N, N = w.heap.size := ⟨_, rfl⟩
  have hb0 : Blk (((w.alloc (.cells #[.bool (ne 0), .bool (ne 1), .bool (ne 2), .bool (ne 3)] 22)).alloc (.cells o1 24)).alloc (.cells #[.pointer none, .pointer none, .pointer none, .pointer none] 24)) N (bv ne) := by
    rw [hN]
    exact ((Blk.new w #[.bool (ne 0), .bool (ne 1), .bool (ne 2), .bool (ne 3)] 22).alloc _).alloc _
  have hh0 : Blk (((w.alloc (.cells #[.bool (ne 0), .bool (ne 1), .bool (ne 2), .bool (ne 3)] 22)).alloc (.cells o1 24)).alloc (.cells #[.pointer none, .pointer none, .pointer none, .pointer none] 24)) (N + 1 + 1) (hv fun _ => none) := by
    have := Blk.new ((w.alloc (.cells #[.bool (ne 0), .bool (ne 1), .bool (ne 2), .bool (ne 3)] 22)).alloc (.cells o1 24)) #[.pointer none, .pointer none, .pointer none, .pointer none] 24
    rw [World.size_alloc, World.size_alloc, ← hN] at this
    exact this
  have hbel0 : Below N w (((w.alloc (.cells #[.bool (ne 0), .bool (ne 1), .bool (ne 2), .bool (ne 3)] 22)).alloc (.cells o1 24)).alloc (.cells #[.pointer none, .pointer none, .pointer none, .pointer none] 24)) := by
    rw [hN]
    exact (((Below.refl _ _).alloc (Nat.le_refl _) _).alloc (by simp) _).alloc (by simp; omega) _
  rw [← hN]
  have HN : Hid (N = w.heap.size) := hN
  clear hN
  generalize ((w.alloc (.cells #[.bool (ne 0), .bool (ne 1), .bool (ne 2), .bool (ne 3)] 22)).alloc (.cells o1 24)).alloc (.cells #[.pointer none, .pointer none, .pointer none, .pointer none] 24) = w1 at hb0 hh0 hbel0 ⊢
  go_loopw [4, 5] (fun c i wr => ∃ k : Nat, ∃ H : Nat → Option Addr, k ≤ 4 ∧ i = .int .i64 k ∧ c = .int .i64 (cnt ne k) ∧ Blk wr N (bv ne) ∧ Blk wr (N + 1 + 1) (hv H) ∧ Heads ne k H ∧ Cel wr H ∧ Below N w wr) (fun _ i _ => 4 - (intOf i).toNat)
  case atStart => exact ⟨0, _, by omega, rfl, rfl, hb0, hh0, Heads.start _, fun _ _ _ h => (nomatch h), hbel0⟩
  case round =>
    clear hb0 hh0 hbel0
    obtain ⟨k, H, hk, rfl, rfl, hb, hh, hH, hC, hbel⟩ := hrel
    have hcl := cnt_le ne k
    by_cases hlt : k < 4
    · have hkI : (k : Int) < 4 := by omega
      have c0 : wr.cell? ⟨N, k, none⟩ = some (.bool (ne k)) := hb.cell (bv_at ne k hlt)
      have c1 : wr.cell? ⟨N + 1 + 1, k, none⟩ = some (.pointer (H k)) := hh.cell (hv_at H k hlt)
      have f1 := hh.free k
      have l0 := hh.lt
      cases hne : ne k with
      | false =>
        rw [hne] at c0
        have HC : Hid (cnt ne (k + 1) = cnt ne k) := by show cnt ne k + _ = _; rw [hne]; rfl
        have HH : Hid (Heads ne (k + 1) H) := hH.skip hne
        have HCel : Hid (Cel wr H) := hC
        clear hne hH hC
        go_wp2
        go_roundw
        case rel => exact ⟨k + 1, H, by omega, by go_num, by rw [HC.out], hb, hh, HH.out, HCel.out, hbel⟩
        case measure => simp [intOf]; omega
      | true =>
        rw [hne] at c0
        have HC : Hid (cnt ne (k + 1) = cnt ne k + 1) := by show cnt ne k + _ = _; rw [hne]; rfl
        have HH : Hid (Heads ne (k + 1) (upd H k (some ⟨wr.heap.size, 0, none⟩))) := hH.take (fun i a h1 h2 => Nat.ne_of_lt (hC i a h1 h2).lt) hne
        have HCel : Hid (Cel wr H) := hC
        clear hne hH hC
        go_wp2_with (go_at_call 8; refine (newEntry_any _).mono ?_; rintro e w' ⟨rfl, o2, rfl⟩)
        go_roundw
        case rel =>
          refine ⟨k + 1, upd H k (some ⟨wr.heap.size, 0, none⟩), by omega, by go_num, by rw [HC.out]; go_num, (hb.setOther (a := ⟨N + 1 + 1, k, none⟩) (by simp; omega) _).alloc _, ?_, HH.out, ?_, (hbel.setCell (p := ⟨N + 1 + 1, k, none⟩) (by simp; omega) _).alloc (by simp [World.setCell]; omega) _⟩
          · rw [← hv_set H k hlt]
            exact (hh.set k _).alloc _
          · have e : wr.heap.size = (wr.setCell ⟨N + 1 + 1, k, none⟩ (.pointer (some ⟨wr.heap.size, 0, none⟩))).heap.size := by simp [World.setCell]
            refine ((HCel.out.setCell _ _ _).alloc _).upd k _ ?_
            have := IsCells.new (wr.setCell ⟨N + 1 + 1, k, none⟩ (.pointer (some ⟨wr.heap.size, 0, none⟩))) o2 54
            rw [← e] at this
            exact this
        case measure => simp [intOf]; omega
    · obtain rfl : k = 4 := by omega
      have HH : Hid (Heads ne 4 H) := hH
      clear hH hb hk hlt
      have hc4 : cnt ne 4 ≤ 4 := hcl
      clear hcl
      have e0 : rest H 0 = H := by funext i; simp [rest]
      go_wp2
      go_loopw [6, 7, 8] (fun l v i wr => ∃ L : Nat, L ≤ 4 ∧ l = .int .i64 ((L : Int) - 1) ∧ v = .int .i64 (cnt ne L) ∧ i = .int .i64 (cnt ne L) ∧ Blk wr (N + 1 + 1) (hv (rest H L)) ∧ Cel wr H ∧ Below N w wr) (fun _ _ i _ => 5 - (intOf i).toNat)
      case atStart => exact ⟨0, by omega, rfl, rfl, rfl, by rw [e0]; exact hh, hC, hbel⟩
      case round =>
        clear e0 hh hbel hC
        obtain ⟨L, hL, rfl, rfl, rfl, hh, hC, hbel⟩ := hrel
        have hcl := cnt_le ne L
        have c0 : wr.cell? ⟨N + 1 + 1, 0, none⟩ = some (.pointer (rest H L 0)) := hh.cell (j := 0) rfl
        have c1 : wr.cell? ⟨N + 1 + 1, 1, none⟩ = some (.pointer (rest H L 1)) := hh.cell (j := 1) rfl
        have c2 : wr.cell? ⟨N + 1 + 1, 2, none⟩ = some (.pointer (rest H L 2)) := hh.cell (j := 2) rfl
        have c3 : wr.cell? ⟨N + 1 + 1, 3, none⟩ = some (.pointer (rest H L 3)) := hh.cell (j := 3) rfl
        have hI : (cnt ne L : Int) < 5 := by omega
        go_wp2_with fail
        refine (newLevel_any (rest H L) (rest H L) wr).mono ?_
        rintro e w2 ⟨Lv, rfl, hlv, hb2⟩
        go_wp2_with fail
        refine (levelFirst_any Lv (rest H L) w2 hlv).mono ?_
        rintro e w2 ⟨rfl, rfl⟩
        have hh2 := hh.below hb2 hh.lt
        have HC2 : Hid (Cel w2 H) := hC.below hb2
        have hbel2 := hbel.trans (hb2.mono (by have := hh.lt; omega))
        clear c0 c1 c2 c3 hh hbel hb2 hlv hC
        rcases next_or ne (4 - L) L (by omega) with ⟨k, h1, h2, h3, h4⟩ | hn
        · obtain ⟨a, ha⟩ := HH.out.some_ k h2 h2 h3
          rw [rest_first HH.out h1 h2 h4 a ha]
          have HA : Hid (H k = some a) := ha
          have H3 : Hid (ne k = true) := h3
          have H4 : Hid (∀ j, L ≤ j → j < k → ne j = false) := h4
          clear ha h3 h4
          go_wp2
          go_loop [10, 11] (fun kk i => ∃ j : Nat, j ≤ 4 ∧ i = .int .i64 j ∧ kk = .int .i64 (sel k j)) (fun _ i => 4 - (intOf i).toNat)
          case atStart => exact ⟨0, by omega, rfl, by rw [sel_zero]⟩
          case round =>
            obtain ⟨j, hj, rfl, rfl⟩ := hrel
            by_cases hlt : j < 4
            · have hjI : (j : Int) < 4 := by omega
              have cj : w2.cell? ⟨N + 1 + 1, j, none⟩ = some (.pointer (rest H L j)) := hh2.cell (hv_at _ j hlt)
              by_cases ejk : j = k
              · have er : rest H L j = some a := by rw [ejk]; unfold rest; rw [if_neg (by omega)]; exact HA.out
                rw [er] at cj
                have HS : Hid (sel k (j + 1) = (j : Int)) := by show sel k (j + 1) = _; rw [ejk]; exact sel_at k
                clear er ejk
                have he := eql_same w2 a
                go_wp2
                go_round
                case rel => exact ⟨j + 1, by omega, by go_num, by rw [HS.out]⟩
                case measure => simp [intOf]; omega
              · have HS : Hid (sel k (j + 1) = sel k j) := sel_skip k j ejk
                cases er : rest H L j with
                | none =>
                  rw [er] at cj
                  clear er ejk
                  have he := eql_nil w2 a
                  go_wp2
                  go_round
                  case rel => exact ⟨j + 1, by omega, by go_num, by rw [HS.out]⟩
                  case measure => simp [intOf]; omega
                | some b =>
                  have hjb : H j = some b := by
                    unfold rest at er
                    by_cases c : j < L
                    · rw [if_pos c] at er; cases er
                    · rw [if_neg c] at er; exact er
                  have hba : b ≠ a := fun e => by rw [e] at hjb; exact ejk (HH.out.inj j k a hlt h2 hjb HA.out)
                  have he := eql_other w2 b a hba (HC2.out j b hlt hjb) (HC2.out k a h2 HA.out)
                  rw [er] at cj
                  clear er ejk hjb hba
                  go_wp2
                  go_round
                  case rel => exact ⟨j + 1, by omega, by go_num, by rw [HS.out]⟩
                  case measure => simp [intOf]; omega
            · obtain rfl : j = 4 := by omega
              rw [sel_four k h2]
              have ck : w2.cell? ⟨N + 1 + 1, k, none⟩ = some (.pointer (rest H L k)) := hh2.cell (hv_at _ k h2)
              have fk := hh2.free k
              have hkI : (k : Int) < 4 := by omega
              have HC : Hid (cnt ne (k + 1) = cnt ne L + 1) := by
                show cnt ne k + _ = _
                rw [H3.out, cnt_none ne L k h1 H4.out]
                rfl
              have HB : Hid (Blk (w2.setCell ⟨N + 1 + 1, k, none⟩ (.pointer none)) (N + 1 + 1) (hv (rest H (k + 1)))) := by
                show Blk _ _ _
                rw [← rest_upd HH.out h1 H4.out, ← hv_set _ k h2]
                exact hh2.set k _
              clear hlt hj
              go_wp2
              refine ⟨⟨_, _, _, _, ⟨k + 1, by omega, ?_, ?_, ?_, HB.out, HC2.out.setCell _ _ _, hbel2.setCell (p := ⟨N + 1 + 1, k, none⟩) (by simp; omega) _⟩, rfl, rfl, rfl, rfl⟩, ?_⟩
              · go_num
              · rw [HC.out]; go_num
              · rw [HC.out]; go_num
              · simp [intOf]; omega
        · rw [rest_none HH.out hn]
          have hc : ((cnt ne L : Int) == (cnt ne 4 : Int)) = true := by
            rw [cnt_none ne L 4 hL hn]; simp
          clear hn
          go_wp2
          go_ret
          exact ⟨rfl, HN.out ▸ hbel2⟩
end Go.Proofs.Qxb6612441a
