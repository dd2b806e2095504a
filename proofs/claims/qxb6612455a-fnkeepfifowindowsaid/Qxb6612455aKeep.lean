/-
  (*layoutCache).keep.
-/
import Derived.Test.Qxb6612455aCache
import Derived.Deep.DeepCutAuto
namespace Go.Proofs.Qxb6612455a
open Go.RowKit

/-- The cache whole: it holds the n texts from lo on; u kept layouts have been made. -/
def Full (E : Env) (w : World) (n lo u : Nat) : Prop :=
  ∃ a cap ix h, Mem E w (.slice a n cap) n lo n (lo + n) ix h n u ∧ (∀ k, k < n → ix (h k) = k) ∧ Win h n lo (lo + n) ∧ IsHeap h n
def heldOf (E : Env) (w : World) : Nat := match w.cell? ⟨E.C, 6, none⟩ with
  | some (.int _ k) => k.toNat
  | _ => 0

section
variable {E : Env} {w : World} {n lo : Nat}

theorem Full.heldOf {u : Nat} (f : Full E w n lo u) : heldOf E w = n := by
  obtain ⟨a, cap, ix, h, m, _⟩ := f
  have := m.bC.cell (j := 6) rfl
  simp [Go.Proofs.Qxb6612455a.heldOf, this]

theorem Full.drewN {u : Nat} (f : Full E w n lo u) (k : Nat) : Full E (w.drewN k) n lo u := by
  obtain ⟨a, cap, ix, h, m, r⟩ := f
  exact ⟨a, cap, ix, h, m.drewN k, r⟩

def KeepPost (E : Env) (n lo : Nat) (e : Ending) (w' : World) : Prop :=
  e = .returned (.tuple #[]) ∧ ((n < 4 * E.n ∧ Full E w' (n + 1) lo (lo + n + 1)) ∨ (n = 4 * E.n ∧ Full E w' n (lo + 1) (lo + n + 1)))

set_option maxHeartbeats 4000000 in
set_option maxRecDepth 100000 in
theorem keep_any (f : Full E w n lo (lo + n + 1)) (hroom : n ≤ 4 * E.n) (hN : E.n ≤ 8192) (hd : ∀ i j, i ≤ lo + n → j ≤ lo + n → E.txt i = E.txt j → i = j) :
    Calls Try.prog 17 #[.pointer (some ⟨E.C, 0, none⟩), .pointer (some ⟨E.kb (lo + n), 0, none⟩)] w (KeepPost E n lo) := by
  obtain ⟨a, cap, ix, h, m, hx, hw, hh⟩ := f
  have c4 := m.bC.cell (j := 4) rfl
  have k1 := (m.bk (lo + n) (by omega)).cell (j := 1) rfl
  have hup := run_update m.bM fun i _ h2 e => by have := hd i (lo + n) (by omega) (by omega) e; omega
  have hup' := run_update (w := w.drew) m.bM fun i _ h2 e => by have := hd i (lo + n) (by omega) (by omega) e; omega
  unfold kp at hup hup'
  have HM : Hid (Mem E w (.slice a n cap) n lo n (lo + n) ix h n (lo + n + 1)) := m
  have HA : Hid ((∀ k, k < n → ix (h k) = k) ∧ Win h n lo (lo + n) ∧ IsHeap h n) := ⟨hx, hw, hh⟩
  have HDI : Hid (∀ i j, i ≤ lo + n → j ≤ lo + n → E.txt i = E.txt j → i = j) := hd
  clear m hx hw hh hd
  go_enter Try.func17, Try.ntmps17
  go_wp2
  go_region
  have m1 := HM.out.drew.putM lo (n + 1) (lo + n + 1)
  generalize putM w.drew E.M (mes E lo (n + 1)) (lo + n + 1) = w1 at m1 ⊢
  have HP := heapPush_any m1 ⟨_, _, rfl⟩ HA.out.1 (by omega) (lo + n) (by omega) fun k hk => (HA.out.2.1.1 k hk).2
  clear m1 HM hup hup' c4 k1
  go_wp2_with fail
  refine HP.mono ?_
  rintro e w2 ⟨g2, cap2, rfl, ix2, m2, hx2⟩
  have hw2 : Win (fun k => if k = n then lo + n else h k) (n + 1) lo (lo + n + 1) := HA.out.2.1.push (by omega)
  have hh2 : IsHeap (fun k => if k = n then lo + n else h k) (n + 1) := heap_push HA.out.2.2 HA.out.2.1
  generalize (fun k => if k = n then lo + n else h k) = h2 at m2 hx2 hw2 hh2
  have c6 := m2.bC.cell (j := 6) rfl
  have f6 := m2.bC.free 6
  have c3 := m2.bC.cell (j := 3) rfl
  have c0 := (m2.bk (lo + n) (by omega)).cell (j := 0) rfl
  have HM2 : Hid (Mem E w2 (.slice (some ⟨g2, 0, none⟩) (n + 1) cap2) n lo (n + 1) (lo + n + 1) ix2 h2 (n + 1) (lo + n + 1)) := m2
  have HA2 : Hid ((∀ k, k < n + 1 → ix2 (h2 k) = k) ∧ Win h2 (n + 1) lo (lo + n + 1) ∧ IsHeap h2 (n + 1)) := ⟨hx2, hw2, hh2⟩
  clear m2 hx2 hw2 hh2 HP HA
  go_upto_region 2 with fail
  go_cut [] (fun wx => Hid (Full E wx (n + 1) lo (lo + n + 1)))
  case first =>
    go_region_with (go_at_call 19; refine (weight_any (W := E.W) (by simpa [go_sem] using c0) (by simpa [go_sem] using c3)).mono ?_; rintro e w3 ⟨rfl, k3, rfl⟩)
    all_goals
      go_wp2_with fail
      go_meet
      rw [show IntKind.i64.wrap ((n : Int) + 1) = ((n + 1 : Nat) : Int) from wrap_id (n + 1) (by omega)]
      exact ⟨_, _, _, _, (HM2.out.drewN _).setHeld (n + 1), HA2.out⟩
  case rest =>
    clear c6 f6 c3 c0 HM2 HA2
    go_wp2
    go_loopw [] (fun wr => Hid (Full E wr (n + 1) lo (lo + n + 1)) ∨ n = 4 * E.n ∧ Hid (Full E wr n (lo + 1) (lo + n + 1))) (fun wr => heldOf E wr)
    case atStart => exact .inl hcut
    case round =>
      clear hcut
      rcases hrel with F | ⟨hn, F⟩
      · obtain ⟨a, cap, ix, h, m, hx, hw, hh⟩ := F.out
        obtain ⟨g, cap', e⟩ := own_form m.row (by omega)
        cases e
        have c6 := m.bC.cell (j := 6) rfl
        have c0 := m.bC.cell (j := 0) rfl
        by_cases hlt : n < 4 * E.n
        · have hlt' : ¬ 4 * (E.n : Int) < (n : Int) + 1 := by omega
          have HF : Hid (Full E wr (n + 1) lo (lo + n + 1)) := F
          clear m hx hw hh F
          go_wp2
          go_quiet (fail)
          go_wp2
          go_end0
          exact ⟨rfl, .inl ⟨hlt, HF.out.drewN _⟩⟩
        · have HN : Hid (n = 4 * E.n) := show n = 4 * E.n by omega
          have hlt' : 4 * (E.n : Int) < (n : Int) + 1 := by omega
          obtain ⟨_, h0⟩ := win_min hh hw (by omega)
          have c5 := m.bC.cell (j := 5) rfl
          have r0 := m.rowCell (i := 0) (by omega)
          rw [h0] at r0
          have HR := fun k => release_any (m.drewN k) hx hh hw h0 (by omega) (fun i h1 h2 e => HDI.out i lo (by omega) (by omega) e) (by omega)
          have HH : Hid (heldOf E wr = n + 1) := F.out.heldOf
          clear m hx hw hh F h0 hlt
          go_wp2
          go_quiet (fail)
          go_wp2_with fail
          refine (HR _).mono ?_
          rintro e w3 ⟨rfl, g3, cap3, ix3, h3, m3, hx3, hw3, hh3⟩
          have HF : Hid (Full E w3 n (lo + 1) (lo + n + 1)) := by
            refine ⟨some ⟨g3, 0, none⟩, cap3, ix3, h3, ?_, hx3, ?_, hh3⟩
            · rw [show lo + 1 + n = lo + n + 1 by omega]; exact m3
            · rw [show lo + 1 + n = lo + n + 1 by omega]; exact hw3
          by_cases hz : n = 0
          · have hq : ∀ w, (binOp .neq 27 (.pointer (some ⟨E.kb lo, 0, none⟩)) (.pointer (some ⟨E.kb (lo + n), 0, none⟩))).run Try.prog w = .ok (.bool false) w := by
              intro w
              rw [hz]
              exact neq27_same w ⟨E.kb lo, 0, none⟩
            clear m3 hx3 hw3 hh3 HR hz
            go_wp2
            go_roundw
            case rel => exact .inr ⟨HN.out, HF⟩
            case measure => rw [HF.out.heldOf, HH.out]; omega
          · have hne : E.kb lo ≠ E.kb (lo + n) := fun e => by
              have := m3.kb_inj (i := lo) (j := lo + n) (by omega) (by omega) e
              omega
            have hq := neq27_other w3 ⟨E.kb lo, 0, none⟩ ⟨E.kb (lo + n), 0, none⟩ (by intro e; injection e; contradiction) (m3.bk lo (by omega)) (m3.bk (lo + n) (by omega))
            have HU := reuse_any (W := E.W) ((m3.bk lo (by omega)).cell (j := 0) rfl) (m3.bC.cell (j := 3) rfl)
            clear m3 hx3 hw3 hh3 HR
            go_wp2_with fail
            refine HU.mono ?_
            rintro e w4 ⟨rfl, k4, rfl⟩
            clear HU
            go_wp2
            go_roundw
            case rel => exact .inr ⟨HN.out, HF.out.drewN _⟩
            case measure => rw [(HF.out.drewN _).heldOf, HH.out]; omega
      · obtain ⟨a, cap, ix, h, m, hx, hw, hh⟩ := F.out
        have c6 := m.bC.cell (j := 6) rfl
        have c0 := m.bC.cell (j := 0) rfl
        have hlt' : ¬ 4 * (E.n : Int) < (n : Int) := by omega
        have HN : Hid (n = 4 * E.n) := hn
        clear m hx hw hh hn
        go_wp2
        go_quiet (fail)
        go_wp2
        go_end0
        exact ⟨rfl, .inr ⟨HN.out, F.out.drewN _⟩⟩
end
end Go.Proofs.Qxb6612455a
