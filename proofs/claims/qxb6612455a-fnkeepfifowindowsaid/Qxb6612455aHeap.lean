/-
  container/heap OVER THE QUEUE: up, down, Push, Remove.
-/
import Derived.Test.Qxb6612455aQueue
import Derived.Test.Qxb6612455aPlain
namespace Go.Proofs.Qxb6612455a
open Go.RowKit

section
variable {E : Env} {w : World} {q : Value} {held lo c clock : Nat} {ix h : Nat → Nat} {n t g cap l : Nat}

set_option maxRecDepth 100000 in
theorem up_any (m : Mem E w (.slice (some ⟨g, 0, none⟩) n cap) held lo c clock ix h n t) (hn : n ≤ 1000000) (j : Nat) (hj : j = 0 ∨ j < n ∧ h ((j - 1) / 2) < h j) :
    Calls Try.prog 22 #[.iface 85 (.pointer (some ⟨E.C, 5, none⟩)), .int .i64 j] w (fun e w' => e = .returned (.tuple #[]) ∧ Mem E w' (.slice (some ⟨g, 0, none⟩) n cap) held lo c clock ix h n t) := by
  have hm := m_less w ⟨E.C, 5, none⟩ _ (m.bC.cell (j := 5) rfl)
  have HM : Hid (Mem E w (.slice (some ⟨g, 0, none⟩) n cap) held lo c clock ix h n t) := m
  clear m
  go_enter Try.func22, Try.ntmps22
  go_wp2
  go_loop [1] (fun v => v = .int .i64 j) (fun _ => 0)
  case atStart => rfl
  case round =>
    subst hrel
    rcases hj with rfl | ⟨hj1, hj2⟩
    · go_wp2
      go_end0
      exact ⟨rfl, HM.out⟩
    · have hj0 : 0 < j := by
        rcases Nat.eq_zero_or_pos j with rfl | h0
        · simp at hj2
        · exact h0
      obtain ⟨J, rfl⟩ : ∃ J, j = J + 1 := ⟨j - 1, by omega⟩
      rw [Nat.add_sub_cancel] at hj2
      have H := less_any HM.out (i := J + 1) (j := J / 2) hj1 (by omega)
      unfold LessPost at H
      rw [show decide (h (J + 1) < h (J / 2)) = false from by simp; omega] at H
      rw [show ((J + 1 : Nat) : Int) = (J : Int) + 1 from rfl, show ((J / 2 : Nat) : Int) = (J : Int) / 2 from rfl] at H
      have hne : ¬ (J : Int) / 2 = (J : Int) + 1 := by omega
      clear hj2
      go_wp2_with fail
      refine H.mono ?_
      rintro e w' ⟨rfl, m'⟩
      have HM' : Hid (Mem E w' (.slice (some ⟨g, 0, none⟩) n cap) held lo c clock ix h n t) := m'
      clear m' H HM hm
      go_wp2
      go_end0
      exact ⟨rfl, HM'.out⟩

def DownInv (E : Env) (g cap : Nat) (held lo c clock l : Nat) (n t : Nat) (i : Nat) (w : World) : Prop :=
  ∃ ix h, Mem E w (.slice (some ⟨g, 0, none⟩) (n + 1) cap) held lo c clock ix h (n + 1) t ∧ (∀ k, k < n + 1 → ix (h k) = k) ∧ Win h (n + 1) l t ∧ h n = l ∧ HeapBut h n i
def DownPost (E : Env) (g cap : Nat) (held lo c clock l : Nat) (n t : Nat) (e : Ending) (w : World) : Prop :=
  ∃ b, e = .returned (.bool b) ∧ ∃ ix h, Mem E w (.slice (some ⟨g, 0, none⟩) (n + 1) cap) held lo c clock ix h (n + 1) t ∧ (∀ k, k < n + 1 → ix (h k) = k) ∧ Win h (n + 1) l t ∧ h n = l ∧ IsHeap h n

set_option maxHeartbeats 4000000 in
set_option maxRecDepth 100000 in
theorem down_any (hd : DownInv E g cap held lo c clock l n t 0 w) (hn : n ≤ 1000000) :
    Calls Try.prog 25 #[.iface 85 (.pointer (some ⟨E.C, 5, none⟩)), .int .i64 0, .int .i64 n] w (DownPost E g cap held lo c clock l n t) := by
  have HD : Hid (DownInv E g cap held lo c clock l n t 0 w) := hd
  clear hd
  go_enter Try.func25, Try.ntmps25
  go_wp2
  go_loopw [7] (fun v wr => ∃ i : Nat, i ≤ n ∧ v = .int .i64 i ∧ Hid (DownInv E g cap held lo c clock l n t i wr)) (fun v _ => n - (intOf v).toNat)
  case atStart => exact ⟨0, Nat.zero_le _, rfl, HD⟩
  case round =>
    clear HD
    obtain ⟨i, hi, rfl, HD⟩ := hrel
    by_cases hleaf : n ≤ 2 * i + 1
    · go_wp2
      go_ret
      obtain ⟨ix, h, m, hx, hw, hl, hb⟩ := HD.out
      exact ⟨_, rfl, ix, h, m, hx, hw, hl, heapBut_leaf hb hleaf⟩
    · obtain ⟨ix, h, m, hx, hw, hl, hb⟩ := HD.out
      have hm := m_less wr ⟨E.C, 5, none⟩ _ (m.bC.cell (j := 5) rfl)
      have hinj : ∀ a b, a < n → b < n → h a = h b → a = b := fun a b ha hb' e => by rw [← hx a (by omega), ← hx b (by omega), e]
      clear HD
      by_cases h2 : 2 * i + 2 < n
      · have H := less_any m (i := 2 * i + 2) (j := 2 * i + 1) (by omega) (by omega)
        unfold LessPost at H
        rw [show ((2 * i + 2 : Nat) : Int) = 2 * (i : Int) + 1 + 1 from by omega, show ((2 * i + 1 : Nat) : Int) = 2 * (i : Int) + 1 from by omega] at H
        by_cases hc : h (2 * i + 2) < h (2 * i + 1)
        · rw [decide_eq_true hc] at H
          have hmin : ∀ k, 0 < k → k < n → (k - 1) / 2 = i → h (2 * i + 2) ≤ h k := by
            intro k h0 hk e
            rcases (show k = 2 * i + 1 ∨ k = 2 * i + 2 by omega) with rfl | rfl <;> omega
          clear hc m
          have HA : Hid ((∀ k, k < n + 1 → ix (h k) = k) ∧ Win h (n + 1) l t ∧ h n = l ∧ HeapBut h n i ∧ (∀ a b, a < n → b < n → h a = h b → a = b) ∧ ∀ k, 0 < k → k < n → (k - 1) / 2 = i → h (2 * i + 2) ≤ h k) := ⟨hx, hw, hl, hb, hinj, hmin⟩
          clear hx hw hl hb hinj hmin
          go_wp2_with fail
          refine H.mono ?_
          rintro e w2 ⟨rfl, m2⟩
          obtain ⟨hx, hw, hl, hb, hinj, hmin⟩ := HA.out
          clear H hm HA
          have hm2 := m_less w2 ⟨E.C, 5, none⟩ _ (m2.bC.cell (j := 5) rfl)
          have H2 := less_any m2 (i := 2 * i + 2) (j := i) (by omega) (by omega)
          unfold LessPost at H2
          by_cases hlt : h (2 * i + 2) < h i
          · rw [decide_eq_true hlt, show ((2 * i + 2 : Nat) : Int) = 2 * (i : Int) + 1 + 1 from by omega] at H2
            have HF : Hid (HeapBut (sw h i (2 * i + 2)) n (2 * i + 2)) := heapBut_swap hb hinj (by omega) (by omega) (by omega) hlt hmin
            have HW : Hid (Win (sw h i (2 * i + 2)) (n + 1) l t ∧ sw h i (2 * i + 2) n = l) := ⟨hw.sw (by omega) (by omega), (sw_other (h := h) (by omega) (by omega)).trans hl⟩
            have HX : Hid (∀ k, k < n + 1 → ix (h k) = k) := hx
            clear hlt hb hinj hmin hw hl hx m2
            go_wp2_with fail
            refine H2.mono ?_
            rintro e w3 ⟨rfl, m3⟩
            have hm3 := m_swap w3 ⟨E.C, 5, none⟩ _ (m3.bC.cell (j := 5) rfl)
            have H3 := swap_any m3 HX.out (i := i) (j := 2 * i + 2) (by omega) (by omega) (by omega)
            rw [show ((2 * i + 2 : Nat) : Int) = 2 * (i : Int) + 1 + 1 from by omega] at H3
            clear H2 hm2 m3 HX
            go_wp2_with fail
            refine H3.mono ?_
            rintro e w4 ⟨rfl, ix4, m4, hx4⟩
            have HD4 : Hid (DownInv E g cap held lo c clock l n t (2 * i + 2) w4) := ⟨ix4, _, m4, hx4, HW.out.1, HW.out.2, HF.out⟩
            clear H3 hm3 m4 hx4 HW HF
            go_wp2
            go_round
            case rel => exact ⟨2 * i + 2, by omega, by go_num, HD4⟩
            case measure => simp [intOf]; omega
          · rw [decide_eq_false hlt, show ((2 * i + 2 : Nat) : Int) = 2 * (i : Int) + 1 + 1 from by omega] at H2
            have HF : Hid (IsHeap h n) := heapBut_stop hb fun k h0 hk e => by
              have h1 := hmin k h0 hk e
              have h2 : h i ≠ h k := fun e2 => by
                have := hinj i k (by omega) hk e2
                omega
              omega
            have HW : Hid ((∀ k, k < n + 1 → ix (h k) = k) ∧ Win h (n + 1) l t ∧ h n = l) := ⟨hx, hw, hl⟩
            clear hlt hb hinj hmin hw hl hx m2
            go_wp2_with fail
            refine H2.mono ?_
            rintro e w3 ⟨rfl, m3⟩
            have HM3 : Hid (Mem E w3 (.slice (some ⟨g, 0, none⟩) (n + 1) cap) held lo c clock ix h (n + 1) t) := m3
            clear H2 hm2 m3
            go_wp2
            go_ret
            exact ⟨_, rfl, ix, h, HM3.out, HW.out.1, HW.out.2.1, HW.out.2.2, HF.out⟩
        · rw [decide_eq_false hc] at H
          have hmin : ∀ k, 0 < k → k < n → (k - 1) / 2 = i → h (2 * i + 1) ≤ h k := by
            intro k h0 hk e
            rcases (show k = 2 * i + 1 ∨ k = 2 * i + 2 by omega) with rfl | rfl <;> omega
          clear hc m
          have HA : Hid ((∀ k, k < n + 1 → ix (h k) = k) ∧ Win h (n + 1) l t ∧ h n = l ∧ HeapBut h n i ∧ (∀ a b, a < n → b < n → h a = h b → a = b) ∧ ∀ k, 0 < k → k < n → (k - 1) / 2 = i → h (2 * i + 1) ≤ h k) := ⟨hx, hw, hl, hb, hinj, hmin⟩
          clear hx hw hl hb hinj hmin
          go_wp2_with fail
          refine H.mono ?_
          rintro e w2 ⟨rfl, m2⟩
          obtain ⟨hx, hw, hl, hb, hinj, hmin⟩ := HA.out
          clear H hm HA
          have hm2 := m_less w2 ⟨E.C, 5, none⟩ _ (m2.bC.cell (j := 5) rfl)
          have H2 := less_any m2 (i := 2 * i + 1) (j := i) (by omega) (by omega)
          unfold LessPost at H2
          by_cases hlt : h (2 * i + 1) < h i
          · rw [decide_eq_true hlt, show ((2 * i + 1 : Nat) : Int) = 2 * (i : Int) + 1 from by omega] at H2
            have HF : Hid (HeapBut (sw h i (2 * i + 1)) n (2 * i + 1)) := heapBut_swap hb hinj (by omega) (by omega) (by omega) hlt hmin
            have HW : Hid (Win (sw h i (2 * i + 1)) (n + 1) l t ∧ sw h i (2 * i + 1) n = l) := ⟨hw.sw (by omega) (by omega), (sw_other (h := h) (by omega) (by omega)).trans hl⟩
            have HX : Hid (∀ k, k < n + 1 → ix (h k) = k) := hx
            clear hlt hb hinj hmin hw hl hx m2
            go_wp2_with fail
            refine H2.mono ?_
            rintro e w3 ⟨rfl, m3⟩
            have hm3 := m_swap w3 ⟨E.C, 5, none⟩ _ (m3.bC.cell (j := 5) rfl)
            have H3 := swap_any m3 HX.out (i := i) (j := 2 * i + 1) (by omega) (by omega) (by omega)
            rw [show ((2 * i + 1 : Nat) : Int) = 2 * (i : Int) + 1 from by omega] at H3
            clear H2 hm2 m3 HX
            go_wp2_with fail
            refine H3.mono ?_
            rintro e w4 ⟨rfl, ix4, m4, hx4⟩
            have HD4 : Hid (DownInv E g cap held lo c clock l n t (2 * i + 1) w4) := ⟨ix4, _, m4, hx4, HW.out.1, HW.out.2, HF.out⟩
            clear H3 hm3 m4 hx4 HW HF
            go_wp2
            go_round
            case rel => exact ⟨2 * i + 1, by omega, by go_num, HD4⟩
            case measure => simp [intOf]; omega
          · rw [decide_eq_false hlt, show ((2 * i + 1 : Nat) : Int) = 2 * (i : Int) + 1 from by omega] at H2
            have HF : Hid (IsHeap h n) := heapBut_stop hb fun k h0 hk e => by
              have h1 := hmin k h0 hk e
              have h2 : h i ≠ h k := fun e2 => by
                have := hinj i k (by omega) hk e2
                omega
              omega
            have HW : Hid ((∀ k, k < n + 1 → ix (h k) = k) ∧ Win h (n + 1) l t ∧ h n = l) := ⟨hx, hw, hl⟩
            clear hlt hb hinj hmin hw hl hx m2
            go_wp2_with fail
            refine H2.mono ?_
            rintro e w3 ⟨rfl, m3⟩
            have HM3 : Hid (Mem E w3 (.slice (some ⟨g, 0, none⟩) (n + 1) cap) held lo c clock ix h (n + 1) t) := m3
            clear H2 hm2 m3
            go_wp2
            go_ret
            exact ⟨_, rfl, ix, h, HM3.out, HW.out.1, HW.out.2.1, HW.out.2.2, HF.out⟩
      · have hmin : ∀ k, 0 < k → k < n → (k - 1) / 2 = i → h (2 * i + 1) ≤ h k := by
          intro k h0 hk e
          rcases (show k = 2 * i + 1 by omega) with rfl
          exact Nat.le_refl _
        clear hm
        have hm2 := m_less wr ⟨E.C, 5, none⟩ _ (m.bC.cell (j := 5) rfl)
        have H2 := less_any m (i := 2 * i + 1) (j := i) (by omega) (by omega)
        unfold LessPost at H2
        by_cases hlt : h (2 * i + 1) < h i
        · rw [decide_eq_true hlt, show ((2 * i + 1 : Nat) : Int) = 2 * (i : Int) + 1 from by omega] at H2
          have HF : Hid (HeapBut (sw h i (2 * i + 1)) n (2 * i + 1)) := heapBut_swap hb hinj (by omega) (by omega) (by omega) hlt hmin
          have HW : Hid (Win (sw h i (2 * i + 1)) (n + 1) l t ∧ sw h i (2 * i + 1) n = l) := ⟨hw.sw (by omega) (by omega), (sw_other (h := h) (by omega) (by omega)).trans hl⟩
          have HX : Hid (∀ k, k < n + 1 → ix (h k) = k) := hx
          clear hlt hb hinj hmin hw hl hx m
          go_wp2_with fail
          refine H2.mono ?_
          rintro e w3 ⟨rfl, m3⟩
          have hm3 := m_swap w3 ⟨E.C, 5, none⟩ _ (m3.bC.cell (j := 5) rfl)
          have H3 := swap_any m3 HX.out (i := i) (j := 2 * i + 1) (by omega) (by omega) (by omega)
          rw [show ((2 * i + 1 : Nat) : Int) = 2 * (i : Int) + 1 from by omega] at H3
          clear H2 hm2 m3 HX
          go_wp2_with fail
          refine H3.mono ?_
          rintro e w4 ⟨rfl, ix4, m4, hx4⟩
          have HD4 : Hid (DownInv E g cap held lo c clock l n t (2 * i + 1) w4) := ⟨ix4, _, m4, hx4, HW.out.1, HW.out.2, HF.out⟩
          clear H3 hm3 m4 hx4 HW HF
          go_wp2
          go_round
          case rel => exact ⟨2 * i + 1, by omega, by go_num, HD4⟩
          case measure => simp [intOf]; omega
        · rw [decide_eq_false hlt, show ((2 * i + 1 : Nat) : Int) = 2 * (i : Int) + 1 from by omega] at H2
          have HF : Hid (IsHeap h n) := heapBut_stop hb fun k h0 hk e => by
            have h1 := hmin k h0 hk e
            have h2 : h i ≠ h k := fun e2 => by
              have := hinj i k (by omega) hk e2
              omega
            omega
          have HW : Hid ((∀ k, k < n + 1 → ix (h k) = k) ∧ Win h (n + 1) l t ∧ h n = l) := ⟨hx, hw, hl⟩
          clear hlt hb hinj hmin hw hl hx m
          go_wp2_with fail
          refine H2.mono ?_
          rintro e w3 ⟨rfl, m3⟩
          have HM3 : Hid (Mem E w3 (.slice (some ⟨g, 0, none⟩) (n + 1) cap) held lo c clock ix h (n + 1) t) := m3
          clear H2 hm2 m3
          go_wp2
          go_ret
          exact ⟨_, rfl, ix, h, HM3.out, HW.out.1, HW.out.2.1, HW.out.2.2, HF.out⟩
end
end Go.Proofs.Qxb6612455a
