/-
  container/heap OVER THE QUEUE: Push, Remove.
-/
import Derived.Test.Qxb6612455aHeap
namespace Go.Proofs.Qxb6612455a
open Go.RowKit

section
variable {E : Env} {w : World} {q : Value} {held lo c clock : Nat} {ix h : Nat → Nat} {n t g cap l : Nat}

set_option maxRecDepth 100000 in
theorem heapPush_any (m : Mem E w q held lo c clock ix h n t) (hq : ∃ a cap, q = .slice a n cap) (hx : ∀ k, k < n → ix (h k) = k) (hn : n < 1000000) (x : Nat) (hxt : x < t) (hfresh : ∀ k, k < n → h k < x) :
    Calls Try.prog 18 #[.iface 85 (.pointer (some ⟨E.C, 5, none⟩)), .iface 27 (.pointer (some ⟨E.kb x, 0, none⟩))] w (fun e w' => ∃ g cap, QPost E (.slice (some ⟨g, 0, none⟩) (n + 1) cap) held lo c clock (fun k => if k = n then x else h k) (n + 1) t e w') := by
  have H := push_any m hq hx (by omega) x hxt fun k hk => by have := hfresh k hk; omega
  have hm := fun w => m_push w ⟨E.C, 5, none⟩
  have HF : Hid (∀ k, k < n → h k < x) := hfresh
  clear m hfresh hx hq
  go_enter Try.func18, Try.ntmps18
  go_wp2_with fail
  refine H.mono ?_
  rintro e w1 ⟨g, cap, rfl, ix1, m1, hx1⟩
  have hm1 := m_len w1 ⟨E.C, 5, none⟩ _ (m1.bC.cell (j := 5) rfl)
  have HL := len_any (n + 1) cap (some ⟨g, 0, none⟩) w1
  have HM1 : Hid (Mem E w1 (.slice (some ⟨g, 0, none⟩) (n + 1) cap) held lo c clock ix1 (fun k => if k = n then x else h k) (n + 1) t) := m1
  have HX1 : Hid (∀ k, k < n + 1 → ix1 ((fun k => if k = n then x else h k) k) = k) := hx1
  clear H m1 hx1
  go_wp2_with fail
  refine HL.mono ?_
  rintro e w1 ⟨rfl, rfl⟩
  have HU := up_any HM1.out (by omega) n (by
    by_cases e : n = 0
    · exact .inl e
    · refine .inr ⟨by omega, ?_⟩
      show (if (n - 1) / 2 = n then x else h ((n - 1) / 2)) < (if n = n then x else h n)
      rw [if_neg (by omega), if_pos rfl]
      exact HF.out _ (by omega))
  clear HL hm1
  go_wp2_with fail
  refine HU.mono ?_
  rintro e w2 ⟨rfl, m2⟩
  have HM2 : Hid (Mem E w2 (.slice (some ⟨g, 0, none⟩) (n + 1) cap) held lo c clock ix1 (fun k => if k = n then x else h k) (n + 1) t) := m2
  clear HU m2 HM1
  go_wp2
  go_end0
  exact ⟨_, _, rfl, _, HM2.out, HX1.out⟩

def RemPost (E : Env) (g cap : Nat) (held lo c clock l : Nat) (n t : Nat) (e : Ending) (w' : World) : Prop :=
  ∃ v, e = .returned v ∧ ∃ ix h, Mem E w' (.slice (some ⟨g, 0, none⟩) n cap) held lo c clock ix h n t ∧ (∀ k, k < n → ix (h k) = k) ∧ Win h n (l + 1) t ∧ IsHeap h n

set_option maxRecDepth 100000 in
theorem heapRemove_any (m : Mem E w (.slice (some ⟨g, 0, none⟩) (n + 1) cap) held lo c clock ix h (n + 1) t) (hx : ∀ k, k < n + 1 → ix (h k) = k) (hh : IsHeap h (n + 1)) (hw : Win h (n + 1) l t) (h0 : h 0 = l) (hn : n < 1000000) :
    Calls Try.prog 24 #[.iface 85 (.pointer (some ⟨E.C, 5, none⟩)), .int .i64 0] w (RemPost E g cap held lo c clock l n t) := by
  have hm1 := m_len w ⟨E.C, 5, none⟩ _ (m.bC.cell (j := 5) rfl)
  have HL := len_any (n + 1) cap (some ⟨g, 0, none⟩) w
  have hmp := fun w => m_pop w ⟨E.C, 5, none⟩
  by_cases hn0 : n = 0
  · subst hn0
    have HP := pop_any m (by omega)
    have HA : Hid (Win h 0 (l + 1) t ∧ IsHeap h 0) := ⟨hw.pop h0 fun a b ha hb _ => by omega, fun k _ hk => by omega⟩
    clear m hx hh hw h0
    go_enter Try.func24, Try.ntmps24
    go_wp2_with fail
    refine HL.mono ?_
    rintro e w ⟨rfl, rfl⟩
    clear HL hm1
    go_wp2_with fail
    refine HP.mono ?_
    rintro e w1 ⟨v, rfl, m1⟩
    have HM1 : Hid (Mem E w1 (.slice (some ⟨g, 0, none⟩) 0 cap) held lo c clock ix h 0 t) := m1
    clear HP m1
    go_wp2
    go_ret
    exact ⟨_, rfl, ix, h, HM1.out, fun k hk => by omega, HA.out.1, HA.out.2⟩
  · have hm2 := m_swap w ⟨E.C, 5, none⟩ _ (m.bC.cell (j := 5) rfl)
    have HS := swap_any m hx (i := 0) (j := n) (by omega) (by omega) (by omega)
    rw [show ((0 : Nat) : Int) = 0 from rfl] at HS
    have HA : Hid (Win (sw h 0 n) (n + 1) l t ∧ sw h 0 n n = l ∧ HeapBut (sw h 0 n) n 0) := ⟨hw.sw (by omega) (by omega), sw_right.trans h0, heapBut_init hh⟩
    clear m hx hh hw h0
    go_enter Try.func24, Try.ntmps24
    go_wp2_with fail
    refine HL.mono ?_
    rintro e w ⟨rfl, rfl⟩
    clear HL hm1
    go_wp2_with fail
    refine HS.mono ?_
    rintro e w1 ⟨rfl, ix1, m1, hx1⟩
    have HD := down_any (w := w1) ⟨ix1, _, m1, hx1, HA.out.1, HA.out.2.1, HA.out.2.2⟩ (by omega)
    clear HS m1 hx1 HA hm2
    go_wp2_with fail
    refine HD.mono ?_
    rintro e w2 ⟨b, rfl, ix2, h2, m2, hx2, hw2, hl2, hh2⟩
    have HA : Hid ((∀ k, k < n → ix2 (h2 k) = k) ∧ Win h2 n (l + 1) t ∧ IsHeap h2 n) := ⟨fun k hk => hx2 k (by omega), hw2.pop hl2 fun a b ha hb e => by rw [← hx2 a ha, ← hx2 b hb, e], hh2⟩
    clear HD hx2 hw2 hl2 hh2
    cases b with
    | true =>
      have HP := pop_any m2 (by omega)
      clear m2
      go_wp2_with fail
      refine HP.mono ?_
      rintro e w3 ⟨v, rfl, m3⟩
      have HM3 : Hid (Mem E w3 (.slice (some ⟨g, 0, none⟩) n cap) held lo c clock ix2 h2 n t) := m3
      clear HP m3
      go_wp2
      go_ret
      exact ⟨_, rfl, ix2, h2, HM3.out, HA.out.1, HA.out.2.1, HA.out.2.2⟩
    | false =>
      have HU := up_any m2 (by omega) 0 (.inl rfl)
      rw [show ((0 : Nat) : Int) = 0 from rfl] at HU
      clear m2
      go_wp2_with fail
      refine HU.mono ?_
      rintro e w3 ⟨rfl, m3⟩
      have HP := pop_any m3 (by omega)
      clear m3 HU
      go_wp2_with fail
      refine HP.mono ?_
      rintro e w4 ⟨v, rfl, m4⟩
      have HM4 : Hid (Mem E w4 (.slice (some ⟨g, 0, none⟩) n cap) held lo c clock ix2 h2 n t) := m4
      clear HP m4
      go_wp2
      go_ret
      exact ⟨_, rfl, ix2, h2, HM4.out, HA.out.1, HA.out.2.1, HA.out.2.2⟩
end
end Go.Proofs.Qxb6612455a
