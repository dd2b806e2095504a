/-
  (*scanner).flowEnd and ZZFlowEnd.
-/
import Derived.Test.Qxb6609413aFmtInd
namespace Go.Proofs.Qxb6609413aFmt
open Go.RowKit

theorem Own.take {α : Type} {w : World} {b sz : Nat} {c : α → List Value} {l : List α} (h : Own w b sz c l) (n : Nat) : Own w b sz c (l.take n) :=
  ⟨h.lt, h.free, fun k hk j hj => by
    have hk' : k < l.length := by simp at hk; omega
    rw [List.getElem_take]
    exact h.lies k hk' j hj⟩

section
variable {w : World} {B S : Nat} {p l c m : Int} {en an : Bool} {kcap : Nat} {ks : List Key} {q : Value} {ts : List Tok}

def popped (ks : List Key) : List Key := if 1 < ks.length then ks.take (ks.length - 1) else ks

theorem Scan.popIt (h : Scan w B S p l c m en an kcap ks q ts) (n : Nat) (hn : n ≤ ks.length) :
    Scan (w.setCell ⟨S, 8, none⟩ (.slice (some ⟨S + 1, 0, none⟩) n kcap)) B S p l c m en an kcap (ks.take n) q ts := by
  have e : (ks.take n).length = n := by simp; omega
  refine ⟨h.hS, by rw [e]; exact Nat.le_trans hn h.kle, ?_, (h.keys.take n).setOther (a := ⟨S, 8, none⟩) (by simp) _, ownsRow_setCell_other h.queue (h.qne (k := S) (by omega)) _⟩
  rw [e]
  exact h.blk.set 8 _

theorem Scan.noEntry (h : Scan w B S p l c m en an kcap ks q ts) : Scan (w.setCell ⟨S, 11, none⟩ (.bool false)) B S p l c m false an kcap ks q ts :=
  ⟨h.hS, h.kle, h.blk.set 11 _, h.keys.setOther (a := ⟨S, 11, none⟩) (by simp) _, ownsRow_setCell_other h.queue (h.qne (k := S) (by omega)) _⟩

theorem dropped_len (ks : List Key) : (dropped ks).length = ks.length := by unfold dropped; split <;> simp

set_option maxHeartbeats 800000 in
theorem flowEnd_any (h : Scan w B S p l c m en an kcap ks q ts) (kind : ByteArray) (h0 : 0 < ks.length) (hk : ks.length ≤ 26214) (hmust : 0 ≤ (ks.getLastD zk).tok → (ks.getLastD zk).must = false) (hts : ts.length ≤ 1000000) :
    Calls Tryf.prog 23 #[.pointer (some ⟨S, 0, none⟩), .string kind] w fun e w' =>
      e = .returned (.tuple #[]) ∧ (∃ q', Scan w' B S (wrap64 (p + 1)) l (wrap64 (c + 1)) (countOf ks m) false an kcap (popped (dropped ks)) q' (ts ++ [newTok kind p l c])) ∧ Below B w w' := by
  have HS : Hid (Scan w B S p l c m en an kcap ks q ts) := h
  have HM : Hid (0 ≤ (ks.getLastD zk).tok → (ks.getLastD zk).must = false) := hmust
  clear h hmust
  go_enter Tryf.func23, Tryf.ntmps23
  go_wp2_with fail
  refine (dropKey_any HS.out h0 hk HM.out).mono ?_
  rintro e w1 ⟨rfl, hs1, hb1⟩
  have hl1 := dropped_len ks
  obtain ⟨ks1, HK⟩ : ∃ x, Hid (dropped ks = x) := ⟨_, rfl⟩
  obtain ⟨m1, HC⟩ : ∃ x, Hid (countOf ks m = x) := ⟨_, rfl⟩
  rw [HK.out] at hs1 hl1
  rw [HC.out] at hs1
  clear HS HM
  have hk1 : ks1.length ≤ 26214 := by omega
  have hp1 : 0 < ks1.length := by omega
  clear hl1
  by_cases h1 : 1 < ks1.length
  · obtain ⟨n, hn⟩ : ∃ n, ks1.length = n + 1 := ⟨ks1.length - 1, by omega⟩
    have HP : Hid (popped ks1 = ks1.take n) := by
      show popped ks1 = _
      rw [popped, if_pos h1, hn]; rfl
    have hd : decide (1 < ks1.length) = true := by simpa using h1
    have c8 := hs1.blk.cell (j := 8) rfl
    have f8 := hs1.blk.free 8
    rw [hn] at c8
    have HN : Hid (ks1.length = n + 1) := hn
    have hle : n + 1 ≤ kcap := by have := hs1.kle; omega
    have hs2 := Scan.noEntry ((hs1.drewN 1).popIt n (by omega))
    have hb2 : Below B w1 (((w1.drewN 1).setCell ⟨S, 8, none⟩ (.slice (some ⟨S + 1, 0, none⟩) n kcap)).setCell ⟨S, 11, none⟩ (.bool false)) := ((below_drew_n _ _ 1).setCell hs1.hS _).setCell hs1.hS _
    have c11 := hs1.blk.cell (j := 11) rfl
    have f11 := hs1.blk.free 11
    have HS1 : Hid (Scan w1 B S p l c m1 en an kcap ks1 q ts) := hs1
    have hn26 : n ≤ 26213 := by omega
    have hn1 : 1 ≤ n := by omega
    clear hs1 hn h1 hk1 hp1
    go_wp2_with (go_at_call 25; refine (inFlow_any HS1.out (by have := HN.out; omega)).mono ?_; rintro e w2 ⟨rfl, rfl⟩)
    go_region
    go_wp2_with fail
    refine (indicator_any hs2 kind hts).mono ?_
    rintro e w3 ⟨rfl, ⟨q', hs3⟩, hb3⟩
    go_wp2
    go_end0
    rw [HK.out, HC.out, HP.out]
    exact ⟨rfl, ⟨q', hs3⟩, (hb1.trans hb2).trans hb3⟩
  · have HP : Hid (popped ks1 = ks1) := by
      show popped ks1 = _
      rw [popped, if_neg h1]
    have hd : decide (1 < ks1.length) = false := by simpa using h1
    have hs2 := Scan.noEntry hs1
    have hb2 : Below B w1 (w1.setCell ⟨S, 11, none⟩ (.bool false)) := (Below.refl _ _).setCell hs1.hS _
    have c11 := hs1.blk.cell (j := 11) rfl
    have f11 := hs1.blk.free 11
    have HS1 : Hid (Scan w1 B S p l c m1 en an kcap ks1 q ts) := hs1
    clear hs1 h1 hp1
    go_wp2_with (go_at_call 25; refine (inFlow_any HS1.out hk1).mono ?_; rintro e w2 ⟨rfl, rfl⟩)
    refine (indicator_any hs2 kind hts).mono ?_
    rintro e w3 ⟨rfl, ⟨q', hs3⟩, hb3⟩
    go_wp2
    go_end0
    rw [HK.out, HC.out, HP.out]
    exact ⟨rfl, ⟨q', hs3⟩, (hb1.trans hb2).trans hb3⟩

theorem ZZFlowEnd_any (h : Scan w B S p l c m en an kcap ks q ts) (kind : ByteArray) (h0 : 0 < ks.length) (hk : ks.length ≤ 26214) (hmust : 0 ≤ (ks.getLastD zk).tok → (ks.getLastD zk).must = false) (hts : ts.length ≤ 1000000) :
    Calls Tryf.prog 12 #[.pointer (some ⟨S, 0, none⟩), .string kind] w fun e w' =>
      e = .returned (.tuple #[]) ∧ (∃ q', Scan w' B S (wrap64 (p + 1)) l (wrap64 (c + 1)) (countOf ks m) false an kcap (popped (dropped ks)) q' (ts ++ [newTok kind p l c])) ∧ Below B w w' := by
  have H := flowEnd_any h kind h0 hk hmust hts
  clear h hmust
  go_enter Tryf.func12, Tryf.ntmps12
  go_wp2_with fail
  refine H.mono ?_
  rintro e w3 ⟨rfl, hs3, hb3⟩
  go_wp2
  go_end0
  exact ⟨rfl, hs3, hb3⟩
end
end Go.Proofs.Qxb6609413aFmt
