/-
  THE PLAIN LAW: what the keys, the count and the queue are after i closings. No walk here.
-/
import Derived.Test.Qxb6609413aFmtFlow
namespace Go.Proofs.Qxb6609413aFmt
open Go.RowKit

def deadIf (x : Key) : Key := if 0 ≤ x.tok then dead x else x
/-- The keys after i closings. -/
def kst (ks : List Key) (i : Nat) : List Key := if i < ks.length then ks.take (ks.length - i) else [deadIf (ks.headD zk)]

theorem deadIf_tok (x : Key) : (deadIf x).tok < 0 := by
  unfold deadIf dead
  by_cases c : 0 ≤ x.tok
  · rw [if_pos c]; show (-1 : Int) < 0; omega
  · rw [if_neg c]; omega
theorem kst_zero (ks : List Key) (h : 0 < ks.length) : kst ks 0 = ks := by simp [kst, h]
theorem kst_len (ks : List Key) (i : Nat) (_ : 0 < ks.length) : (kst ks i).length = if i < ks.length then ks.length - i else 1 := by
  unfold kst; split <;> simp
theorem kst_pos (ks : List Key) (i : Nat) (h : 0 < ks.length) : 0 < (kst ks i).length ∧ (kst ks i).length ≤ ks.length := by
  rw [kst_len ks i h]; split <;> omega

theorem headD_eq (ks : List Key) (h : 0 < ks.length) : ks.headD zk = ks[0] := by
  cases ks with
  | nil => simp at h
  | cons a r => rfl

theorem kst_last (ks : List Key) (i : Nat) (h : 0 < ks.length) : (kst ks i).getLastD zk = if _ : i < ks.length then ks[ks.length - 1 - i] else deadIf (ks.headD zk) := by
  by_cases hi : i < ks.length
  · rw [dif_pos hi, getLastD_eq _ _ (kst_pos ks i h).1]
    simp only [kst, hi, if_true, List.getElem_take, List.length_take]
    congr 1
    omega
  · rw [dif_neg hi]
    simp [kst, hi]

theorem kst_step (ks : List Key) (i : Nat) (h : 0 < ks.length) : popped (dropped (kst ks i)) = kst ks (i + 1) := by
  by_cases h1 : i + 1 < ks.length
  · have hi : i < ks.length := by omega
    have hl : (kst ks i).length = ks.length - i := by rw [kst_len ks i h, if_pos hi]
    unfold popped
    rw [dropped_len, if_pos (by omega), hl]
    have e1 : (dropped (kst ks i)).take (ks.length - i - 1) = (kst ks i).take (ks.length - i - 1) := by
      unfold dropped
      split
      · rw [List.take_set_of_le (by omega)]
      · rfl
    rw [e1]
    simp only [kst, hi, h1, if_true, List.take_take]
    congr 1
    omega
  · by_cases hi : i < ks.length
    · have hl : (kst ks i).length = 1 := by rw [kst_len ks i h, if_pos hi]; omega
      have hk : kst ks i = [ks[0]] := by
        have e : ks.length - i = 1 := by omega
        simp only [kst, hi, if_true, e]
        cases ks with
        | nil => simp at h
        | cons a r => rfl
      have hk' : kst ks (i + 1) = [deadIf ks[0]] := by simp only [kst, h1, if_false, headD_eq ks h]
      have hd : dropped [ks[0]] = [deadIf ks[0]] := by
        unfold dropped deadIf
        show (if (0 : Int) ≤ ks[0].tok then [dead ks[0]] else [ks[0]]) = _
        by_cases c : (0 : Int) ≤ ks[0].tok
        · rw [if_pos c, if_pos c]
        · rw [if_neg c, if_neg c]
      unfold popped
      rw [dropped_len, if_neg (by omega), hk, hk', hd]
    · have hk : kst ks i = [deadIf (ks.headD zk)] := by simp [kst, hi]
      have hk' : kst ks (i + 1) = [deadIf (ks.headD zk)] := by
        have : ¬ i + 1 < ks.length := by omega
        simp [kst, this]
      have ht := deadIf_tok (ks.headD zk)
      unfold popped
      rw [dropped_len, hk, hk']
      unfold dropped
      simp only [List.getLastD_cons, List.getLastD_nil, List.length_singleton]
      rw [if_neg (by omega), if_neg (by omega)]

theorem kst_must (ks : List Key) (i n : Nat) (h : 0 < ks.length) (hi : i < n) (hm : ∀ j, (hj : j < ks.length) → ks.length ≤ j + n → 0 ≤ ks[j].tok → ks[j].must = false) :
    0 ≤ ((kst ks i).getLastD zk).tok → ((kst ks i).getLastD zk).must = false := by
  rw [kst_last ks i h]
  by_cases h1 : i < ks.length
  · simp only [h1, dite_true]
    exact hm _ (by omega) (by omega)
  · simp only [h1, dite_false]
    intro h2
    have := deadIf_tok (ks.headD zk)
    omega

theorem live_append (a b : List Key) : live (a ++ b) = live a + live b := List.countP_append
theorem live_one (x : Key) : live [x] = if 0 ≤ x.tok then 1 else 0 := by unfold live; by_cases c : 0 ≤ x.tok <;> simp [c]

/-- Each closing takes the innermost key out of the live ones. -/
theorem kst_live (ks : List Key) (i : Nat) (h : 0 < ks.length) : live (kst ks i) = live (kst ks (i + 1)) + if 0 ≤ ((kst ks i).getLastD zk).tok then 1 else 0 := by
  by_cases h1 : i + 1 < ks.length
  · have hi : i < ks.length := by omega
    rw [kst_last ks i h, dif_pos hi]
    simp only [kst, hi, h1, if_true]
    have e : ks.length - i = (ks.length - (i + 1)) + 1 := by omega
    rw [e, live_take ks _ (by omega)]
    have e2 : ks.length - 1 - i = ks.length - (i + 1) := by omega
    simp only [e2]
  · by_cases hi : i < ks.length
    · have hk : kst ks i = [ks[0]] := by
        have e : ks.length - i = 1 := by omega
        simp only [kst, hi, if_true, e]
        cases ks with
        | nil => simp at h
        | cons a r => rfl
      have hk' : kst ks (i + 1) = [deadIf ks[0]] := by
        simp only [kst, h1, if_false, headD_eq ks h]
      have ht := deadIf_tok ks[0]
      rw [hk, hk', live_one, live_one, if_neg (show ¬ (0 : Int) ≤ (deadIf ks[0]).tok by omega)]
      simp
    · have hk : kst ks i = [deadIf (ks.headD zk)] := by simp [kst, hi]
      have hk' : kst ks (i + 1) = [deadIf (ks.headD zk)] := by simp [kst, h1]
      have ht := deadIf_tok (ks.headD zk)
      rw [hk, hk']
      simp only [List.getLastD_cons, List.getLastD_nil]
      rw [if_neg (by omega), Nat.add_zero]

/-- The count after i closings. -/
def mst (ks : List Key) (m : Int) (i : Nat) : Int := wrap64 (m - (live ks : Int) + (live (kst ks i) : Int))
theorem wrap64_sub (a : Int) (b : Int) : wrap64 (wrap64 a - b) = wrap64 (a - b) := by unfold wrap64; omega
theorem wrap64_add (a : Int) (b : Int) : wrap64 (wrap64 a + b) = wrap64 (a + b) := by unfold wrap64; omega
theorem mst_step (ks : List Key) (m : Int) (i : Nat) (h : 0 < ks.length) : countOf (kst ks i) (mst ks m i) = mst ks m (i + 1) := by
  unfold countOf mst
  have hl := kst_live ks i h
  by_cases c : 0 ≤ ((kst ks i).getLastD zk).tok
  · rw [if_pos c, wrap64_sub]
    rw [if_pos c] at hl
    rw [hl]
    congr 1
    omega
  · rw [if_neg c]
    rw [if_neg c] at hl
    rw [hl]
    rfl
theorem mst_zero (ks : List Key) (m : Int) (h : 0 < ks.length) (h1 : -9223372036854775808 ≤ m) (h2 : m ≤ 9223372036854775807) : mst ks m 0 = m := by
  unfold mst wrap64
  rw [kst_zero ks h]
  omega
theorem mst_end (ks : List Key) (m : Int) (i : Nat) : wrap64 (mst ks m i - (live (kst ks i) : Int)) = wrap64 (m - (live ks : Int)) := by
  unfold mst
  rw [wrap64_sub]
  congr 1
  omega

/-- The queue after i closings. -/
def tst (ts : List Tok) (ss : List ByteArray) (p l c : Int) (i : Nat) : List Tok := ts ++ (List.range i).map fun j => newTok (ss.getD j ByteArray.empty) (wrap64 (p + (j : Int))) l (wrap64 (c + (j : Int)))
theorem tst_zero (ts : List Tok) (ss : List ByteArray) (p l c : Int) : tst ts ss p l c 0 = ts := by simp [tst]
theorem tst_len (ts : List Tok) (ss : List ByteArray) (p l c : Int) (i : Nat) : (tst ts ss p l c i).length = ts.length + i := by simp [tst]
theorem tst_step (ts : List Tok) (ss : List ByteArray) (p l c : Int) (i : Nat) (h : i < ss.length) :
    tst ts ss p l c i ++ [newTok ss[i] (wrap64 (p + (i : Int))) l (wrap64 (c + (i : Int)))] = tst ts ss p l c (i + 1) := by
  unfold tst
  rw [List.range_succ, List.map_append, ← List.append_assoc]
  simp [List.getD, h]
theorem tst_old (ts : List Tok) (ss : List ByteArray) (p l c : Int) (i j : Nat) (h : j < ts.length) (h' : j < (tst ts ss p l c i).length) : (tst ts ss p l c i)[j] = ts[j] := by
  have e : (tst ts ss p l c i)[j]? = some ts[j] := by
    unfold tst
    rw [List.getElem?_append_left h, List.getElem?_eq_getElem h]
  exact (List.getElem?_eq_some_iff.1 e).2
theorem tst_new (ts : List Tok) (ss : List ByteArray) (p l c : Int) (i j : Nat) (h : j < i) (hs : j < ss.length) (h' : ts.length + j < (tst ts ss p l c i).length) : (tst ts ss p l c i)[ts.length + j] = newTok ss[j] (wrap64 (p + (j : Int))) l (wrap64 (c + (j : Int))) := by
  have e : (tst ts ss p l c i)[ts.length + j]? = some (newTok ss[j] (wrap64 (p + (j : Int))) l (wrap64 (c + (j : Int)))) := by
    unfold tst
    rw [List.getElem?_append_right (by omega)]
    simp [List.getD, hs, h]
  exact (List.getElem?_eq_some_iff.1 e).2
end Go.Proofs.Qxb6609413aFmt
