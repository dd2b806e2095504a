/-
  THE HEAP, PLAIN: places 0, .., n - 1 hold numbers; a parent's is less than its children's.
-/
import Derived.Test.Qxb6612455aState
namespace Go.Proofs.Qxb6612455a

def IsHeap (h : Nat → Nat) (n : Nat) : Prop := ∀ k, 0 < k → k < n → h ((k - 1) / 2) < h k
/-- A heap but for place i. -/
def HeapBut (h : Nat → Nat) (n i : Nat) : Prop :=
  (∀ k, 0 < k → k < n → (k - 1) / 2 ≠ i → h ((k - 1) / 2) < h k) ∧ (0 < i → ∀ k, 0 < k → k < n → (k - 1) / 2 = i → h ((i - 1) / 2) < h k)
/-- The places hold just the numbers from lo up to t. -/
def Win (h : Nat → Nat) (n lo t : Nat) : Prop := (∀ k, k < n → lo ≤ h k ∧ h k < t) ∧ ∀ x, lo ≤ x → x < t → ∃ k, k < n ∧ h k = x

theorem heap_le {h : Nat → Nat} {n : Nat} (hh : IsHeap h n) : ∀ k, k < n → h 0 ≤ h k := by
  intro k
  induction k using Nat.strongRecOn with
  | _ k ih =>
    intro hk
    by_cases e : k = 0
    · subst e; exact Nat.le_refl _
    · have h1 := hh k (by omega) hk
      have h2 := ih ((k - 1) / 2) (by omega) (by omega)
      omega
theorem win_min {h : Nat → Nat} {n lo t : Nat} (hh : IsHeap h n) (hw : Win h n lo t) (hl : lo < t) : 0 < n ∧ h 0 = lo := by
  obtain ⟨k, hk, e⟩ := hw.2 lo (Nat.le_refl _) hl
  have h1 := heap_le hh k hk
  have h2 := (hw.1 0 (by omega)).1
  omega

section
variable {h : Nat → Nat} {n i j : Nat}
theorem sw_left : sw h i j i = h j := by simp [sw]
theorem sw_right : sw h i j j = h i := by
  simp only [sw]
  split
  · next e => rw [e]
  · simp
theorem sw_other {k : Nat} (hi : k ≠ i) (hj : k ≠ j) : sw h i j k = h k := by simp [sw, hi, hj]
theorem sw_place (hi : i < n) (hj : j < n) {k : Nat} (hk : k < n) : ∃ k', k' < n ∧ sw h i j k = h k' := by
  by_cases e1 : k = i
  · subst e1; exact ⟨j, hj, sw_left⟩
  · by_cases e2 : k = j
    · subst e2; exact ⟨i, hi, sw_right⟩
    · exact ⟨k, hk, sw_other e1 e2⟩
theorem sw_back (hi : i < n) (hj : j < n) {k : Nat} (hk : k < n) : ∃ k', k' < n ∧ sw h i j k' = h k := by
  by_cases e1 : k = i
  · subst e1; exact ⟨j, hj, sw_right⟩
  · by_cases e2 : k = j
    · subst e2; exact ⟨i, hi, sw_left⟩
    · exact ⟨k, hk, sw_other e1 e2⟩
theorem Win.sw {lo t : Nat} (hw : Win h n lo t) (hi : i < n) (hj : j < n) : Win (sw h i j) n lo t := by
  refine ⟨fun k hk => ?_, fun x h1 h2 => ?_⟩
  · obtain ⟨k', hk', e⟩ := sw_place (h := h) hi hj hk
    rw [e]
    exact hw.1 k' hk'
  · obtain ⟨k, hk, e⟩ := hw.2 x h1 h2
    obtain ⟨k', hk', e'⟩ := sw_back (h := h) hi hj hk
    exact ⟨k', hk', e'.trans e⟩
theorem heapBut_init (hh : IsHeap h (n + 1)) : HeapBut (sw h 0 n) n 0 := by
  refine ⟨fun k h0 hk hp => ?_, fun h0 => by omega⟩
  rw [sw_other (h := h) hp (by omega), sw_other (h := h) (by omega) (by omega)]
  exact hh k h0 (by omega)
theorem heapBut_leaf (hb : HeapBut h n i) (hl : n ≤ 2 * i + 1) : IsHeap h n := by
  intro k h0 hk
  exact hb.1 k h0 hk (by omega)
theorem heapBut_stop (hb : HeapBut h n i) (hl : ∀ k, 0 < k → k < n → (k - 1) / 2 = i → h i < h k) : IsHeap h n := by
  intro k h0 hk
  by_cases e : (k - 1) / 2 = i
  · rw [e]; exact hl k h0 hk e
  · exact hb.1 k h0 hk e
theorem heapBut_swap (hb : HeapBut h n i) (hinj : ∀ a b, a < n → b < n → h a = h b → a = b) (hj0 : 0 < j) (hj : j < n) (hp : (j - 1) / 2 = i) (hlt : h j < h i) (hmin : ∀ k, 0 < k → k < n → (k - 1) / 2 = i → h j ≤ h k) : HeapBut (sw h i j) n j := by
  have hij : i < j := by omega
  refine ⟨fun k h0 hk hpk => ?_, fun _ k h0 hk hpk => ?_⟩
  · by_cases e1 : k = i
    · subst e1
      rw [sw_left, sw_other (h := h) (by omega) hpk]
      exact hb.2 h0 j hj0 hj hp
    · by_cases e2 : k = j
      · subst e2
        rw [hp, sw_left, sw_right]
        exact hlt
      · rw [sw_other (k := k) e1 e2]
        by_cases e3 : (k - 1) / 2 = i
        · rw [e3, sw_left]
          have h1 := hmin k h0 hk e3
          have h2 : h j ≠ h k := fun e => e2 (hinj k j hk hj e.symm)
          omega
        · rw [sw_other (h := h) e3 hpk]
          exact hb.1 k h0 hk e3
  · rw [hp, sw_left, sw_other (h := h) (k := k) (by omega) (by omega)]
    have := hb.1 k h0 hk (by omega)
    rw [hpk] at this
    exact this
/-- The least taken away. -/
theorem Win.pop {lo t : Nat} (hw : Win h (n + 1) lo t) (hn : h n = lo) (hinj : ∀ a b, a < n + 1 → b < n + 1 → h a = h b → a = b) : Win h n (lo + 1) t := by
  refine ⟨fun k hk => ?_, fun x h1 h2 => ?_⟩
  · have h1 := hw.1 k (by omega)
    have h2 : h k ≠ lo := fun e => by
      have := hinj k n (by omega) (by omega) (by omega)
      omega
    omega
  · obtain ⟨k, hk, e⟩ := hw.2 x (by omega) h2
    refine ⟨k, ?_, e⟩
    by_cases e2 : k = n
    · subst e2; omega
    · omega
/-- The newest laid behind. -/
theorem Win.push {lo t : Nat} (hw : Win h n lo t) (hl : lo ≤ t) : Win (fun k => if k = n then t else h k) (n + 1) lo (t + 1) := by
  refine ⟨fun k hk => ?_, fun x h1 h2 => ?_⟩
  · show lo ≤ (if k = n then t else h k) ∧ (if k = n then t else h k) < t + 1
    split
    · omega
    · have := hw.1 k (by omega); omega
  · by_cases e : x = t
    · exact ⟨n, by omega, by simp [e]⟩
    · obtain ⟨k, hk, e'⟩ := hw.2 x h1 (by omega)
      exact ⟨k, by omega, by simp [e', show k ≠ n by omega]⟩
theorem heap_push {lo t : Nat} (hh : IsHeap h n) (hw : Win h n lo t) : IsHeap (fun k => if k = n then t else h k) (n + 1) := by
  intro k h0 hk
  show (if (k - 1) / 2 = n then t else h ((k - 1) / 2)) < (if k = n then t else h k)
  rw [if_neg (by omega)]
  split
  · exact (hw.1 _ (by omega)).2
  · exact hh k h0 (by omega)
end
end Go.Proofs.Qxb6612455a
