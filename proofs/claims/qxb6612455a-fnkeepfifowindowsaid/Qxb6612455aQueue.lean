/-
  THE QUEUE's METHODS.
-/
import Derived.Test.Qxb6612455aState
namespace Go.Proofs.Qxb6612455a
open Go.RowKit

section
variable {E : Env} {w : World} {q : Value} {held lo c clock : Nat} {ix h : Nat → Nat} {n t g cap : Nat}

theorem Mem.rowCell (m : Mem E w (.slice (some ⟨g, 0, none⟩) n cap) held lo c clock ix h n t) {i : Nat} (hi : i < n) : w.cell? ⟨g, i, none⟩ = some (.pointer (some ⟨E.kb (h i), 0, none⟩)) := by
  rw [m.row.cellAt i (by omega), prow_get E h n i hi]; rfl

theorem Mem.drewN (m : Mem E w q held lo c clock ix h n t) (k : Nat) : Mem E (w.drewN k) q held lo c clock ix h n t :=
  { m with bel := ⟨m.bel.os, m.bel.tape, m.bel.output, m.bel.size, m.bel.block⟩ }
theorem len_any (n cap : Nat) (a : Option Addr) (w : World) : Calls Try.prog 55 #[.slice a n cap] w fun e w' => e = .returned (.int .i64 (n : Int)) ∧ w' = w := by
  go_enter Try.func55, Try.ntmps55
  go_wp2
  go_ret
  exact ⟨rfl, rfl⟩

def LessPost (E : Env) (q : Value) (held lo c clock : Nat) (ix h : Nat → Nat) (n t i j : Nat) (e : Ending) (w' : World) : Prop := e = .returned (.bool (decide (h i < h j))) ∧ Mem E w' q held lo c clock ix h n t

set_option maxRecDepth 100000 in
theorem less_any (m : Mem E w (.slice (some ⟨g, 0, none⟩) n cap) held lo c clock ix h n t) {i j : Nat} (hi : i < n) (hj : j < n) :
    Calls Try.prog 56 #[.slice (some ⟨g, 0, none⟩) n cap, .int .i64 i, .int .i64 j] w (LessPost E (.slice (some ⟨g, 0, none⟩) n cap) held lo c clock ix h n t i j) := by
  have ci := m.rowCell hi
  have cj := m.rowCell hj
  have ki2 := (m.bk _ (m.lts i hi)).cell (j := 2) rfl
  have kj2 := (m.bk _ (m.lts j hj)).cell (j := 2) rfl
  have ki3 := (m.bk _ (m.lts i hi)).cell (j := 3) rfl
  have kj3 := (m.bk _ (m.lts j hj)).cell (j := 3) rfl
  have HM : Hid (Mem E w (.slice (some ⟨g, 0, none⟩) n cap) held lo c clock ix h n t) := m
  clear m
  go_enter Try.func56, Try.ntmps56
  go_wp2
  go_quiet (fail)
  go_wp2
  go_quiet (fail)
  go_wp2
  go_quiet (fail)
  go_wp2
  go_ret
  exact ⟨rfl, (HM.out.drewN _).drewN _⟩

def QPost (E : Env) (q : Value) (held lo c clock : Nat) (h : Nat → Nat) (n t : Nat) (e : Ending) (w' : World) : Prop := e = .returned (.tuple #[]) ∧ ∃ ix, Mem E w' q held lo c clock ix h n t ∧ ∀ k, k < n → ix (h k) = k

set_option maxRecDepth 100000 in
theorem swap_any (m : Mem E w (.slice (some ⟨g, 0, none⟩) n cap) held lo c clock ix h n t) (hx : ∀ k, k < n → ix (h k) = k) {i j : Nat} (hi : i < n) (hj : j < n) (hij : i ≠ j) :
    Calls Try.prog 57 #[.slice (some ⟨g, 0, none⟩) n cap, .int .i64 i, .int .i64 j] w (QPost E (.slice (some ⟨g, 0, none⟩) n cap) held lo c clock (sw h i j) n t) := by
  have ci := m.rowCell hi
  have cj := m.rowCell hj
  have fi := m.row.frozenAt i
  have fj := m.row.frozenAt j
  have HM : Hid (Mem E w (.slice (some ⟨g, 0, none⟩) n cap) held lo c clock ix h n t) := m
  clear m
  go_enter Try.func57, Try.ntmps57
  go_wp2
  go_region
  have m1 := (HM.out.swapRow hi hj).drew
  unfold kp at m1
  generalize ((w.setCell ⟨g, i, none⟩ (.pointer (some ⟨E.kb (h j), 0, none⟩))).setCell ⟨g, j, none⟩ (.pointer (some ⟨E.kb (h i), 0, none⟩))).drew = w1 at m1 ⊢
  clear ci cj fi fj
  have hti : h i < t := HM.out.lts i hi
  have htj : h j < t := HM.out.lts j hj
  have ci := m1.rowCell hi
  have cj := m1.rowCell hj
  have s1 : sw h i j i = h j := by simp [sw]
  have s2 : sw h i j j = h i := by simp [sw]; intro e; exact absurd e.symm hij
  rw [s1] at ci
  rw [s2] at cj
  have ki := (m1.bk _ htj).cell (j := 4) rfl
  have kj := (m1.bk _ hti).cell (j := 4) rfl
  have fi := (m1.bk _ htj).free 4
  have fj := (m1.bk _ hti).free 4
  have hkb : E.kb (h j) ≠ E.kb (h i) := fun e => hij (by rw [← hx i hi, ← hx j hj, m1.kb_inj htj hti e])
  have HM1 : Hid (Mem E w1 (.slice (some ⟨g, 0, none⟩) n cap) held lo c clock ix (sw h i j) n t) := m1
  clear m1 s1 s2 HM
  have HX : Hid (∀ k, k < n → ix (h k) = k) := hx
  clear hx
  go_wp2
  go_region
  go_wp2
  go_end0
  refine ⟨rfl, _, ((HM1.out.setIx htj i).setIx hti j).drew, fun k hk => ?_⟩
  have hne : h i ≠ h j := fun e => hij (by rw [← HX.out i hi, ← HX.out j hj, e])
  have hxk := HX.out k hk
  simp only [sw]
  by_cases e1 : k = i
  · subst e1; simp [Ne.symm hne]
  · by_cases e2 : k = j
    · subst e2; simp [e1]
    · have n1 : h k ≠ h i := fun e => e1 (by rw [← HX.out i hi, ← hxk, e])
      have n2 : h k ≠ h j := fun e => e2 (by rw [← HX.out j hj, ← hxk, e])
      simp [e1, e2, n1, n2, hxk]

def PopPost (E : Env) (g cap : Nat) (held lo c clock : Nat) (ix h : Nat → Nat) (n t : Nat) (e : Ending) (w' : World) : Prop := ∃ v, e = .returned v ∧ Mem E w' (.slice (some ⟨g, 0, none⟩) n cap) held lo c clock ix h n t

set_option maxRecDepth 100000 in
theorem pop_any (m : Mem E w (.slice (some ⟨g, 0, none⟩) (n + 1) cap) held lo c clock ix h (n + 1) t) (hn : n ≤ 1000000) :
    Calls Try.prog 58 #[.pointer (some ⟨E.C, 5, none⟩)] w (PopPost E g cap held lo c clock ix h n t) := by
  have ci := m.rowCell (i := n) (by omega)
  have fi := m.row.frozenAt n
  have cc := m.bC.cell (j := 5) rfl
  have fc := m.bC.free 5
  have hcap : n + 1 ≤ cap := by
    rcases m.row.2 with ⟨h0, _⟩ | ⟨g', cap', cur, hv, _, _, hle, _⟩
    · cases h0
    · cases hv; exact hle
  have hne : g ≠ E.C := m.row_ne_C rfl
  have HM : Hid (Mem E w (.slice (some ⟨g, 0, none⟩) (n + 1) cap) held lo c clock ix h (n + 1) t) := m
  clear m
  go_enter Try.func58, Try.ntmps58
  go_wp2
  go_quiet (fail)
  go_wp2
  go_region
  go_wp2
  go_region
  go_wp2
  go_ret
  exact ⟨_, rfl, ((HM.out.drewN _).pop).drew⟩

theorem assert27 (v : Value) (W : World) : (Instr.typeAssert (.iface 27 v) 20 27 false).run Try.prog W = .ok v W := by kernel_rfl
theorem info27 : (Try.prog.info? 27).map (fun i => (i.zero, i.size, i.bytes)) = some (some (.pointer none), 1, 8) := by kernel_rfl

set_option maxRecDepth 100000 in
theorem push_any (m : Mem E w q held lo c clock ix h n t) (hq : ∃ a cap, q = .slice a n cap) (hx : ∀ k, k < n → ix (h k) = k) (hn : n ≤ 1000000) (x : Nat) (hxt : x < t) (hfresh : ∀ k, k < n → h k ≠ x) :
    Calls Try.prog 59 #[.pointer (some ⟨E.C, 5, none⟩), .iface 27 (.pointer (some ⟨E.kb x, 0, none⟩))] w (fun e w' => ∃ g cap, QPost E (.slice (some ⟨g, 0, none⟩) (n + 1) cap) held lo c clock (fun k => if k = n then x else h k) (n + 1) t e w') := by
  obtain ⟨a, cap0, rfl⟩ := hq
  have cc := m.bC.cell (j := 5) rfl
  have fc := m.bC.free 5
  have kx := (m.bk _ hxt).cell (j := 4) rfl
  have fx := (m.bk _ hxt).free 4
  have hne : E.kb x ≠ E.C := m.kb_ne_C hxt
  have HM : Hid (Mem E w (.slice a n cap0) held lo c clock ix h n t) := m
  have hta := assert27 (.pointer (some ⟨E.kb x, 0, none⟩))
  obtain ⟨i0, hi, hz0, hz1, hz2⟩ := info_parts info27
  have m1 := m.setIx hxt n
  have hown := m1.row.alloc (.cells #[.pointer (some ⟨E.kb x, 0, none⟩)] 27)
  have hBw : E.w0.heap.size ≤ w.heap.size := m.bel.size
  have hszC : E.C < w.heap.size := m.bC.lt
  have HM1 : Hid (Mem E (w.setCell ⟨E.kb x, 4, none⟩ (.int .i64 (n : Int))) (.slice a n cap0) held lo c clock (fun i => if i = x then n else ix i) h n t) := m1
  clear m m1 HM
  go_enter Try.func59, Try.ntmps59
  go_wp2_with (at_builtin; refine wpList_append_own _ rfl (.tmp 17) (.tmp 19) 72 rfl E.w0.heap.size 27 i0 _ 1 8 Try.underlying72 hi hz0 hz1 hz2 rfl (by decide) (.slice a n cap0) n (prow E h n) rfl hown ⟨w.heap.size, 0, none⟩ 1 1 [.pointer (some ⟨E.kb x, 0, none⟩)] rfl rfl ?c1 ?c2 ?c3 ?c4 ?c5 ?_)
  case c1 =>
    intro j u hj
    match j, hj with
    | 0, hj =>
      simp at hj
      subst hj
      have e := World.cell?_alloc_new (w.setCell ⟨E.kb x, 4, none⟩ (.int .i64 (n : Int))) #[.pointer (some ⟨E.kb x, 0, none⟩)] 27 0
      rw [show (w.setCell ⟨E.kb x, 4, none⟩ (.int .i64 (n : Int))).heap.size = w.heap.size from by simp] at e
      simpa [Addr.add] using e
  case c2 => intro u hu; simp at hu; subst hu; rfl
  case c3 => unfold maxLen; omega
  case c4 => omega
  case c5 => simp; omega
  intro v' w2 hown' hgrow _
  obtain ⟨g, cap', rfl⟩ := own_form hown' (by omega)
  have hblk : ∀ k, k < (w.setCell ⟨E.kb x, 4, none⟩ (.int .i64 (n : Int))).heap.size → (Value.slice a n cap0).ownBlock ≠ some k → w2.heap[k]? = (w.setCell ⟨E.kb x, 4, none⟩ (.int .i64 (n : Int))).heap[k]? :=
    fun k hk hne => (hgrow.block k (by simp at hk ⊢; omega) fun e => hne e.symm).trans (Below.heap_alloc _ _ k hk)
  have hbel : Below E.w0.heap.size E.w0 w2 := by
    refine ((HM1.out.bel.alloc (by simpa using hBw) _).grown hgrow (by simp; omega) fun k e => ?_)
    exact (hown.lt k e).1
  have HC : At w2 E.C 80 (ccells E (.slice a n cap0) held) := HM1.out.bC.of_block (hblk E.C HM1.out.bC.lt fun e => HM1.out.row_ne_C e rfl)
  have d0 := HC.cell (j := 5) rfl
  have df := HC.free 5
  have HM2 : Hid (Mem E (w2.setCell ⟨E.C, 5, none⟩ (.slice (some ⟨g, 0, none⟩) (n + 1) cap')) (.slice (some ⟨g, 0, none⟩) (n + 1) cap') held lo c clock (fun i => if i = x then n else ix i) (fun k => if k = n then x else h k) (n + 1) t) := HM1.out.appended rfl hxt hown' hbel hblk
  have HX : Hid (∀ k, k < n + 1 → (fun i => if i = x then n else ix i) ((fun k => if k = n then x else h k) k) = k) := by
    intro k hk
    by_cases e : k = n
    · subst e; simp
    · have h1 := hfresh k (by omega)
      have h2 := hx k (by omega)
      simp [e, h1, h2]
  clear hown' hgrow HC HM1 hown hbel hblk hx hfresh
  go_wp2
  go_end0
  exact ⟨_, _, rfl, _, HM2.out, HX.out⟩
end
end Go.Proofs.Qxb6612455a
