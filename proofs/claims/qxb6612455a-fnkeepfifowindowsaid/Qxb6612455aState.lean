/-
  THE CACHE IN MEMORY: its own block, its map, the kept layouts, the queue's row; and what each step does to them.
-/
import Derived.Test.Qxb6612455aMem
import Derived.MapKept
namespace Go.Proofs.Qxb6612455a
open Go.RowKit Go.MapKept

/-- What stands fixed: the law's world, the blocks, the texts. -/
structure Env where
  w0 : World
  C : Nat
  M : Nat
  W : Nat
  N : Nat
  n : Nat
  rest : List Value
  kb : Nat → Nat
  txt : Nat → ByteArray

/-- The cells of the cache. -/
def ccells (E : Env) (q : Value) (held : Nat) : List Value :=
  .slice (some ⟨E.N, 0, none⟩) E.n E.n :: .pointer none :: .nilFunc :: .pointer (some ⟨E.W, 0, none⟩) :: .map (some E.M) :: q :: .int .i64 (held : Int) :: .pointer none :: .int .i64 0 :: .pointer none :: E.rest
/-- The cells of the kept layout of text j. -/
def kcells (E : Env) (j ix : Nat) : List Value := [.pointer (some ⟨E.W, 0, none⟩), .string (E.txt j), .int .i64 (-1), .int .i64 ((j : Int) + 1), .int .i64 (ix : Int)]
/-- The pointer to it. -/
def kp (E : Env) (j : Nat) : Value := .pointer (some ⟨E.kb j, 0, none⟩)
/-- The row of the queue that holds h 0, .., h (n - 1). -/
def prow (E : Env) (h : Nat → Nat) (n : Nat) : List Value := (List.range n).map fun k => kp E (h k)

/-- The map's entries: the window from lo up to hi. -/
def ment (E : Env) (j : Nat) : MapEntry := { key := .string (E.txt j), val := kp E j, born := j }
def mes (E : Env) (lo c : Nat) : Array MapEntry := ((List.range' lo c).map (ment E)).toArray

/-- The memory of the cache: t kept layouts have been made, the map holds c texts from lo on; the queue holds h 0, .., h (n - 1). -/
structure Mem (E : Env) (w : World) (q : Value) (held lo c clock : Nat) (ix h : Nat → Nat) (n t : Nat) : Prop where
  bel : Below E.w0.heap.size E.w0 w
  gC : E.w0.heap.size ≤ E.C
  gM : E.w0.heap.size ≤ E.M
  gk : ∀ j, j < t → E.w0.heap.size ≤ E.kb j
  bC : At w E.C 80 (ccells E q held)
  bM : w.heap[E.M]? = some (.map (mes E lo c) clock)
  bk : ∀ j, j < t → At w (E.kb j) 82 (kcells E j (ix j))
  row : w.ownsRow E.w0.heap.size 27 1 q n (prow E h n)
  lts : ∀ k, k < n → h k < t

section
variable {E : Env} {w w' : World} {q : Value} {held lo c clock : Nat} {ix h : Nat → Nat} {n t : Nat}

theorem Mem.kb_inj (m : Mem E w q held lo c clock ix h n t) {i j : Nat} (hi : i < t) (hj : j < t) (e : E.kb i = E.kb j) : i = j := by
  have h1 := m.bk i hi
  rw [e] at h1
  have h2 := h1.inj (m.bk j hj)
  simp [kcells] at h2
  omega
theorem Mem.kb_ne_C (m : Mem E w q held lo c clock ix h n t) {j : Nat} (hj : j < t) : E.kb j ≠ E.C := (m.bk j hj).ne_ty m.bC (by decide)
theorem Mem.kb_ne_M (m : Mem E w q held lo c clock ix h n t) {j : Nat} (hj : j < t) : E.kb j ≠ E.M := (m.bk j hj).ne_map m.bM
theorem Mem.C_ne_M (m : Mem E w q held lo c clock ix h n t) : E.C ≠ E.M := m.bC.ne_map m.bM
theorem Mem.row_ne_C (m : Mem E w q held lo c clock ix h n t) {k : Nat} (hk : q.ownBlock = some k) : k ≠ E.C := by
  obtain ⟨cur, hc, _⟩ := row_block m.row k hk
  exact (m.bC.ne_ty hc (by decide)).symm
theorem Mem.row_ne_kb (m : Mem E w q held lo c clock ix h n t) {k : Nat} (hk : q.ownBlock = some k) {j : Nat} (hj : j < t) : k ≠ E.kb j := by
  obtain ⟨cur, hc, _⟩ := row_block m.row k hk
  exact ((m.bk j hj).ne_ty hc (by decide)).symm
theorem Mem.row_ne_M (m : Mem E w q held lo c clock ix h n t) {k : Nat} (hk : q.ownBlock = some k) : k ≠ E.M := by
  obtain ⟨cur, hc, _⟩ := row_block m.row k hk
  intro e
  subst e
  have := m.bM
  rw [hc] at this
  cases this

theorem Mem.drew (m : Mem E w q held lo c clock ix h n t) : Mem E w.drew q held lo c clock ix h n t :=
  { m with bel := m.bel.drew }

/-- A new index of the kept layout j. -/
theorem Mem.setIx (m : Mem E w q held lo c clock ix h n t) {j : Nat} (hj : j < t) (v : Nat) :
    Mem E (w.setCell ⟨E.kb j, 4, none⟩ (.int .i64 (v : Int))) q held lo c clock (fun i => if i = j then v else ix i) h n t := by
  refine ⟨m.bel.setCell (m.gk j hj) _, m.gC, m.gM, m.gk, m.bC.other (m.kb_ne_C hj).symm _, ?_, fun i hi => ?_, ?_, m.lts⟩
  · rw [heap_setCell_other _ _ _ _ (m.kb_ne_M hj).symm]; exact m.bM
  · by_cases e : i = j
    · subst e
      have := (m.bk i hj).set 4 (.int .i64 (v : Int))
      simpa [kcells] using this
    · simp only [if_neg e]
      exact (m.bk i hi).other (fun e2 => e (m.kb_inj hi hj e2)) _
  · exact ownsRow_of_block m.row fun k hk => heap_setCell_other _ _ _ _ (m.row_ne_kb hk hj)

/-- The count of what is held. -/
theorem Mem.setHeld (m : Mem E w q held lo c clock ix h n t) (v : Nat) : Mem E (w.setCell ⟨E.C, 6, none⟩ (.int .i64 (v : Int))) q v lo c clock ix h n t := by
  refine ⟨m.bel.setCell m.gC _, m.gC, m.gM, m.gk, ?_, ?_, fun i hi => (m.bk i hi).other (m.kb_ne_C hi) _, ?_, m.lts⟩
  · have := m.bC.set 6 (.int .i64 (v : Int))
    simpa [ccells] using this
  · rw [heap_setCell_other _ _ _ _ m.C_ne_M.symm]; exact m.bM
  · exact ownsRow_of_block m.row fun k hk => heap_setCell_other _ _ _ _ (m.row_ne_C hk)

/-- Places i and j exchanged. -/
def sw (h : Nat → Nat) (i j : Nat) : Nat → Nat := fun k => if k = i then h j else if k = j then h i else h k
theorem prow_sw (E : Env) (h : Nat → Nat) (n i j : Nat) : ((prow E h n).set i (kp E (h j))).set j (kp E (h i)) = prow E (sw h i j) n := by
  apply List.ext_getElem?
  intro k
  simp only [prow, List.getElem?_set, List.getElem?_map, List.length_set, List.length_map, List.length_range, sw]
  by_cases hk : k < n
  · by_cases e1 : j = k
    · subst e1
      by_cases e2 : j = i
      · subst e2; simp [hk]
      · simp [hk, e2]
    · by_cases e2 : i = k
      · subst e2; simp [hk, e1]
      · simp [hk, e1, e2, Ne.symm e1, Ne.symm e2]
  · by_cases e1 : j = k
    · subst e1; simp [hk]
    · by_cases e2 : i = k
      · subst e2; simp [hk, e1]
      · simp [hk, e1, e2]
theorem Mem.swapRow {g cap : Nat} (m : Mem E w (.slice (some ⟨g, 0, none⟩) n cap) held lo c clock ix h n t) {i j : Nat} (hi : i < n) (hj : j < n) :
    Mem E ((w.setCell ⟨g, i, none⟩ (kp E (h j))).setCell ⟨g, j, none⟩ (kp E (h i))) (.slice (some ⟨g, 0, none⟩) n cap) held lo c clock ix (sw h i j) n t := by
  have hg := (m.row.lt g rfl).1
  have nC : g ≠ E.C := m.row_ne_C rfl
  have nM : g ≠ E.M := m.row_ne_M rfl
  have nk : ∀ x, x < t → g ≠ E.kb x := fun x hx => m.row_ne_kb rfl hx
  refine ⟨(m.bel.setCell hg _).setCell hg _, m.gC, m.gM, m.gk, (m.bC.other nC.symm _).other nC.symm _, ?_, fun x hx => ((m.bk x hx).other (nk x hx).symm _).other (nk x hx).symm _, ?_, fun k hk => ?_⟩
  · rw [heap_setCell_other _ _ _ _ nM.symm, heap_setCell_other _ _ _ _ nM.symm]; exact m.bM
  · rw [← prow_sw]
    exact ((m.row.stored i _).1.stored j _).1
  · unfold sw
    split
    · exact m.lts j hj
    · split
      · exact m.lts i hi
      · exact m.lts k hk

theorem prow_get (E : Env) (h : Nat → Nat) (n k : Nat) (hk : k < n) : (prow E h n)[k]? = some (kp E (h k)) := by
  simp [prow, hk]
theorem prow_succ (E : Env) (h : Nat → Nat) (n : Nat) : prow E h (n + 1) = prow E h n ++ [kp E (h n)] := by
  simp [prow, List.range_succ]
theorem prow_congr (E : Env) {h h' : Nat → Nat} (n : Nat) (e : ∀ k, k < n → h k = h' k) : prow E h n = prow E h' n := by
  unfold prow
  apply List.map_congr_left
  intro k hk
  rw [e k (by simpa using hk)]

/-- The last place let go: the row's cell is cleared, the slice is one shorter. -/
theorem Mem.pop {g cap : Nat} (m : Mem E w (.slice (some ⟨g, 0, none⟩) (n + 1) cap) held lo c clock ix h (n + 1) t) :
    Mem E ((w.setCell ⟨g, n, none⟩ (.pointer none)).setCell ⟨E.C, 5, none⟩ (.slice (some ⟨g, 0, none⟩) n cap)) (.slice (some ⟨g, 0, none⟩) n cap) held lo c clock ix h n t := by
  have hg := (m.row.lt g rfl).1
  have nC : g ≠ E.C := m.row_ne_C rfl
  have nM : g ≠ E.M := m.row_ne_M rfl
  have nk : ∀ x, x < t → g ≠ E.kb x := fun x hx => m.row_ne_kb rfl hx
  refine ⟨(m.bel.setCell hg _).setCell m.gC _, m.gC, m.gM, m.gk, ?_, ?_, fun x hx => ((m.bk x hx).other (nk x hx).symm _).other (m.kb_ne_C hx) _, ?_, fun k hk => m.lts k (by omega)⟩
  · have := (m.bC.other (a := ⟨g, n, none⟩) nC.symm (.pointer none)).set 5 (.slice (some ⟨g, 0, none⟩) n cap)
    simpa [ccells] using this
  · rw [heap_setCell_other _ _ _ _ m.C_ne_M.symm, heap_setCell_other _ _ _ _ nM.symm]; exact m.bM
  · refine ownsRow_of_block (w := w.setCell ⟨g, n, none⟩ (.pointer none)) (ownsRow_pop (last := [.pointer none]) (by simp [prow]) ?_) fun k hk => heap_setCell_other _ _ _ _ (by simp [Value.ownBlock] at hk; subst hk; exact nC)
    have := (m.row.stored n (.pointer none)).1
    rw [prow_succ, List.set_append_right _ _ (by simp [prow])] at this
    simpa [prow] using this

/-- A new place behind the last. -/
theorem Mem.appended {g cap : Nat} {q' : Value} (m : Mem E w q held lo c clock ix h n t) (hq : q' = .slice (some ⟨g, 0, none⟩) (n + 1) cap) {x : Nat} (hx : x < t) (hown : w'.ownsRow E.w0.heap.size 27 1 q' (n + 1) (prow E h n ++ [kp E x])) (hb : Below E.w0.heap.size E.w0 w')
    (hblk : ∀ k, k < w.heap.size → q.ownBlock ≠ some k → w'.heap[k]? = w.heap[k]?) :
    Mem E (w'.setCell ⟨E.C, 5, none⟩ q') q' held lo c clock ix (fun k => if k = n then x else h k) (n + 1) t := by
  subst hq
  have kC := hblk E.C m.bC.lt fun e => m.row_ne_C e rfl
  have kM := hblk E.M (Array.getElem?_eq_some_iff.1 m.bM).1 fun e => m.row_ne_M e rfl
  have kk := fun j hj => hblk (E.kb j) (m.bk j hj).lt fun e => m.row_ne_kb e hj rfl
  have gC : g ≠ E.C := by
    obtain ⟨cur, hc, _⟩ := row_block hown g rfl
    exact ((m.bC.of_block kC).ne_ty hc (by decide)).symm
  refine ⟨hb.setCell m.gC _, m.gC, m.gM, m.gk, ?_, ?_, fun j hj => ((m.bk j hj).of_block (kk j hj)).other (m.kb_ne_C hj) _, ?_, fun k hk => ?_⟩
  · have := (m.bC.of_block kC).set 5 (.slice (some ⟨g, 0, none⟩) (n + 1) cap)
    simpa [ccells] using this
  · rw [heap_setCell_other _ _ _ _ m.C_ne_M.symm, kM]; exact m.bM
  · have e : prow E (fun k => if k = n then x else h k) (n + 1) = prow E h n ++ [kp E x] := by
      rw [prow_succ, prow_congr E n (h' := h) fun k hk => if_neg (by omega)]
      simp
    rw [e]
    exact ownsRow_of_block hown fun k hk => heap_setCell_other _ _ _ _ (by simp [Value.ownBlock] at hk; subst hk; exact gC)
  · show (if k = n then x else h k) < t
    split
    · exact hx
    · exact m.lts k (by omega)

/-- The map's content changed. -/
def putM (w : World) (M : Nat) (es : Array MapEntry) (clock : Nat) : World := { w with heap := w.heap.setIfInBounds M (.map es clock) }
theorem Mem.putM (m : Mem E w q held lo c clock ix h n t) (lo' c' clock' : Nat) : Mem E (putM w E.M (mes E lo' c') clock') q held lo' c' clock' ix h n t := by
  have hs := heap_set (o' := .map (mes E lo' c') clock') m.bM
  refine ⟨⟨m.bel.os, m.bel.tape, m.bel.output, by simpa [Go.Proofs.Qxb6612455a.putM] using m.bel.size, fun k hk => (hs.2 k (by have := m.gM; omega)).trans (m.bel.block k hk)⟩, m.gC, m.gM, m.gk, m.bC.of_block (hs.2 _ m.C_ne_M), hs.1, fun j hj => (m.bk j hj).of_block (hs.2 _ (m.kb_ne_M hj)), ?_, m.lts⟩
  exact ownsRow_of_block m.row fun k hk => hs.2 _ (m.row_ne_M hk)
end

/-! ### The map -/
theorem mes_push (E : Env) (lo c : Nat) : (mes E lo c).push (ment E (lo + c)) = mes E lo (c + 1) := by
  unfold mes
  rw [List.range'_1_concat]
  simp
theorem mes_erase (E : Env) (lo c : Nat) : (mes E lo (c + 1)).eraseIdxIfInBounds 0 = mes E (lo + 1) c := by
  unfold mes
  rw [List.range'_succ, List.eraseIdxIfInBounds_toArray]
  rfl
theorem key_mes (E : Env) (lo c : Nat) : ∀ x ∈ (mes E lo c).toList, IsKey .string x.key := by
  intro x hx
  simp [mes] at hx
  obtain ⟨j, _, rfl⟩ := hx
  exact trivial
theorem find_absent (E : Env) (lo c j : Nat) (hd : ∀ i, lo ≤ i → i < lo + c → E.txt i ≠ E.txt j) : Instr.findNow .string (.string (E.txt j)) (mes E lo c).toList 0 = some none := by
  rcases findNow_spec (d := .string) (k := .string (E.txt j)) trivial (mes E lo c).toList 0 (key_mes E lo c) with ⟨h1, _⟩ | ⟨i, e, _, h2, h3⟩
  · exact h1
  · exfalso
    have := List.mem_of_getElem? h2
    simp [mes] at this
    obtain ⟨a, ⟨ha, hb⟩, rfl⟩ := this
    simp [ment] at h3
    exact hd a ha hb h3
theorem find_present (E : Env) (lo c j : Nat) (hlo : lo ≤ j) (hj : j < lo + c) (hd : ∀ i, lo ≤ i → i < lo + c → E.txt i = E.txt j → i = j) : Instr.findNow .string (.string (E.txt j)) (mes E lo c).toList 0 = some (some (j - lo, kp E j)) := by
  rcases findNow_spec (d := .string) (k := .string (E.txt j)) trivial (mes E lo c).toList 0 (key_mes E lo c) with ⟨_, h2⟩ | ⟨i, e, h1, h2, h3⟩
  · exfalso
    refine h2 (ment E j) ?_ rfl
    simp [mes]
    exact ⟨j, ⟨hlo, hj⟩, rfl⟩
  · rw [h1]
    simp only [mes, List.getElem?_map] at h2
    have hic : i < c := by
      by_cases h : i < c
      · exact h
      · simp [h] at h2
    simp [hic] at h2
    subst h2
    simp [ment] at h3
    have := hd (lo + i) (by omega) (by omega) h3
    subst this
    simp [ment]

section
variable {E : Env} {w : World} {lo c clock : Nat}
theorem run_update (hb : w.heap[E.M]? = some (.map (mes E lo c) (lo + c))) (hd : ∀ i, lo ≤ i → i < lo + c → E.txt i ≠ E.txt (lo + c)) :
    (Instr.mapUpdate 68 (.map (some E.M)) (.string (E.txt (lo + c))) (kp E (lo + c))).run Try.prog w = .ok () (putM w E.M (mes E lo (c + 1)) (lo + c + 1)) := by
  have h1 := run_findKey (P := Try.prog) (w := w) Try.underlying9 (find_absent E lo c (lo + c) hd)
  have h2 : (Instr.checkKey false 10000 9 (.string (E.txt (lo + c)))).run Try.prog w = .ok () w := run_checkKey (k := .string _) Try.underlying9 trivial false 9999
  have h3 := run_setObj_map (P := Try.prog) (.map (mes E lo (c + 1)) (lo + c + 1)) hb
  unfold Instr.mapUpdate
  rw [← mes_push] at h3 ⊢
  simp only [Sem.run_bind, run_underlying Try.underlying68, Result.andThen_ok, Go.MapKept.run_getObj_map hb, h1, h2]
  exact h3
theorem run_delete (ty : TypeId) (hb : w.heap[E.M]? = some (.map (mes E lo (c + 1)) clock)) (hd : ∀ i, lo ≤ i → i < lo + (c + 1) → E.txt i = E.txt lo → i = lo) :
    (Builtin.delete_ #[68, 9] ty #[.map (some E.M), .string (E.txt lo)]).run Try.prog w = .ok (.tuple #[]) (putM w E.M (mes E (lo + 1) c) clock) := by
  have h1 := run_findKey (P := Try.prog) (w := w) Try.underlying9 (find_present E lo (c + 1) lo (Nat.le_refl _) (by omega) hd)
  have h2 : ∀ b, (Instr.checkKey b 10000 9 (.string (E.txt lo))).run Try.prog w = .ok () w := fun b => run_checkKey (k := .string _) Try.underlying9 trivial b 9999
  have h3 := run_setObj_map (P := Try.prog) (.map (mes E (lo + 1) c) clock) hb
  rw [← mes_erase] at h3 ⊢
  rw [Nat.sub_self] at h1
  simp [Builtin.delete_, run_underlying Try.underlying68, Go.MapKept.run_getObj_map hb, h1, h2, h3, putM]
theorem run_get (hb : w.heap[E.M]? = some (.map (mes E lo c) clock)) {j : Nat} (hlo : lo ≤ j) (hj : j < lo + c) (hd : ∀ i, lo ≤ i → i < lo + c → E.txt i = E.txt j → i = j) :
    (Instr.lookup 68 (.map (some E.M)) (.string (E.txt j)) false).run Try.prog w = .ok (kp E j) w := by
  have h1 := run_findKey (P := Try.prog) (w := w) Try.underlying9 (find_present E lo c j hlo hj hd)
  have h2 : ∀ b, (Instr.checkKey b 10000 9 (.string (E.txt j))).run Try.prog w = .ok () w := fun b => run_checkKey (k := .string _) Try.underlying9 trivial b 9999
  simp [Instr.lookup, run_underlying Try.underlying68, Go.MapKept.run_getObj_map hb, h1, h2]
theorem run_get_none (hb : w.heap[E.M]? = some (.map (mes E lo c) clock)) {j : Nat} (hd : ∀ i, lo ≤ i → i < lo + c → E.txt i ≠ E.txt j) :
    (Instr.lookup 68 (.map (some E.M)) (.string (E.txt j)) false).run Try.prog w = .ok (.pointer none) w := by
  have h1 := run_findKey (P := Try.prog) (w := w) Try.underlying9 (find_absent E lo c j hd)
  have h2 : ∀ b, (Instr.checkKey b 10000 9 (.string (E.txt j))).run Try.prog w = .ok () w := fun b => run_checkKey (k := .string _) Try.underlying9 trivial b 9999
  simp [Instr.lookup, run_underlying Try.underlying68, Go.MapKept.run_getObj_map hb, h1, h2]
theorem run_lenM (ty : TypeId) (hb : w.heap[E.M]? = some (.map (mes E lo c) clock)) : (Builtin.len_ #[68] ty #[.map (some E.M)]).run Try.prog w = .ok (.int .i64 (c : Int)) w := by
  simp [Builtin.len_, run_underlying Try.underlying68, Go.MapKept.run_getObj_map hb, mes, goInt]
end
end Go.Proofs.Qxb6612455a
