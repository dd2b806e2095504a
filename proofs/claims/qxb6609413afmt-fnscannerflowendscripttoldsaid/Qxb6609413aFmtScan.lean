/-
  THE SCANNER IN MEMORY, and the methods on the road.
-/
import Derived.Test.Qxb6609413aFmtMakes
import Derived.Deep.QuietTactic
import Derived.BigQuiet
import Derived.WalkSmall
import Derived.Deep.RegionHeldLaw
namespace Go.Proofs.Qxb6609413aFmt
open Go.RowKit

def scells (p l c : Int) (q k : Value) (m : Int) (en an : Bool) : List Value :=
  [.string ByteArray.empty, .int .i64 p, .int .i64 l, .int .i64 c, q, .int .i64 0, .bool false, .slice none 0 0, k, .int .i64 m, .int .i64 0, .bool en, .bool an, .bool false, .bool false, .pointer none, .slice none 0 0]

/-- The scanner at block S: its fields, its row of keys (block S + 1), its queue (in blocks from S + 2 on). All of it lies in blocks from B on. -/
structure Scan (w : World) (B S : Nat) (p l c m : Int) (en an : Bool) (kcap : Nat) (ks : List Key) (q : Value) (ts : List Tok) : Prop where
  hS : B ≤ S
  kle : ks.length ≤ kcap
  blk : Blk w S (scells p l c q (.slice (some ⟨S + 1, 0, none⟩) ks.length kcap) m en an)
  keys : Own w (S + 1) 5 kc ks
  queue : w.ownsRow (S + 2) 68 7 q ts.length (ts.flatMap qc)

section
variable {w : World} {B S : Nat} {p l c m : Int} {en an : Bool} {kcap : Nat} {ks : List Key} {q : Value} {ts : List Tok}

theorem Scan.drewN (h : Scan w B S p l c m en an kcap ks q ts) (n : Nat) : Scan (w.drewN n) B S p l c m en an kcap ks q ts :=
  ⟨h.hS, h.kle, h.blk.of_block rfl, h.keys.of_block rfl, h.queue⟩
theorem Scan.qne (h : Scan w B S p l c m en an kcap ks q ts) {k : Nat} (hk : k < S + 2) : q.ownBlock ≠ some k := fun e => by
  have := (h.queue.lt k e).1
  omega
theorem below_drew_n (w : World) (B n : Nat) : Below B w (w.drewN n) := below_drewN (Below.refl _ _) n

theorem inFlow_any (h : Scan w B S p l c m en an kcap ks q ts) (hk : ks.length ≤ 26214) :
    Calls Tryf.prog 25 #[.pointer (some ⟨S, 0, none⟩)] w fun e w' => e = .returned (.bool (decide (1 < ks.length))) ∧ w' = w := by
  have c8 := h.blk.cell (j := 8) rfl
  clear h
  go_enter Tryf.func25, Tryf.ntmps25
  go_wp2
  go_ret
  exact ⟨by simp; omega, rfl⟩

theorem keyCount_any (h : Scan w B S p l c m en an kcap ks q ts) :
    Calls Tryf.prog 13 #[.pointer (some ⟨S, 0, none⟩)] w fun e w' => e = .returned (.int .i64 ks.length) ∧ w' = w := by
  have c8 := h.blk.cell (j := 8) rfl
  clear h
  go_enter Tryf.func13, Tryf.ntmps13
  go_wp2
  go_ret
  exact ⟨rfl, rfl⟩

theorem maybe_any (h : Scan w B S p l c m en an kcap ks q ts) :
    Calls Tryf.prog 17 #[.pointer (some ⟨S, 0, none⟩)] w fun e w' => e = .returned (.int .i64 m) ∧ w' = w := by
  have c9 := h.blk.cell (j := 9) rfl
  clear h
  go_enter Tryf.func17, Tryf.ntmps17
  go_wp2
  go_ret
  exact ⟨rfl, rfl⟩

theorem at_any (h : Scan w B S p l c m en an kcap ks q ts) :
    Calls Tryf.prog 14 #[.pointer (some ⟨S, 0, none⟩)] w fun e w' => e = .returned (.tuple #[.int .i64 p, .int .i64 l, .int .i64 c]) ∧ ∃ n, w' = w.drewN n := by
  have c1 := h.blk.cell (j := 1) rfl
  have c2 := h.blk.cell (j := 2) rfl
  have c3 := h.blk.cell (j := 3) rfl
  clear h
  go_enter Tryf.func14, Tryf.ntmps14
  go_wp2
  go_quiet (fail)
  go_wp2
  go_ret3
  exact ⟨rfl, _, rfl⟩

theorem flags_any (h : Scan w B S p l c m en an kcap ks q ts) :
    Calls Tryf.prog 20 #[.pointer (some ⟨S, 0, none⟩)] w fun e w' => e = .returned (.tuple #[.bool en, .bool an]) ∧ ∃ n, w' = w.drewN n := by
  have c1 := h.blk.cell (j := 11) rfl
  have c2 := h.blk.cell (j := 12) rfl
  clear h
  go_enter Tryf.func20, Tryf.ntmps20
  go_wp2
  go_quiet (fail)
  go_wp2
  go_ret2
  exact ⟨rfl, _, rfl⟩

/-- The key as no node may be one. -/
def dead (x : Key) : Key := { x with tok := -1 }

theorem Scan.forgot (h : Scan w B S p l c m en an kcap ks q ts) (j : Nat) (hj : j < ks.length) (m' : Int) :
    Scan ((w.setCell ⟨S + 1, j * 5, none⟩ (.int .i64 (-1))).setCell ⟨S, 9, none⟩ (.int .i64 m')) B S p l c m' en an kcap (ks.set j (dead ks[j])) q ts := by
  refine ⟨h.hS, by simpa using h.kle, ?_, ?_, ?_⟩
  · have hb := (h.blk.setOther (a := ⟨S + 1, j * 5, none⟩) (by simp) (.int .i64 (-1))).set 9 (.int .i64 m')
    rw [List.length_set]
    exact hb
  · exact (Own.setOne kc_len h.keys j hj 0 (by decide) _ (dead ks[j]) rfl).setOther (a := ⟨S, 9, none⟩) (by simp) _
  · exact ownsRow_setCell_other (ownsRow_setCell_other h.queue (h.qne (k := S + 1) (by omega)) _) (h.qne (k := S) (by omega)) _

theorem forget_any (h : Scan w B S p l c m en an kcap ks q ts) (j : Nat) (hj : j < ks.length) (hmust : ks[j].must = false) :
    Calls Tryf.prog 27 #[.pointer (some ⟨S, 0, none⟩), .pointer (some ⟨S + 1, j * 5, none⟩)] w fun e w' =>
      e = .returned (.tuple #[]) ∧ Scan w' B S p l c (wrap64 (m - 1)) en an kcap (ks.set j (dead ks[j])) q ts ∧ Below B w w' := by
  have hs := h.forgot j hj (wrap64 (m - 1))
  have hb : Below B w ((w.setCell ⟨S + 1, j * 5, none⟩ (.int .i64 (-1))).setCell ⟨S, 9, none⟩ (.int .i64 (wrap64 (m - 1)))) := ((Below.refl _ _).setCell (Nat.le_succ_of_le h.hS) _).setCell h.hS _
  have c9 := h.blk.cell (j := 9) rfl
  have f9 := h.blk.free 9
  have fk := h.keys.free (j * 5)
  have k0 : w.cell? ⟨S + 1, j * 5, none⟩ = some (.int .i64 ks[j].tok) := h.keys.at_ j hj 0 (by decide)
  have k4 : w.cell? ⟨S + 1, j * 5 + 4, none⟩ = some (.bool false) := by rw [← hmust]; exact h.keys.at_ j hj 4 (by decide)
  clear h hmust
  go_enter Tryf.func27, Tryf.ntmps27
  go_wp2
  go_end0
  exact ⟨rfl, hs, hb⟩

/-- What dropKey leaves of the keys, and of the count. -/
def dropped (ks : List Key) : List Key := if 0 ≤ (ks.getLastD zk).tok then ks.set (ks.length - 1) (dead (ks.getLastD zk)) else ks
def countOf (ks : List Key) (m : Int) : Int := if 0 ≤ (ks.getLastD zk).tok then wrap64 (m - 1) else m

theorem getLastD_eq {α : Type} (l : List α) (d : α) (h : 0 < l.length) : l.getLastD d = l[l.length - 1] := by
  rw [List.getLastD_eq_getLast?, List.getLast?_eq_getElem?, List.getElem?_eq_getElem (by omega)]; rfl

theorem dropKey_any (h : Scan w B S p l c m en an kcap ks q ts) (h0 : 0 < ks.length) (hk : ks.length ≤ 26214) (hmust : 0 ≤ (ks.getLastD zk).tok → (ks.getLastD zk).must = false) :
    Calls Tryf.prog 24 #[.pointer (some ⟨S, 0, none⟩)] w fun e w' =>
      e = .returned (.tuple #[]) ∧ Scan w' B S p l c (countOf ks m) en an kcap (dropped ks) q ts ∧ Below B w w' := by
  unfold countOf dropped
  rw [getLastD_eq ks zk h0] at hmust ⊢
  obtain ⟨n, hn⟩ : ∃ n, ks.length = n + 1 := ⟨ks.length - 1, by omega⟩
  have c8 := h.blk.cell (j := 8) rfl
  have HN : Hid (ks.length = n + 1) := hn
  have hlt : n < ks.length := by omega
  have k0 : w.cell? ⟨S + 1, n * 5, none⟩ = some (.int .i64 ks[n].tok) := h.keys.at_ n hlt 0 (by decide)
  have e1 : ks[ks.length - 1] = ks[n] := by congr 1; omega
  have e2 : ks.length - 1 = n := by omega
  simp only [e1] at hmust ⊢
  rw [e2]
  rw [hn] at c8
  clear hn e1 e2 h0
  by_cases ht : 0 ≤ ks[n].tok
  · rw [if_pos ht, if_pos ht]
    have hm := hmust ht
    have HS : Hid (Scan w B S p l c m en an kcap ks q ts) := h
    clear hmust h
    go_enter Tryf.func24, Tryf.ntmps24
    go_wp2
    go_quiet (fail)
    go_wp2_with (go_at_call 27; refine (forget_any (HS.out.drewN _) n hlt hm).mono ?_; rintro e w' ⟨rfl, hs', hb'⟩)
    go_end0
    exact ⟨rfl, hs', (below_drew_n _ _ _).trans hb'⟩
  · rw [if_neg ht, if_neg ht]
    have HS : Hid (Scan w B S p l c m en an kcap ks q ts) := h
    clear hmust h
    go_enter Tryf.func24, Tryf.ntmps24
    go_wp2
    go_quiet (fail)
    go_wp2
    go_end0
    exact ⟨rfl, HS.out.drewN _, below_drew_n _ _ _⟩

end
end Go.Proofs.Qxb6609413aFmt
