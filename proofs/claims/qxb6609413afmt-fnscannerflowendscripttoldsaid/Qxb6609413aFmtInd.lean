/-
  (*scanner).indicator: a token is appended to the queue; the place moves on by one.
-/
import Derived.Test.Qxb6609413aFmtScan
import Derived.Deep.RegionLaw
namespace Go.Proofs.Qxb6609413aFmt
open Go.RowKit

theorem Tryf.info68 : (Tryf.prog.info? 68).map (fun i => (i.zero, i.size, i.bytes)) = some (some (.agg #[.string ByteArray.empty, .int .i64 0, .int .i64 0, .int .i64 0, .string ByteArray.empty, .string ByteArray.empty, .string ByteArray.empty]), 7, 88) := by kernel_rfl

/-- append onto a row of the call's own, as one step of a region that draws its order. -/
theorem step_append_own {P : Program} {ops : Array Oper} {o : Oper} {a : Act} {w : World} {K : Act → World → Prop} {Q : Exit → Act → World → Prop} {E : Prop}
    (hg : o.guard = none) (s x : Operand) (t : TypeId) (ho : o.op = .call { callee := .builtin .append, args := #[s, x], argTypes := #[t, t] })
    (base : Nat) (e : TypeId) (i : TypeInfo) (z : Value) (size bytes : Nat) (ht : P.underlying t = some (.slice e)) (hi : P.info? e = some i) (hz : i.zero = some z)
    (hsize : i.size = size) (hby : i.bytes = bytes) (hzs : z.cells.size = size) (hsz : 0 < size)
    (v : Value) (n : Nat) (xs : List Value) (hs : a.eval s = v) (hown : w.ownsRow base e size v n xs)
    (ad : Addr) (m c : Nat) (news : List Value) (hx : a.eval x = .slice (some ad) m c) (hl : news.length = m * size) (hnews : ∀ j u, news[j]? = some u → w.cell? (ad.add j) = some u) (h1 : ∀ u ∈ news, u.oneCell' = true)
    (h63 : n + m ≤ maxLen) (hbytes : (n + m) * bytes ≤ 140737488355328) (hbase : base ≤ w.heap.size)
    (hK : ∀ v' w', w'.ownsRow base e size v' (n + m) (xs ++ news) → w.grownBy w' v.ownBlock → K (a.put o.dst v') w') :
    if Region.wanted o (yielded ops a.tmps) = true then Oper.wp P o a w K Q else E := by
  have hw : Region.wanted o (yielded ops a.tmps) = true := by simp [Region.wanted, hg]
  rw [if_pos hw]
  exact wp_append_own w s x t ho base e i z size bytes ht hi hz hsize hby hzs hsz v n xs hs hown ad m c news hx hl hnews h1 h63 hbytes hbase fun v' w' h2 h3 _ => hK v' w' h2 h3

section
variable {w : World} {B S : Nat} {p l c m : Int} {en an : Bool} {kcap : Nat} {ks : List Key} {q : Value} {ts : List Tok}

def newTok (k : ByteArray) (p l c : Int) : Tok := ⟨k, ByteArray.empty, ByteArray.empty, ByteArray.empty, p, l, c⟩

/-- What stands behind the append, ahead of the three stores. -/
theorem Scan.grew (h : Scan w B S p l c m en an kcap ks q ts) (o : Obj) {w1 : World} (hg : (w.drew.alloc o).grownBy w1 q.ownBlock) :
    Blk w1 S (scells p l c q (.slice (some ⟨S + 1, 0, none⟩) ks.length kcap) m en an) ∧ Own w1 (S + 1) 5 kc ks ∧ Below B w w1 := by
  have b1 := h.blk.drew.alloc o
  have k1 := h.keys.drew.alloc o
  refine ⟨b1.of_block (hg.block S b1.lt fun e => h.qne (k := S) (by omega) e.symm), k1.of_block (hg.block (S + 1) k1.lt fun e => h.qne (k := S + 1) (by omega) e.symm), ?_⟩
  have hb : Below B w (w.drew.alloc o) := (Below.refl _ _).drew.alloc (by have := h.blk.lt; have := h.hS; show B ≤ w.heap.size; omega) o
  refine hb.grown hg (by have := b1.lt; have := h.hS; omega) fun k e => ?_
  have := (h.queue.lt k e).1
  have := h.hS
  omega

theorem Scan.appended {w1 : World} (hS : B ≤ S) (kle : ks.length ≤ kcap) (h1 : Blk w1 S (scells p l c q (.slice (some ⟨S + 1, 0, none⟩) ks.length kcap) m en an)) (h2 : Own w1 (S + 1) 5 kc ks) {v' : Value} {t : Tok}
    (h3 : w1.ownsRow (S + 2) 68 7 v' (ts.length + 1) (ts.flatMap qc ++ qc t)) (p' c' : Int) :
    Scan (((w1.setCell ⟨S, 4, none⟩ v').setCell ⟨S, 1, none⟩ (.int .i64 p')).setCell ⟨S, 3, none⟩ (.int .i64 c')) B S p' l c' m en an kcap ks v' (ts ++ [t]) := by
  have hne : v'.ownBlock ≠ some S := fun e => by have := (h3.lt S e).1; omega
  refine ⟨hS, kle, ((h1.set 4 v').set 1 (.int .i64 p')).set 3 (.int .i64 c'), ?_, ?_⟩
  · exact ((h2.setOther (a := ⟨S, 4, none⟩) (by simp) _).setOther (a := ⟨S, 1, none⟩) (by simp) _).setOther (a := ⟨S, 3, none⟩) (by simp) _
  · have e1 : (ts ++ [t]).length = ts.length + 1 := by simp
    have e2 : (ts ++ [t]).flatMap qc = ts.flatMap qc ++ qc t := by simp
    rw [e1, e2]
    exact ownsRow_setCell_other (ownsRow_setCell_other (ownsRow_setCell_other h3 hne _) hne _) hne _

theorem qc_cells (w : World) (t : Tok) (o : Nat) : ∀ j u, (qc t)[j]? = some u → (w.alloc (.cells (qc t).toArray o)).cell? ((⟨w.heap.size, 0, none⟩ : Addr).add j) = some u := by
  intro j u hj
  have e : (⟨w.heap.size, 0, none⟩ : Addr).add j = ⟨w.heap.size, j, none⟩ := by unfold Addr.add; split <;> simp_all
  rw [e, World.cell?_alloc_new]
  simpa using hj
theorem qc_one (t : Tok) : ∀ u ∈ qc t, u.oneCell' = true := by intro u hu; simp [qc] at hu; rcases hu with rfl | rfl | rfl | rfl | rfl | rfl | rfl <;> rfl

theorem own_form {w : World} {base : Nat} {e : TypeId} {size : Nat} {v : Value} {n : Nat} {xs : List Value} (h : w.ownsRow base e size v n xs) (hn : 0 < n) : ∃ g cap, v = .slice (some ⟨g, 0, none⟩) n cap := by
  rcases h.2 with ⟨_, h0⟩ | ⟨g, cap, _, rfl, _⟩
  · omega
  · exact ⟨g, cap, rfl⟩

set_option maxHeartbeats 800000 in
theorem indicator_any (h : Scan w B S p l c m en an kcap ks q ts) (kind : ByteArray) (hts : ts.length ≤ 1000000) :
    Calls Tryf.prog 26 #[.pointer (some ⟨S, 0, none⟩), .string kind] w fun e w' =>
      e = .returned (.tuple #[]) ∧ (∃ q', Scan w' B S (wrap64 (p + 1)) l (wrap64 (c + 1)) m en an kcap ks q' (ts ++ [newTok kind p l c])) ∧ Below B w w' := by
  obtain ⟨i0, hi, hz0, hz1, hz2⟩ := info_parts Tryf.info68
  have HS : Hid (Scan w B S p l c m en an kcap ks q ts) := h
  have c1 := h.blk.cell (j := 1) rfl
  have c2 := h.blk.cell (j := 2) rfl
  have c3 := h.blk.cell (j := 3) rfl
  have c4 := h.blk.cell (j := 4) rfl
  have hown := ((h.queue).drew).alloc (.cells (qc (newTok kind p l c)).toArray 68)
  have hlt := h.keys.lt
  have hltS := h.blk.lt
  have hcl := qc_cells w.drew (newTok kind p l c) 68
  clear h
  go_enter Tryf.func26, Tryf.ntmps26
  go_wp2
  go_region_law (refine step_append_own rfl (.tmp 8) (.tmp 15) 56 rfl (S + 2) 68 i0 _ 7 88 Tryf.underlying56 hi hz0 hz1 hz2 rfl (by decide) q ts.length (ts.flatMap qc) rfl hown ⟨w.heap.size, 0, none⟩ 1 1 (qc (newTok kind p l c)) rfl rfl hcl (qc_one _) (by unfold maxLen; omega) (by omega) (by simp; omega) ?_; intro v' w1 hown' hgrow; obtain ⟨g, cap', rfl⟩ := own_form hown' (by omega); obtain ⟨hblk, hkeys, hbel⟩ := HS.out.grew _ hgrow; have d1 := hblk.cell (j := 1) rfl; have d3 := hblk.cell (j := 3) rfl; have d4 := hblk.cell (j := 4) rfl; have df := hblk.free; clear hgrow)
  all_goals
    go_wp2
    go_end0
    exact ⟨rfl, ⟨_, Scan.appended HS.out.hS HS.out.kle (by assumption) (by assumption) (by assumption) _ _⟩, ((hbel.setCell HS.out.hS _).setCell HS.out.hS _).setCell HS.out.hS _⟩
end
end Go.Proofs.Qxb6609413aFmt
