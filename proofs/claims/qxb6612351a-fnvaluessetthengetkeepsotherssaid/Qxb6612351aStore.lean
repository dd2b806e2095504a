/-
  THE STORE IN MEMORY: index, Get, Set and their two makers of ints.
-/
import Derived.Test.Qxb6612351aReads
namespace Go.Proofs.Qxb6612351a
open Go.RowKit

/-- The store at block V: its one field, the row of its entries (in blocks from V + 1 on). -/
structure Store (w : World) (B V : Nat) (q : Value) (l : List (ByteArray × Int)) : Prop where
  hV : B ≤ V
  blk : Blk w V [q]
  row : w.ownsRow (V + 1) 38 2 q l.length (l.flatMap ec)

theorem ownsRow_below {w w' : World} {base B : Nat} {e : TypeId} {size : Nat} {v : Value} {n : Nat} {xs : List Value} (h : w.ownsRow base e size v n xs) (hb : Below B w w') (hv : ∀ k, v.ownBlock = some k → k < B) : w'.ownsRow base e size v n xs := by
  obtain ⟨h1, h2⟩ := h
  refine ⟨h1, ?_⟩
  rcases h2 with h2 | ⟨g, cap, cur, rfl, hg, hh, r⟩
  · exact .inl h2
  · exact .inr ⟨g, cap, cur, rfl, hg, (hb.block g (hv g rfl)).trans hh, r⟩

theorem row_form {w : World} {base : Nat} {e : TypeId} {size : Nat} {v : Value} {n : Nat} {xs : List Value} (h : w.ownsRow base e size v n xs) : ∃ a cap, v = .slice a n cap ∧ (0 < n → ∃ g, a = some ⟨g, 0, none⟩) := by
  rcases h.2 with ⟨rfl, rfl⟩ | ⟨g, cap, _, rfl, _⟩
  · exact ⟨none, 0, rfl, fun h => absurd h (by omega)⟩
  · exact ⟨some ⟨g, 0, none⟩, cap, rfl, fun _ => ⟨g, rfl⟩⟩

section
variable {w w' : World} {B V : Nat} {q : Value} {l : List (ByteArray × Int)}

theorem Store.below (h : Store w B V q l) (hb : Below w.heap.size w w') : Store w' B V q l :=
  ⟨h.hV, h.blk.below hb h.blk.lt, ownsRow_below h.row hb fun k e => (h.row.lt k e).2⟩

theorem Store.rowAt (h : Store w B V q l) : ∃ a cap, q = .slice a l.length cap ∧ RowAt w a 2 ec l := by
  obtain ⟨a, cap, rfl, hg⟩ := row_form h.row
  refine ⟨a, cap, rfl, ?_⟩
  by_cases h0 : 0 < l.length
  · obtain ⟨g, rfl⟩ := hg h0
    have ho : Own w g 2 ec l := row_to_own ec_len h.row rfl
    exact .inr ⟨g, 0, rfl, ho.lt, ho.lies⟩
  · exact .inl (List.eq_nil_of_length_eq_zero (by omega))

theorem RowAt.alloc {α : Type} {w : World} {a : Option Addr} {sz : Nat} {c : α → List Value} {l : List α} (h : RowAt w a sz c l) (o : Obj) : RowAt (w.alloc o) a sz c l := h.below ((Below.refl _ _).alloc (Nat.le_refl _) o)

theorem index_any (h : Store w B V q l) (hl : l.length ≤ 1000000) (key : ByteArray) :
    Calls Try.prog 10 #[.pointer (some ⟨V, 0, none⟩), .string key] w (IdxPost l key w) := by
  obtain ⟨a, cap, rfl, hr⟩ := h.rowAt
  have c0 := h.blk.cell (j := 0) rfl
  have hlt := h.blk.lt
  have hr' := hr.alloc (.cells #[.string key] 9)
  clear h hr
  go_enter Try.func10, Try.ntmps10
  go_wp2_with fail
  refine (indexFunc_any a cap l hl w.heap.size key (w.alloc (.cells #[.string key] 9)) (by simp) (by simp) hr').mono ?_
  rintro e w1 ⟨rfl, hb1⟩
  have hb2 : Below w.heap.size w w1 := ((Below.refl _ _).alloc (Nat.le_refl _) _).trans (hb1.mono (by simp))
  clear hb1 hr'
  go_wp2
  go_ret
  exact ⟨rfl, hb2⟩

theorem pos_lt {l : List (ByteArray × Int)} {key : ByteArray} {i : Nat} (h : pos l key = some i) : i < l.length := by
  unfold pos at h
  rw [List.findIdx?_eq_some_iff_getElem] at h
  exact h.1

/-- What is stored under the key. -/
def look (l : List (ByteArray × Int)) (key : ByteArray) : Int × Bool := match pos l key with
  | some i => ((l.getD i (ByteArray.empty, 0)).2, true)
  | none => (0, false)
theorem look_some {l : List (ByteArray × Int)} {key : ByteArray} {i : Nat} (h : pos l key = some i) (hi : i < l.length) : look l key = (l[i].2, true) := by
  simp [look, h, hi, List.getD]
theorem look_none {l : List (ByteArray × Int)} {key : ByteArray} (h : pos l key = none) : look l key = (0, false) := by
  simp [look, h]

theorem get_some (h : Store w B V q l) (hl : l.length ≤ 1000000) (key : ByteArray) (i : Nat) (hp : pos l key = some i) (hi : i < l.length) :
    Calls Try.prog 9 #[.pointer (some ⟨V, 0, none⟩), .string key] w fun e w' => e = .returned (.iface 3 (.int .i64 l[i].2)) ∧ Below w.heap.size w w' := by
  have HI := index_any h hl key
  have hx : idx l key = (i : Int) := by rw [idx, hp]
  unfold IdxPost at HI
  rw [hx] at HI
  have HS : Hid (Store w B V q l) := h
  clear hx hp h
  go_enter Try.func9, Try.ntmps9
  go_wp2_with fail
  refine HI.mono ?_
  rintro e w1 ⟨rfl, hb1⟩
  clear HI
  have h1 := HS.out.below hb1
  obtain ⟨a, cap, rfl, hr⟩ := h1.rowAt
  rcases hr with rfl | ⟨g, off, rfl, hg, hlies⟩
  · simp at hi
  obtain ⟨c0, c1⟩ := ent_cells hlies i hi
  have cV := h1.blk.cell (j := 0) rfl
  have hiI : (i : Int) < (l.length : Int) := by omega
  clear h1 hlies HS
  go_wp2
  go_ret
  exact ⟨rfl, hb1⟩

theorem get_none (h : Store w B V q l) (hl : l.length ≤ 1000000) (key : ByteArray) (hp : pos l key = none) :
    Calls Try.prog 9 #[.pointer (some ⟨V, 0, none⟩), .string key] w fun e w' => e = .returned .nilIface ∧ Below w.heap.size w w' := by
  have HI := index_any h hl key
  have hx : idx l key = -1 := by rw [idx, hp]
  unfold IdxPost at HI
  rw [hx] at HI
  clear hx hp h
  go_enter Try.func9, Try.ntmps9
  go_wp2_with fail
  refine HI.mono ?_
  rintro e w1 ⟨rfl, hb1⟩
  clear HI
  go_wp2
  go_ret
  exact ⟨rfl, hb1⟩

theorem assert_yes (W : World) (v : Value) : (Instr.typeAssert (.iface 3 v) 20 3 true).run Try.prog W = .ok (.tuple #[v, .bool true]) W := by kernel_rfl
theorem assert_nil (W : World) : (Instr.typeAssert .nilIface 20 3 true).run Try.prog W = .ok (.tuple #[.int .i64 0, .bool false]) W := by kernel_rfl

def LookPost (l : List (ByteArray × Int)) (key : ByteArray) (w : World) (e : Ending) (w' : World) : Prop := e = .returned (.tuple #[.int .i64 (look l key).1, .bool (look l key).2]) ∧ Below w.heap.size w w'

theorem getInt_any (h : Store w B V q l) (hl : l.length ≤ 1000000) (key : ByteArray) :
    Calls Try.prog 7 #[.pointer (some ⟨V, 0, none⟩), .string key] w (LookPost l key w) := by
  cases hp : pos l key with
  | some i =>
    have hi := pos_lt hp
    have HL : Hid (look l key = (l[i].2, true)) := look_some hp hi
    have HG := get_some h hl key i hp hi
    clear h hp
    go_enter Try.func7, Try.ntmps7
    go_wp2_with fail
    refine HG.mono ?_
    rintro e w1 ⟨rfl, hb1⟩
    clear HG
    have ha := assert_yes w1
    have hn := assert_nil w1
    go_wp2
    go_ret2
    exact ⟨by rw [HL.out]; rfl, hb1⟩
  | none =>
    have HL : Hid (look l key = (0, false)) := look_none hp
    have HG := get_none h hl key hp
    clear h hp
    go_enter Try.func7, Try.ntmps7
    go_wp2_with fail
    refine HG.mono ?_
    rintro e w1 ⟨rfl, hb1⟩
    clear HG
    have ha := assert_yes w1
    have hn := assert_nil w1
    go_wp2
    go_ret2
    exact ⟨by rw [HL.out]; rfl, hb1⟩

theorem Try.info38 : (Try.prog.info? 38).map (fun i => (i.zero, i.size, i.bytes)) = some (some (.agg #[.string ByteArray.empty, .nilIface]), 2, 32) := by kernel_rfl

/-- The store behind Set. -/
def put (l : List (ByteArray × Int)) (key : ByteArray) (x : Int) : List (ByteArray × Int) := match pos l key with
  | some i => l.set i ((l.getD i (ByteArray.empty, 0)).1, x)
  | none => l ++ [(key, x)]

theorem row_shape {w : World} {base : Nat} {e : TypeId} {size : Nat} {g n cap : Nat} {xs : List Value} (h : w.ownsRow base e size (.slice (some ⟨g, 0, none⟩) n cap) n xs) : Shape w g e (cap * size) ∧ n ≤ cap ∧ cap ≤ maxLen ∧ base ≤ g := by
  rcases h.2 with ⟨h', _⟩ | ⟨g', cap', cur, h', hb, hg, hnc, hcm, hcs, _⟩
  · simp at h'
  · simp only [Value.slice.injEq, Option.some.injEq, Addr.mk.injEq, and_true, true_and] at h'
    obtain ⟨rfl, rfl⟩ := h'
    exact ⟨⟨cur, hg, hcs⟩, hnc, hcm, hb⟩

theorem Store.stored {g cap : Nat} (h : Store w B V (.slice (some ⟨g, 0, none⟩) l.length cap) l) (i : Nat) (hi : i < l.length) (x : Int) :
    Store (w.setCell ⟨g, i * 2 + 1, none⟩ (.iface 3 (.int .i64 x))) B V (.slice (some ⟨g, 0, none⟩) l.length cap) (l.set i (l[i].1, x)) := by
  obtain ⟨hs, hn, hm, hb⟩ := row_shape h.row
  have ho : Own w g 2 ec l := row_to_own ec_len h.row rfl
  have ho' := Own.setOne ec_len ho i hi 1 (by decide) (.iface 3 (.int .i64 x)) (l[i].1, x) rfl
  have hr := own_to_row ec_len (by decide) ho' (hs.setSame (i * 2 + 1) _) (by simpa using hn) hm hb
  rw [List.length_set] at hr
  refine ⟨h.hV, h.blk.setOther (a := ⟨g, i * 2 + 1, none⟩) (by simp only; omega) _, ?_⟩
  rw [List.length_set]
  exact hr

theorem own_form {w : World} {base : Nat} {e : TypeId} {size : Nat} {v : Value} {n : Nat} {xs : List Value} (h : w.ownsRow base e size v n xs) (hn : 0 < n) : ∃ g cap, v = .slice (some ⟨g, 0, none⟩) n cap := by
  rcases h.2 with ⟨_, h0⟩ | ⟨g, cap, _, rfl, _⟩
  · omega
  · exact ⟨g, cap, rfl⟩

/-- Set hands nothing back; the store holds l; nothing else that was there has turned. -/
def SetPost (B V : Nat) (q0 : Value) (l : List (ByteArray × Int)) (w : World) (e : Ending) (w' : World) : Prop :=
  e = .returned (.tuple #[]) ∧ (∃ q, Store w' B V q l) ∧ Below B w w' ∧ ∀ k, k < w.heap.size → k ≠ V → q0.ownBlock ≠ some k → w'.heap[k]? = w.heap[k]?

theorem set_some (h : Store w B V q l) (hl : l.length ≤ 1000000) (key : ByteArray) (x : Int) (i : Nat) (hp : pos l key = some i) (hi : i < l.length) :
    Calls Try.prog 8 #[.pointer (some ⟨V, 0, none⟩), .string key, .iface 3 (.int .i64 x)] w (SetPost B V q (l.set i (l[i].1, x)) w) := by
  have HI := index_any h hl key
  have hx : idx l key = (i : Int) := by rw [idx, hp]
  unfold IdxPost at HI
  rw [hx] at HI
  have HS : Hid (Store w B V q l) := h
  clear hx hp h
  go_enter Try.func8, Try.ntmps8
  go_wp2_with fail
  refine HI.mono ?_
  rintro e w1 ⟨rfl, hb1⟩
  clear HI
  have h1 := HS.out.below hb1
  have hBw : B ≤ w.heap.size := by have := HS.out.hV; have := HS.out.blk.lt; omega
  obtain ⟨g, cap, rfl⟩ := own_form h1.row (by omega)
  have ho : Own w1 g 2 ec l := row_to_own ec_len h1.row rfl
  have c1 : w1.cell? ⟨g, i * 2 + 1, none⟩ = some (.iface 3 (.int .i64 l[i].2)) := ho.at_ i hi 1 (by decide)
  have f1 := ho.free (i * 2 + 1)
  have cV := h1.blk.cell (j := 0) rfl
  have hs := h1.stored i hi x
  have hg : B ≤ g := by have := (h1.row.lt g rfl).1; have := h1.hV; omega
  have hb2 : Below B w (w1.setCell ⟨g, i * 2 + 1, none⟩ (.iface 3 (.int .i64 x))) := (hb1.mono hBw).setCell hg _
  have HS2 : Hid (Store (w1.setCell ⟨g, i * 2 + 1, none⟩ (.iface 3 (.int .i64 x))) B V (.slice (some ⟨g, 0, none⟩) l.length cap) (l.set i (l[i].1, x))) := hs
  have hiI : (i : Int) < (l.length : Int) := by omega
  have HF : Hid (∀ k, k < w.heap.size → k ≠ V → Value.ownBlock (.slice (some ⟨g, 0, none⟩) l.length cap) ≠ some k → (w1.setCell ⟨g, i * 2 + 1, none⟩ (.iface 3 (.int .i64 x))).heap[k]? = w.heap[k]?) :=
    fun k hk _ hne => (Below.heap_setCell w1 ⟨g, i * 2 + 1, none⟩ _ k (fun e => hne (by simp [Value.ownBlock]; exact e.symm))).trans (hb1.block k hk)
  clear h1 HS ho hs hb1
  go_wp2
  go_end0
  exact ⟨rfl, ⟨_, HS2.out⟩, hb2, HF.out⟩

theorem set_none (h : Store w B V q l) (hl : l.length ≤ 1000000) (key : ByteArray) (x : Int) (hp : pos l key = none) :
    Calls Try.prog 8 #[.pointer (some ⟨V, 0, none⟩), .string key, .iface 3 (.int .i64 x)] w (SetPost B V q (l ++ [(key, x)]) w) := by
  obtain ⟨i0, hi, hz0, hz1, hz2⟩ := info_parts Try.info38
  have HI := index_any h hl key
  have hx : idx l key = -1 := by rw [idx, hp]
  unfold IdxPost at HI
  rw [hx] at HI
  have HS : Hid (Store w B V q l) := h
  clear hx hp h
  go_enter Try.func8, Try.ntmps8
  go_wp2_with fail
  refine HI.mono ?_
  rintro e w1 ⟨rfl, hb1⟩
  clear HI
  have h1 := HS.out.below hb1
  have hBw : B ≤ w.heap.size := by have := HS.out.hV; have := HS.out.blk.lt; omega
  have hVlt := h1.blk.lt
  have cV := h1.blk.cell (j := 0) rfl
  have hown := h1.row.alloc (.cells #[.string key, .iface 3 (.int .i64 x)] 38)
  have HS1 : Hid (Store w1 B V q l) := h1
  clear h1 HS
  have hsz : w.heap.size ≤ w1.heap.size := hb1.size
  go_wp2_with (at_builtin; refine wpList_append_own _ rfl (.tmp 24) (.tmp 28) 27 rfl (V + 1) 38 i0 _ 2 32 Try.underlying27 hi hz0 hz1 hz2 rfl (by decide) q l.length (l.flatMap ec) rfl hown ⟨w1.heap.size, 0, none⟩ 1 1 [.string key, .iface 3 (.int .i64 x)] rfl rfl ?c1 ?c2 ?c3 ?c4 ?c5 ?_)
  case c1 =>
    intro j u hj
    match j, hj with
    | 0, hj => simp at hj; subst hj; simp [Addr.add]
    | 1, hj => simp at hj; subst hj; simp [Addr.add]
  case c2 => intro u hu; simp at hu; rcases hu with rfl | rfl <;> rfl
  case c3 => unfold maxLen; omega
  case c4 => omega
  case c5 => simp; omega
  intro v' w2 hown' hgrow _
  obtain ⟨g, cap', rfl⟩ := own_form hown' (by omega)
  have hblk2 : Blk w2 V [q] := (HS1.out.blk.alloc _).of_block (hgrow.block V (by simp; omega) fun e => by have := (HS1.out.row.lt V e.symm).1; omega)
  have d0 := hblk2.cell (j := 0) rfl
  have df := hblk2.free 0
  have hbel : Below B w w2 := by
    refine (((hb1.mono hBw).alloc (Nat.le_trans hBw hsz) _).grown hgrow (by simp; omega) fun k e => ?_)
    have := (HS1.out.row.lt k e).1
    have := HS1.out.hV
    omega
  have hst : Store (w2.setCell ⟨V, 0, none⟩ (.slice (some ⟨g, 0, none⟩) (l.length + 1) cap')) B V (.slice (some ⟨g, 0, none⟩) (l.length + 1) cap') (l ++ [(key, x)]) := by
    have hg := (hown'.lt g rfl).1
    refine ⟨HS1.out.hV, hblk2.set 0 _, ?_⟩
    have e1 : (l ++ [(key, x)]).length = l.length + 1 := by simp
    have e2 : (l ++ [(key, x)]).flatMap ec = l.flatMap ec ++ [.string key, .iface 3 (.int .i64 x)] := by simp [ec]
    rw [e1, e2]
    exact ownsRow_setCell_other hown' (a := ⟨V, 0, none⟩) (by simp [Value.ownBlock]; omega) _
  have HST : Hid (Store (w2.setCell ⟨V, 0, none⟩ (.slice (some ⟨g, 0, none⟩) (l.length + 1) cap')) B V (.slice (some ⟨g, 0, none⟩) (l.length + 1) cap') (l ++ [(key, x)])) := hst
  have hV := HS1.out.hV
  have HF : Hid (∀ k, k < w.heap.size → k ≠ V → q.ownBlock ≠ some k → (w2.setCell ⟨V, 0, none⟩ (.slice (some ⟨g, 0, none⟩) (l.length + 1) cap')).heap[k]? = w.heap[k]?) :=
    fun k hk hkV hne => (Below.heap_setCell w2 ⟨V, 0, none⟩ _ k hkV).trans ((hgrow.block k (by simp; omega) fun e => hne e.symm).trans ((Below.heap_alloc w1 _ k (by omega)).trans (hb1.block k hk)))
  clear hst hown' hgrow hblk2 HS1 hb1 hown
  go_wp2
  go_end0
  exact ⟨rfl, ⟨_, HST.out⟩, hbel.setCell hV _, HF.out⟩

theorem set_any (h : Store w B V q l) (hl : l.length ≤ 1000000) (key : ByteArray) (x : Int) :
    Calls Try.prog 8 #[.pointer (some ⟨V, 0, none⟩), .string key, .iface 3 (.int .i64 x)] w (SetPost B V q (put l key x) w) := by
  unfold put
  cases hp : pos l key with
  | some i =>
    have hi := pos_lt hp
    have e : (l.getD i (ByteArray.empty, 0)).1 = l[i].1 := by simp [List.getD, hi]
    simp only [e]
    exact set_some h hl key x i hp hi
  | none => exact set_none h hl key x hp

theorem setInt_any (h : Store w B V q l) (hl : l.length ≤ 1000000) (key : ByteArray) (x : Int) :
    Calls Try.prog 6 #[.pointer (some ⟨V, 0, none⟩), .string key, .int .i64 x] w (SetPost B V q (put l key x) w) := by
  have H := set_any h hl key x
  clear h
  go_enter Try.func6, Try.ntmps6
  go_wp2_with fail
  refine H.mono ?_
  rintro e w1 ⟨rfl, hs, hb, hf⟩
  have HF : Hid (∀ k, k < w.heap.size → k ≠ V → q.ownBlock ≠ some k → w1.heap[k]? = w.heap[k]?) := hf
  clear H hf
  go_wp2
  go_end0
  exact ⟨rfl, hs, hb, HF.out⟩
end
end Go.Proofs.Qxb6612351a
