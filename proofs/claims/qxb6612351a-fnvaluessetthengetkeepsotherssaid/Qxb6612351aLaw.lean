/-
  THE LAW's WALK: FnValuesSetThenGetKeepsOthers returns true, and nothing that was there has turned.
-/
import Derived.Test.Qxb6612351aPlain
import Derived.Deep.RegionHeld3
namespace Go.Proofs.Qxb6612351a
open Go.RowKit

def LawPost (w : World) (e : Ending) (w' : World) : Prop := e = .returned (.bool true) ∧ Below w.heap.size w w'

theorem Try.info3 : (Try.prog.info? 3).map (fun i => (i.zero, i.size, i.bytes)) = some (some (.int .i64 0), 1, 8) := by kernel_rfl
theorem Try.info4 : (Try.prog.info? 4).map (fun i => (i.zero, i.size, i.bytes)) = some (some (.bool false), 1, 1) := by kernel_rfl

theorem make_ints (n : Nat) (hn : n ≤ 4096) : ∃ M : Array Value, (∀ W : World, (Instr.makeSlice 23 (.int .i64 (n : Int)) (.int .i64 (n : Int))).run Try.prog W = .ok (.slice (some ⟨W.heap.size, 0, none⟩) n n) (W.alloc (.cells M 3))) ∧
    ∀ W : World, Own (W.alloc (.cells M 3)) W.heap.size 1 ic (List.replicate n 0) := by
  obtain ⟨i0, hi, hz0, hz1, hz2⟩ := info_parts Try.info3
  refine ⟨_, fun W => ?_, fun W => Own.made W (Value.int .i64 0).cells 0 n 3 rfl rfl⟩
  have hmk := run_make (P := Try.prog) W 23 3 i0 _ Try.underlying23 hi hz0 .i64 .i64 n n (by omega) (by omega) (by rw [hz2]; omega) (by omega)
  simp only [Int.toNat_natCast, hz1] at hmk
  exact hmk
theorem make_bools (n : Nat) (hn : n ≤ 4096) : ∃ M : Array Value, (∀ W : World, (Instr.makeSlice 31 (.int .i64 (n : Int)) (.int .i64 (n : Int))).run Try.prog W = .ok (.slice (some ⟨W.heap.size, 0, none⟩) n n) (W.alloc (.cells M 4))) ∧
    ∀ W : World, Own (W.alloc (.cells M 4)) W.heap.size 1 bc (List.replicate n false) := by
  obtain ⟨i0, hi, hz0, hz1, hz2⟩ := info_parts Try.info4
  refine ⟨_, fun W => ?_, fun W => Own.made W (Value.bool false).cells false n 4 rfl rfl⟩
  have hmk := run_make (P := Try.prog) W 31 4 i0 _ Try.underlying31 hi hz0 .i64 .i64 n n (by omega) (by omega) (by rw [hz2]; omega) (by omega)
  simp only [Int.toNat_natCast, hz1] at hmk
  exact hmk

theorem Store.drew {w : World} {B V : Nat} {q : Value} {l : List (ByteArray × Int)} (h : Store w B V q l) : Store w.drew B V q l := h.below (Below.refl _ _).drew

theorem Store.setOther {w : World} {B V : Nat} {q : Value} {l : List (ByteArray × Int)} (h : Store w B V q l) {a : Addr} (h1 : V ≠ a.block) (h2 : q.ownBlock ≠ some a.block) (v : Value) : Store (w.setCell a v) B V q l :=
  ⟨h.hV, h.blk.setOther h1 v, ownsRow_setCell_other h.row h2 v⟩

theorem Own.setAt {α : Type} {w : World} {b : Nat} {c : α → List Value} (hc : ∀ x, (c x).length = 1) {l : List α} (d : α) {k : Nat} (h : Own w b 1 c (part l d k)) (hk : k < l.length) (v : Value) (hx : c l[k] = [v]) :
    Own (w.setCell ⟨b, k, none⟩ v) b 1 c (part l d (k + 1)) := by
  have hpl : k < (part l d k).length := by rw [part_len _ _ _ (by omega)]; exact hk
  have H := Own.setOne hc h k hpl 0 (by decide) v l[k] (by
    rw [hx]
    have := hc (part l d k)[k]
    match hcl : c (part l d k)[k], this with
    | [y], _ => rfl)
  rw [part_set l d k hk] at H
  simpa only [Nat.mul_one, Nat.add_zero] using H
theorem Own.atOne {α : Type} {w : World} {b : Nat} {c : α → List Value} {l : List α} (h : Own w b 1 c l) (k : Nat) (hk : k < l.length) : w.cell? ⟨b, k, none⟩ = (c l[k])[0]? := by
  have := h.at_ k hk 0 (by decide)
  simpa only [Nat.mul_one, Nat.add_zero] using this

set_option maxHeartbeats 1600000 in
set_option maxRecDepth 100000 in
theorem law_walk (a a' : Option Addr) (cap cap' : Nat) (ss : List ByteArray) (vs : List Int) (key : ByteArray) (x : Int) (w : World)
    (hs : ss.length ≤ 9223372036854775807) (hv : vs.length ≤ 9223372036854775807) (hk : key.size ≤ 9223372036854775807)
    (hr : RowAt w a 1 sc ss) (hr' : RowAt w a' 1 ic vs) :
    Calls Try.prog 3 #[.slice a ss.length cap, .slice a' vs.length cap', .string key, .int .i64 x] w (LawPost w) := by
  go_enter Try.func3, Try.ntmps3
  go_wp2_with fail
  refine (bytes_any a a' cap cap' ss vs key x w hs hv hk hr).mono ?_
  rintro e w ⟨r, rfl, rfl⟩
  cases r
  · go_wp2
    go_ret
    exact ⟨rfl, Below.refl _ _⟩
  by_cases c1 : 4096 < ss.length
  · go_wp2
    go_ret
    exact ⟨rfl, Below.refl _ _⟩
  by_cases c2 : 4096 < vs.length
  · go_wp2
    go_ret
    exact ⟨rfl, Below.refl _ _⟩
  by_cases c3 : 65536 < key.size
  · go_wp2
    go_ret
    exact ⟨rfl, Below.refl _ _⟩
  go_wp2_with fail
  refine (stringsBytes_any a cap ss w (by omega) hr).mono ?_
  rintro e w ⟨m, rfl, rfl⟩
  by_cases c4 : ss.length = vs.length
  case neg =>
    have hne : ((ss.length : Int) != (vs.length : Int)) = true := by rw [bne_iff_ne]; omega
    clear c4
    go_wp2_with fail
    all_goals
      go_ret
      exact ⟨rfl, Below.refl _ _⟩
  have hne : ((ss.length : Int) != (vs.length : Int)) = false := by simp [c4]
  have HN : Hid (ss.length = vs.length) := c4
  have n1 : ss.length ≤ 4096 := by omega
  clear c4 hs hv hk
  obtain ⟨M1, hm1, ho1⟩ := make_ints ss.length n1
  obtain ⟨M2, hm2, ho2⟩ := make_bools ss.length n1
  have HO1 : Hid (∀ W : World, Own (W.alloc (.cells M1 3)) W.heap.size 1 ic (List.replicate ss.length 0)) := ho1
  have HO2 : Hid (∀ W : World, Own (W.alloc (.cells M2 4)) W.heap.size 1 bc (List.replicate ss.length false)) := ho2
  clear ho1 ho2
  go_wp2_with fail
  · go_ret
    exact ⟨rfl, Below.refl _ _⟩
  clear hne
  have hst0 : Store (w.alloc (.cells #[.slice none 0 0] 29)) w.heap.size w.heap.size (.slice none 0 0) (sto ss vs 0) := by
    rw [sto_zero]
    exact ⟨Nat.le_refl _, Blk.new w _ 29, World.ownsRow_nil _ _ _ _⟩
  have hbl0 : Below w.heap.size w (w.alloc (.cells #[.slice none 0 0] 29)) := (Below.refl _ _).alloc (Nat.le_refl _) _
  go_loopw [10] (fun i wr => ∃ k : Nat, ∃ q : Value, k ≤ ss.length ∧ i = .int .i64 k ∧ Store wr w.heap.size w.heap.size q (sto ss vs k) ∧ Below w.heap.size w wr) (fun i _ => ss.length - (intOf i).toNat)
  case atStart => exact ⟨0, _, Nat.zero_le _, rfl, hst0, hbl0⟩
  case round =>
    clear hst0 hbl0
    obtain ⟨k, q, hkl, rfl, hst, hbel⟩ := hrel
    have hlen := sto_len ss vs k hkl (by have := HN.out; omega)
    by_cases hlt : k < ss.length
    · have hlt' : k < vs.length := by have := HN.out; omega
      rcases hr with rfl | ⟨b, off, rfl, hb, hl⟩
      · simp at hlt
      rcases hr' with rfl | ⟨b', off', rfl, hb', hl'⟩
      · simp at hlt'
      have d0 := str_cell (hl.below hbel hb) k hlt
      have d1 := int_cell (hl'.below hbel hb') k hlt'
      have hstd : Hid (Store wr.drew w.heap.size w.heap.size q (sto ss vs k)) := hst.drew
      have HP : Hid (sto ss vs (k + 1) = put (sto ss vs k) ss[k] vs[k]) := sto_step ss vs k hlt hlt'
      have kI : (k : Int) < (ss.length : Int) := by omega
      have kI' : (k : Int) < (vs.length : Int) := by omega
      clear hl hl' hst hm1 hm2
      go_wp2
      go_region_held3 (fun w' => w'.cell? ⟨b, off + k, none⟩ = some (.string ss[k]) ∧ w'.cell? ⟨b', off' + k, none⟩ = some (.int .i64 vs[k])) (simp [go_sem, *]) (first | (go_at_call 6; refine (setInt_any hstd.out (by omega) _ _).mono ?_; rintro e w' ⟨rfl, ⟨q', hs'⟩, hb1, _⟩; have e1 := hb1.cell (p := ⟨b, off + k, none⟩) hb; have e2 := hb1.cell (p := ⟨b', off' + k, none⟩) hb'))
      go_wp2
      go_roundw
      case rel => exact ⟨k + 1, q', by omega, by go_num, by rw [HP.out]; exact hs', hbel.drew.trans hb1⟩
      case measure => simp [intOf]; omega
    · obtain rfl : k = ss.length := by omega
      have hqlt : ∀ j, q.ownBlock = some j → j < wr.heap.size := fun j e => (hst.row.lt j e).2
      have hVlt := hst.blk.lt
      have HST : Hid (Store wr w.heap.size w.heap.size q (sto ss vs ss.length)) := hst
      have HQ : Hid (∀ j, q.ownBlock = some j → j < wr.heap.size) := hqlt
      clear hst hqlt
      go_wp2_with fail
      obtain ⟨G, hG⟩ : ∃ G, wr.heap.size = G := ⟨_, rfl⟩
      have hst0 := (HST.out.below ((Below.refl _ _).alloc (Nat.le_refl _) (.cells M1 3))).below ((Below.refl _ _).alloc (Nat.le_refl _) (.cells M2 4))
      have hi0 := (HO1.out wr).alloc (.cells M2 4)
      have hb0 := HO2.out (wr.alloc (.cells M1 3))
      have hbl0 : Below w.heap.size w ((wr.alloc (.cells M1 3)).alloc (.cells M2 4)) := (hbel.alloc (by omega) _).alloc (by simp; omega) _
      rw [World.size_alloc] at hb0
      rw [hG] at hi0 hb0 hVlt HQ ⊢
      generalize (wr.alloc (.cells M1 3)).alloc (.cells M2 4) = w3 at hst0 hi0 hb0 hbl0 ⊢
      clear hG hbel HST HO1 HO2 hm1 hm2
      generalize sto ss vs ss.length = S at hlen hst0 ⊢
      go_loopw [13] (fun i wr => ∃ k : Nat, k ≤ ss.length ∧ i = .int .i64 k ∧ Store wr w.heap.size w.heap.size q S ∧ Own wr G 1 ic (part (ss.map fun s => (look S s).1) 0 k) ∧ Own wr (G + 1) 1 bc (part (ss.map fun s => (look S s).2) false k) ∧ Below w.heap.size w wr) (fun i _ => ss.length - (intOf i).toNat)
      case atStart =>
        refine ⟨0, Nat.zero_le _, rfl, hst0, ?_, ?_, hbl0⟩
        · rw [part_zero, List.length_map]; exact hi0
        · rw [part_zero, List.length_map]; exact hb0
      case round =>
        clear hst0 hi0 hb0 hbl0
        obtain ⟨k, hkl, rfl, hst, hi, hbo, hbel⟩ := hrel
        by_cases hlt' : k < ss.length
        · rcases hr with rfl | ⟨b, off, rfl, hb, hl⟩
          · simp at hlt'
          have d0 := str_cell (hl.below hbel hb) k hlt'
          have HST : Hid (Store wr w.heap.size w.heap.size q S) := hst
          have kI : (k : Int) < (ss.length : Int) := by omega
          clear hl hst
          go_wp2_with fail
          refine (getInt_any HST.out (by omega) ss[k]).mono ?_
          rintro e w4 ⟨rfl, hb4⟩
          have hst4 := HST.out.below hb4
          have hi4 := hi.below hb4 hi.lt
          have hbo4 := hbo.below hb4 hbo.lt
          have hbel4 := hbel.trans (hb4.mono hbel.size)
          have hpl : k < (part (ss.map fun s => (look S s).1) 0 k).length := by rw [part_len _ _ _ (by simpa using hkl)]; simpa using hlt'
          have hpl' : k < (part (ss.map fun s => (look S s).2) false k).length := by rw [part_len _ _ _ (by simpa using hkl)]; simpa using hlt'
          obtain ⟨v0, g0⟩ : ∃ v, w4.cell? ⟨G, k, none⟩ = some v := ⟨_, hi4.atOne k hpl⟩
          obtain ⟨v1, g1⟩ : ∃ v, w4.cell? ⟨G + 1, k, none⟩ = some v := ⟨_, hbo4.atOne k hpl'⟩
          have f0 := hi4.free k
          have f1 := hbo4.free k
          have n0 := hi4.lt
          have n1' := hbo4.lt
          have hmk : k < (ss.map fun s => (look S s).1).length := by simpa using hlt'
          have hmk' : k < (ss.map fun s => (look S s).2).length := by simpa using hlt'
          have HI : Hid (Own ((w4.setCell ⟨G, k, none⟩ (.int .i64 (look S ss[k]).1)).setCell ⟨G + 1, k, none⟩ (.bool (look S ss[k]).2)) G 1 ic (part (ss.map fun s => (look S s).1) 0 (k + 1))) :=
            (Own.setAt ic_len 0 hi4 hmk _ (by rw [List.getElem_map]; rfl)).setOther (a := ⟨G + 1, k, none⟩) (by simp) _
          have HB : Hid (Own ((w4.setCell ⟨G, k, none⟩ (.int .i64 (look S ss[k]).1)).setCell ⟨G + 1, k, none⟩ (.bool (look S ss[k]).2)) (G + 1) 1 bc (part (ss.map fun s => (look S s).2) false (k + 1))) :=
            Own.setAt bc_len false (hbo4.setOther (a := ⟨G, k, none⟩) (by simp) _) hmk' _ (by rw [List.getElem_map]; rfl)
          have HS4 : Hid (Store ((w4.setCell ⟨G, k, none⟩ (.int .i64 (look S ss[k]).1)).setCell ⟨G + 1, k, none⟩ (.bool (look S ss[k]).2)) w.heap.size w.heap.size q S) :=
            (hst4.setOther (a := ⟨G, k, none⟩) (by simp; omega) (fun e => by have := HQ.out _ e; simp at this) _).setOther (a := ⟨G + 1, k, none⟩) (by simp; omega) (fun e => by have := HQ.out _ e; simp at this; omega) _
          have hbel5 : Below w.heap.size w ((w4.setCell ⟨G, k, none⟩ (.int .i64 (look S ss[k]).1)).setCell ⟨G + 1, k, none⟩ (.bool (look S ss[k]).2)) := (hbel4.setCell (p := ⟨G, k, none⟩) (by simp; omega) _).setCell (p := ⟨G + 1, k, none⟩) (by simp; omega) _
          clear hi hbo hi4 hbo4 hst4 HST hb4 hbel hbel4 hpl hpl' hmk hmk'
          go_wp2
          go_roundw
          case rel => exact ⟨k + 1, by omega, by go_num, HS4.out, HI.out, HB.out, hbel5⟩
          case measure => simp [intOf]; omega
        · obtain rfl : k = ss.length := by omega
          have e1 : part (ss.map fun s => (look S s).1) 0 ss.length = ss.map fun s => (look S s).1 := by
            have := part_all (ss.map fun s => (look S s).1) 0
            rwa [List.length_map] at this
          have e2 : part (ss.map fun s => (look S s).2) false ss.length = ss.map fun s => (look S s).2 := by
            have := part_all (ss.map fun s => (look S s).2) false
            rwa [List.length_map] at this
          rw [e1] at hi
          rw [e2] at hbo
          clear e1 e2
          have HI : Hid (Own wr G 1 ic (ss.map fun s => (look S s).1)) := hi
          have HB : Hid (Own wr (G + 1) 1 bc (ss.map fun s => (look S s).2)) := hbo
          have HST : Hid (Store wr w.heap.size w.heap.size q S) := hst
          clear hi hbo hst
          go_wp2_with fail
          refine (setInt_any HST.out (by omega) key x).mono ?_
          rintro e w5 ⟨rfl, ⟨q', hst5⟩, hb5, hf5⟩
          have hi5 := HI.out.of_block (hf5 G HI.out.lt (by omega) fun e => by have := HQ.out _ e; omega)
          have hbo5 := HB.out.of_block (hf5 (G + 1) HB.out.lt (by omega) fun e => by have := HQ.out _ e; omega)
          have hbel5 := hbel.trans hb5
          have hlen5 := put_len S key x
          clear HI HB HST hbel hb5 hf5 HQ
          have HL : Hid (look (put S key x) key = (x, true)) := look_put_same S key x
          have HLO : Hid (∀ k, keq k key = false → look (put S key x) k = look S k) := fun k h => look_put_other S key k x h
          generalize put S key x = S' at hst5 hlen5 HL HLO ⊢
          go_wp2_with fail
          refine (getInt_any hst5 (by omega) key).mono ?_
          rintro e w6 ⟨rfl, hb6⟩
          rw [HL.out]
          have hst6 := hst5.below hb6
          have hi6 := hi5.below hb6 hi5.lt
          have hbo6 := hbo5.below hb6 hbo5.lt
          have hbel6 := hbel5.trans (hb6.mono hbel5.size)
          clear hst5 hi5 hbo5 hbel5 hb6 HL
          go_wp2
          go_loopw [18] (fun i wr => ∃ k : Nat, k ≤ ss.length ∧ i = .int .i64 k ∧ Below w6.heap.size w6 wr) (fun i _ => ss.length - (intOf i).toNat)
          case atStart => exact ⟨0, Nat.zero_le _, rfl, Below.refl _ _⟩
          case round =>
            obtain ⟨k, hkl, rfl, hbk⟩ := hrel
            by_cases hlt' : k < ss.length
            · rcases hr with rfl | ⟨b, off, rfl, hb, hl⟩
              · simp at hlt'
              have hbelk := hbel6.trans (hbk.mono hbel6.size)
              have d0 := str_cell (hl.below hbelk hb) k hlt'
              have kI : (k : Int) < (ss.length : Int) := by omega
              clear hl
              cases hq : keq ss[k] key
              · have hq' : (ss[k].toList == key.toList) = false := hq
                have HLK : Hid (look S' ss[k] = look S ss[k]) := HLO.out _ hq
                have hstk := hst6.below hbk
                clear hq
                go_wp2_with fail
                refine (getInt_any hstk (by omega) ss[k]).mono ?_
                rintro e w7 ⟨rfl, hb7⟩
                rw [HLK.out]
                have hik := (hi6.below hbk hi6.lt)
                have hbok := (hbo6.below hbk hbo6.lt)
                have g0 : w7.cell? ⟨G, k, none⟩ = some (.int .i64 (look S ss[k]).1) := by
                  have := (hik.below hb7 hik.lt).atOne k (by simpa using hlt')
                  rw [List.getElem_map] at this
                  exact this
                have g1 : w7.cell? ⟨G + 1, k, none⟩ = some (.bool (look S ss[k]).2) := by
                  have := (hbok.below hb7 hbok.lt).atOne k (by simpa using hlt')
                  rw [List.getElem_map] at this
                  exact this
                have hbk7 := hbk.trans (hb7.mono hbk.size)
                clear hik hbok hstk HLK hbelk hb7
                go_wp2
                go_roundw
                case rel => exact ⟨k + 1, by omega, by go_num, hbk7⟩
                case measure => simp [intOf]; omega
              · have hq' : (ss[k].toList == key.toList) = true := hq
                clear hq
                go_wp2
                go_roundw
                case rel => exact ⟨k + 1, by omega, by go_num, hbk⟩
                case measure => simp [intOf]; omega
            · go_wp2
              go_ret
              exact ⟨rfl, hbel6.trans (hbk.mono hbel6.size)⟩

end Go.Proofs.Qxb6612351a
