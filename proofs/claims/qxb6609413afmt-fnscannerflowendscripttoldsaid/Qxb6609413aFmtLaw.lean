/-
  THE LAW's WALK: FnScannerFlowEndScript returns true, and nothing that was there has turned.
-/
import Derived.Test.Qxb6609413aFmtPlain
import Derived.Test.Qxb6609413aFmtNew
import Derived.Test.Qxb6609413aFmtOut
import Derived.Test.Qxb6609413aFmtBytes
namespace Go.Proofs.Qxb6609413aFmt
open Go.RowKit

def LawPost (w : World) (e : Ending) (w' : World) : Prop := e = .returned (.bool true) ∧ Below w.heap.size w w'

theorem wrap64_id (n : Int) (h1 : -9223372036854775808 ≤ n) (h2 : n ≤ 9223372036854775807) : wrap64 (n + ((0 : Nat) : Int)) = n := by unfold wrap64; omega
theorem step_wrap (p : Int) (i : Nat) : wrap64 (wrap64 (p + (i : Int)) + 1) = wrap64 (p + ((i + 1 : Nat) : Int)) := by unfold wrap64; omega

set_option maxHeartbeats 1600000 in
set_option maxRecDepth 100000 in
theorem law_walk (pos line col m : Int) (en an : Bool) (a a' a'' : Option Addr) (cap cap' cap'' : Nat) (ks : List Key) (ts : List Tok) (ss : List ByteArray) (w : World)
    (p1 : -9223372036854775808 ≤ pos) (p2 : pos ≤ 9223372036854775807) (c1 : -9223372036854775808 ≤ col) (c2 : col ≤ 9223372036854775807) (m1 : -9223372036854775808 ≤ m) (m2 : m ≤ 9223372036854775807)
    (hk : ks.length ≤ 9223372036854775807) (ht : ts.length ≤ 9223372036854775807) (hs : ss.length ≤ 9223372036854775807)
    (hr : RowAt w a 5 kc ks) (hr' : RowAt w a' 7 tc ts) (hr'' : RowAt w a'' 1 sc ss) :
    Calls Tryf.prog 3 #[.int .i64 pos, .int .i64 line, .int .i64 col, .slice a ks.length cap, .int .i64 m, .bool en, .bool an, .slice a' ts.length cap', .slice a'' ss.length cap''] w (LawPost w) := by
  go_enter Tryf.func3, Tryf.ntmps3
  go_wp2_with fail
  refine (bytes_any pos line col m en an a a' a'' cap cap' cap'' ks ts ss w hk ht hs hr' hr'').mono ?_
  rintro e w ⟨r, rfl, rfl⟩
  cases r
  · go_wp2
    go_ret
    exact ⟨rfl, Below.refl _ _⟩
  go_wp2_with fail
  refine (scannerBytes_any a a' cap cap' ks ts w hk ht hr').mono ?_
  rintro e w ⟨b1, rfl, hb1, hb1', rfl⟩
  go_wp2_with fail
  refine (kindsBytes_any a'' cap'' ss w hs hr'').mono ?_
  rintro e w ⟨b2, rfl, hb2, hb2', rfl⟩
  go_wp2_with fail
  refine (addLen_any b1 b2 w hb1 hb2).mono ?_
  rintro e w ⟨b3, rfl, hb3, hb3', hb3'', rfl⟩
  by_cases hbud : 1048576 < b3
  · clear hb1' hb2' hb3''
    go_wp2
    go_ret
    exact ⟨rfl, Below.refl _ _⟩
  obtain ⟨g1, g2⟩ := hb3'' (by omega)
  obtain ⟨hk', ht'⟩ := hb1' g1
  have hs' := hb2' g2
  clear hb1' hb2' hb3'' hk ht hs g1 g2 hb1 hb2 hb3 hb3'
  by_cases h0 : ks.length = 0
  · have hz : ((ks.length : Int) == 0) = true := by simpa using h0
    clear h0
    go_wp2
    go_ret
    exact ⟨rfl, Below.refl _ _⟩
  have h0' : 0 < ks.length := by omega
  have hz : ((ks.length : Int) == 0) = false := by simpa using h0
  clear h0
  go_wp2_with fail
  refine (drops_any a cap ss.length ks w hk' hs' hr).mono ?_
  rintro e w ⟨r, rfl, hmust, rfl⟩
  cases r
  case true =>
    clear hmust
    go_wp2
    go_ret
    exact ⟨rfl, Below.refl _ _⟩
  have HM : Hid (∀ i, (h : i < ks.length) → ks.length ≤ i + ss.length → 0 ≤ ks[i].tok → ks[i].must = false) := hmust rfl
  clear hmust
  go_wp2_with fail
  refine (toZZKeys_any a cap ks w hk' hr).mono ?_
  rintro e w1 ⟨g1, rfl, hg1, ho1, hbel1⟩
  go_wp2_with fail
  refine (toZZTokens_any a' cap' ts w1 ht' (hr'.below hbel1)).mono ?_
  rintro e w2 ⟨g2, rfl, hg2, ho2, hbel2⟩
  have hr1 : RowAt w2 (some ⟨g1, 0, none⟩) 5 kc ks := .inr ⟨g1, 0, rfl, (ho1.below hbel2 ho1.lt).lt, (ho1.below hbel2 ho1.lt).lies⟩
  have hr2 : RowAt w2 (some ⟨g2, 0, none⟩) 7 tc ts := .inr ⟨g2, 0, rfl, ho2.lt, ho2.lies⟩
  go_wp2_with fail
  refine (newScanner_any pos line col m en an _ _ ks.length ts.length ks ts w2 hk' ht' hr1 hr2).mono ?_
  rintro e w3 ⟨S, q, rfl, hscan, hbel3⟩
  have hb3 : Below w.heap.size w w3 := (hbel1.trans (hbel2.mono hbel1.size)).trans (hbel3.mono (Nat.le_trans hbel1.size hbel2.size))
  have hsc := hscan.mono (Nat.le_trans hbel1.size hbel2.size)
  clear hbel1 hbel2 hbel3 ho1 ho2 hr1 hr2 hscan hg1 hg2
  go_wp2_with fail
  go_loopw [22] (fun i wr => ∃ k : Nat, ∃ q : Value, k ≤ ss.length ∧ i = .int .i64 k ∧ Scan wr w.heap.size S (wrap64 (pos + (k : Int))) line (wrap64 (col + (k : Int))) (mst ks m k) (en && decide (k = 0)) an ks.length (kst ks k) q (tst ts ss pos line col k) ∧ Below w.heap.size w wr) (fun i _ => ss.length - (intOf i).toNat)
  case atStart =>
    refine ⟨0, q, Nat.zero_le _, rfl, ?_, hb3⟩
    rw [wrap64_id pos p1 p2, wrap64_id col c1 c2, mst_zero ks m h0' m1 m2, kst_zero ks h0', tst_zero]
    simpa using hsc
  case round =>
    clear hsc hb3
    obtain ⟨i, q, hi, rfl, hscan, hbel⟩ := hrel
    by_cases hlt : i < ss.length
    · rcases hr'' with rfl | ⟨b, off, rfl, hb, hl⟩
      · simp at hlt
      have s0 := str_cell (hl.below hbel hb) i hlt
      have HS : Hid (Scan wr w.heap.size S (wrap64 (pos + (i : Int))) line (wrap64 (col + (i : Int))) (mst ks m i) (en && decide (i = 0)) an ks.length (kst ks i) q (tst ts ss pos line col i)) := hscan
      clear hl hscan
      have hltI : (i : Int) < (ss.length : Int) := by omega
      go_wp2_with fail
      refine (ZZFlowEnd_any HS.out ss[i] (kst_pos ks i h0').1 (by have := (kst_pos ks i h0').2; omega) (kst_must ks i ss.length h0' hlt HM.out) (by rw [tst_len]; omega)).mono ?_
      rintro e w4 ⟨rfl, ⟨q', hs4⟩, hb4⟩
      rw [kst_step ks i h0', mst_step ks m i h0', tst_step ts ss pos line col i hlt] at hs4
      clear HS
      have HS4 : Hid (Scan w4 w.heap.size S (wrap64 (wrap64 (pos + (i : Int)) + 1)) line (wrap64 (wrap64 (col + (i : Int)) + 1)) (mst ks m (i + 1)) false an ks.length (kst ks (i + 1)) q' (tst ts ss pos line col (i + 1))) := hs4
      clear hs4
      have HR : Hid (Scan w4 w.heap.size S (wrap64 (pos + ((i + 1 : Nat) : Int))) line (wrap64 (col + ((i + 1 : Nat) : Int))) (mst ks m (i + 1)) (en && decide (i + 1 = 0)) an ks.length (kst ks (i + 1)) q' (tst ts ss pos line col (i + 1))) := by
        have := HS4.out
        have hen : (en && decide (i + 1 = 0)) = false := by simp
        rw [step_wrap, step_wrap] at this
        rw [hen]
        exact this
      have hb5 := hbel.trans hb4
      clear hbel hb4
      by_cases hA : i + 2 ≤ ks.length
      · have hL : ((kst ks (i + 1)).length : Int) = (ks.length : Int) - 1 - ((i : Int) + 1) + 1 := by rw [kst_len ks (i + 1) h0', if_pos (by omega)]; omega
        have HL : Hid (((kst ks (i + 1)).length : Int) = (ks.length : Int) - 1 - ((i : Int) + 1) + 1) := hL
        clear hL
        go_wp2_with fail
        refine (keyCount_any HS4.out).mono ?_
        rintro e w4 ⟨rfl, rfl⟩
        rw [HL.out]
        clear HL
        go_wp2_with fail
        refine (at_any HS4.out).mono ?_
        rintro e w5 ⟨rfl, nd, rfl⟩
        go_wp2
        go_roundw
        case rel => exact ⟨i + 1, q', by omega, by go_num, HR.out.drewN nd, below_drewN hb5 nd⟩
        case measure => simp [intOf]; omega
      · have hL : ((kst ks (i + 1)).length : Int) = 1 := by rw [kst_len ks (i + 1) h0']; split <;> omega
        have HL : Hid (((kst ks (i + 1)).length : Int) = 1) := hL
        clear hL
        go_wp2_with fail
        refine (keyCount_any HS4.out).mono ?_
        rintro e w4 ⟨rfl, rfl⟩
        rw [HL.out]
        clear HL
        go_wp2_with fail
        refine (at_any HS4.out).mono ?_
        rintro e w5 ⟨rfl, nd, rfl⟩
        go_wp2
        go_roundw
        case rel => exact ⟨i + 1, q', by omega, by go_num, HR.out.drewN nd, below_drewN hb5 nd⟩
        case measure => simp [intOf]; omega
    · obtain rfl : i = ss.length := by omega
      have HS : Hid (Scan wr w.heap.size S (wrap64 (pos + (ss.length : Int))) line (wrap64 (col + (ss.length : Int))) (mst ks m ss.length) (en && decide (ss.length = 0)) an ks.length (kst ks ss.length) q (tst ts ss pos line col ss.length)) := hscan
      clear hscan
      have hkl := kst_pos ks ss.length h0'
      have HE : Hid (wrap64 (mst ks m ss.length - (live (kst ks ss.length) : Int)) = wrap64 (m - (live ks : Int))) := mst_end ks m ss.length
      by_cases hA : ss.length + 1 ≤ ks.length
      · obtain ⟨F, HF⟩ : ∃ F, Hid (ks.length = F + 1 + ss.length) := ⟨ks.length - 1 - ss.length, by show _ = _; omega⟩
        have eF : ((ks.length : Int) - 1 - (ss.length : Int)) = (F : Int) := by have := HF.out; omega
        have HL : Hid ((kst ks ss.length).length = F + 1) := by
          show _ = _
          have := HF.out
          rw [kst_len ks _ h0', if_pos (by omega)]
          omega
        go_wp2_with fail
        clear eF
        refine (outKeys_any HS.out (by omega)).mono ?_
        rintro e w5 ⟨G, rfl, hG, hown, hbel5⟩
        have hs5 := HS.out.below hbel5
        have hb5 : Below w.heap.size w w5 := hbel.trans (hbel5.mono hbel.size)
        clear HS hbel hbel5 hG
        rw [HL.out]
        have hF1 : F + 1 ≤ 26214 := by have := HF.out; omega
        go_wp2_with fail
        go_loopw [29] (fun i wr => ∃ k : Nat, k ≤ F + 1 ∧ i = .int .i64 k ∧ Below w5.heap.size w5 wr) (fun i _ => F + 1 - (intOf i).toNat)
        case atStart => exact ⟨0, Nat.zero_le _, rfl, Below.refl _ _⟩
        case round =>
          obtain ⟨j, hj, rfl, hbj⟩ := hrel
          by_cases hlt' : j ≤ F
          · rcases hr with rfl | ⟨b, off, rfl, hb, hl⟩
            · simp at h0'
            have hjk : j < ks.length := by have := HF.out; omega
            have hjG : j < (kst ks ss.length).length := by rw [HL.out]; omega
            have eK : (kst ks ss.length)[j] = ks[j] := by
              have hA' : ss.length < ks.length := by omega
              simp only [kst, hA', if_true, List.getElem_take]
            have hbw := hb5.trans (hbj.mono hb5.size)
            obtain ⟨c0, c1, c2, c3, c4⟩ := key_cells (hl.below hbw hb) j hjk
            have hownj := hown.below hbj hown.lt
            have k0 : wr.cell? ⟨G, j * 5, none⟩ = some (.int .i64 ks[j].tok) := by rw [← eK]; exact hownj.at_ j hjG 0 (by decide)
            have k1 : wr.cell? ⟨G, j * 5 + 1, none⟩ = some (.int .i64 ks[j].pos) := by rw [← eK]; exact hownj.at_ j hjG 1 (by decide)
            have k2 : wr.cell? ⟨G, j * 5 + 2, none⟩ = some (.int .i64 ks[j].line) := by rw [← eK]; exact hownj.at_ j hjG 2 (by decide)
            have k3 : wr.cell? ⟨G, j * 5 + 3, none⟩ = some (.int .i64 ks[j].col) := by rw [← eK]; exact hownj.at_ j hjG 3 (by decide)
            have k4 : wr.cell? ⟨G, j * 5 + 4, none⟩ = some (.bool ks[j].must) := by rw [← eK]; exact hownj.at_ j hjG 4 (by decide)
            have hGlt := hownj.lt
            have hGlt1 : G < wr.heap.size + 1 := by omega
            have hGlt2 : G < wr.heap.size + 1 + 1 := by omega
            have hsz := hbj.size
            have hblt : b < wr.heap.size := Nat.lt_of_lt_of_le hb hbw.size
            have hd : ¬ ((ks.length : Int) - 1 < (ss.length : Int)) := by omega
            have hjI : (j : Int) < (ks.length : Int) := by omega
            have hjF : (j : Int) < (F : Int) + 1 := by omega
            clear eK hl hbw hownj
            by_cases hj0 : j = 0
            · have hjz : ((j : Int) == 0) = true := by simpa using hj0
              clear hj0
              go_wp2_with (go_at_call 16; refine (toZZKey_any _ _).mono ?_; rintro e w' ⟨rfl, o1, o2, rfl⟩)
              go_quiet (fail)
              go_wp2
              go_roundw
              case rel => exact ⟨j + 1, by omega, by go_num, below_drewN (((hbj.alloc hsz _).alloc (by simp; omega) _).alloc (by simp; omega) _) _⟩
              case measure => simp [intOf]; omega
            · have hjz : ((j : Int) == 0) = false := by simpa using hj0
              clear hj0
              go_wp2_with (go_at_call 16; refine (toZZKey_any _ _).mono ?_; rintro e w' ⟨rfl, o1, o2, rfl⟩)
              go_quiet (fail)
              go_wp2
              go_roundw
              case rel => exact ⟨j + 1, by omega, by go_num, below_drewN (((hbj.alloc hsz _).alloc (by simp; omega) _).alloc (by simp; omega) _) _⟩
              case measure => simp [intOf]; omega
          · obtain rfl : j = F + 1 := by omega
            clear hlt' hj
            have hs6 := hs5.below hbj
            have hown6 := hown.below hbj hown.lt
            have hb6 := hb5.trans (hbj.mono hb5.size)
            clear hs5 hown hb5 hbj
            have hrG : RowAt wr (some ⟨G, 0, none⟩) 5 kc (kst ks ss.length) := .inr ⟨G, 0, rfl, hown6.lt, hown6.lies⟩
            have hrK : RowAt wr a 5 kc ks := hr.below hb6
            have hlK := liveKeys_any (some ⟨G, 0, none⟩) (F + 1) (kst ks ss.length) wr (by omega) hrG
            rw [HL.out] at hlK
            have HLK : Hid (Calls Tryf.prog 18 #[.slice (some ⟨G, 0, none⟩) (F + 1) (F + 1)] wr fun e w' => e = .returned (.int .i64 (live (kst ks ss.length))) ∧ w' = wr) := hlK
            clear hlK hrG hown6
            have l1 := live_le (kst ks ss.length)
            have l2 := live_le ks
            go_wp2_with fail
            refine (maybe_any hs6).mono ?_
            rintro e wr ⟨rfl, rfl⟩
            go_wp2_with fail
            refine HLK.out.mono ?_
            rintro e wr ⟨rfl, rfl⟩
            clear HLK
            go_wp2_with fail
            refine (liveIn_any a cap ks wr hk' hrK).mono ?_
            rintro e wr ⟨rfl, rfl⟩
            have hE := HE.out
            go_wp2_with fail
            clear hE HE
            refine (flags_any hs6).mono ?_
            rintro e w7 ⟨rfl, nd, rfl⟩
            have hs7 := hs6.drewN nd
            have hb7 := below_drewN hb6 nd
            clear hs6 hb6 hrK l1 l2
            have hz : ((ss.length : Int) == 0) = decide (ss.length = 0) := by
              by_cases c : ss.length = 0
              · simp [c]
              · simp [c]
            generalize wr.drewN nd = w7 at hs7 hb7 ⊢
            clear HL hr
            cases en
            all_goals
              go_wp2_with fail
              clear hz
              refine (outQueue_any hs7 (by rw [tst_len]; omega)).mono ?_
              rintro e w8 ⟨G2, rfl, hG2, hown8, hbel8⟩
              rw [tst_len]
              have hb8 := hb7.trans (hbel8.mono hb7.size)
              clear hb7 hbel8 hs7 hG2
              go_wp2_with fail
              go_loopw [34] (fun i wr => ∃ k : Nat, k ≤ ts.length ∧ i = .int .i64 k ∧ Below w8.heap.size w8 wr) (fun i _ => ts.length - (intOf i).toNat)
              case atStart => exact ⟨0, Nat.zero_le _, rfl, Below.refl _ _⟩
              case round =>
                obtain ⟨j, hj, rfl, hbj⟩ := hrel
                by_cases hlt' : j < ts.length
                · rcases hr' with rfl | ⟨b, off, rfl, hb, hl⟩
                  · simp at hlt'
                  have hjT : j < (tst ts ss pos line col ss.length).length := by rw [tst_len]; omega
                  have eT := tst_old ts ss pos line col ss.length j hlt' hjT
                  have hbw := hb8.trans (hbj.mono hb8.size)
                  obtain ⟨c0, c1, c2, c3, c4, c5, c6⟩ := tok_cells (hl.below hbw hb) j hlt'
                  have hownj := hown8.below hbj hown8.lt
                  have k0 : wr.cell? ⟨G2, j * 7, none⟩ = some (.string ts[j].kind) := by rw [← eT]; exact hownj.at_ j hjT 0 (by decide)
                  have k1 : wr.cell? ⟨G2, j * 7 + 1, none⟩ = some (.string ts[j].value) := by rw [← eT]; exact hownj.at_ j hjT 1 (by decide)
                  have k2 : wr.cell? ⟨G2, j * 7 + 2, none⟩ = some (.string ts[j].handle) := by rw [← eT]; exact hownj.at_ j hjT 2 (by decide)
                  have k3 : wr.cell? ⟨G2, j * 7 + 3, none⟩ = some (.string ts[j].style) := by rw [← eT]; exact hownj.at_ j hjT 3 (by decide)
                  have k4 : wr.cell? ⟨G2, j * 7 + 4, none⟩ = some (.int .i64 ts[j].pos) := by rw [← eT]; exact hownj.at_ j hjT 4 (by decide)
                  have k5 : wr.cell? ⟨G2, j * 7 + 5, none⟩ = some (.int .i64 ts[j].line) := by rw [← eT]; exact hownj.at_ j hjT 5 (by decide)
                  have k6 : wr.cell? ⟨G2, j * 7 + 6, none⟩ = some (.int .i64 ts[j].col) := by rw [← eT]; exact hownj.at_ j hjT 6 (by decide)
                  have hGlt := hownj.lt
                  have hGlt1 : G2 < wr.heap.size + 1 := by omega
                  have hsz := hbj.size
                  have hblt : b < wr.heap.size := Nat.lt_of_lt_of_le hb hbw.size
                  have hblt1 : b < wr.heap.size + 1 := by omega
                  have hjI : (j : Int) < (ts.length : Int) := by omega
                  have hjF : (j : Int) < (ts.length : Int) + (ss.length : Int) := by omega
                  clear eT hl hbw hownj hjT
                  go_wp2
                  go_region_held3 (fun w' => w'.cell? ⟨G2, j * 7, none⟩ = some (.string ts[j].kind) ∧ w'.cell? ⟨G2, j * 7 + 1, none⟩ = some (.string ts[j].value) ∧ w'.cell? ⟨G2, j * 7 + 2, none⟩ = some (.string ts[j].handle) ∧ w'.cell? ⟨G2, j * 7 + 3, none⟩ = some (.string ts[j].style) ∧ w'.cell? ⟨G2, j * 7 + 4, none⟩ = some (.int .i64 ts[j].pos) ∧ w'.cell? ⟨G2, j * 7 + 5, none⟩ = some (.int .i64 ts[j].line) ∧ w'.cell? ⟨G2, j * 7 + 6, none⟩ = some (.int .i64 ts[j].col) ∧ w'.cell? ⟨b, off + j * 7, none⟩ = some (.string ts[j].kind) ∧ w'.cell? ⟨b, off + j * 7 + 1, none⟩ = some (.string ts[j].value) ∧ w'.cell? ⟨b, off + j * 7 + 2, none⟩ = some (.string ts[j].handle) ∧ w'.cell? ⟨b, off + j * 7 + 3, none⟩ = some (.string ts[j].style) ∧ w'.cell? ⟨b, off + j * 7 + 4, none⟩ = some (.int .i64 ts[j].pos) ∧ w'.cell? ⟨b, off + j * 7 + 5, none⟩ = some (.int .i64 ts[j].line) ∧ w'.cell? ⟨b, off + j * 7 + 6, none⟩ = some (.int .i64 ts[j].col)) (simp [go_sem, *]) (first | (go_at_call 22; refine (toZZToken_any _ _).mono ?_; rintro e w' ⟨rfl, o1, o2, rfl⟩))
                  go_wp2
                  go_roundw
                  case rel => exact ⟨j + 1, by omega, by go_num, ((hbj.alloc hsz _).alloc (by simp; omega) _).drew⟩
                  case measure => simp [intOf]; omega
                · obtain rfl : j = ts.length := by omega
                  have hown9 := hown8.below hbj hown8.lt
                  have hb9 := hb8.trans (hbj.mono hb8.size)
                  clear hb8 hbj hown8 hlt' hj
                  go_wp2
                  go_loopw [35] (fun i wr => ∃ k : Nat, k ≤ ss.length ∧ i = .int .i64 k ∧ Own wr G2 7 tc (tst ts ss pos line col ss.length) ∧ Below w.heap.size w wr) (fun i _ => ss.length - (intOf i).toNat)
                  case atStart => exact ⟨0, Nat.zero_le _, rfl, hown9, hb9⟩
                  case round =>
                    clear hown9 hb9
                    obtain ⟨j, hj, rfl, hownj, hbj⟩ := hrel
                    by_cases hlt' : j < ss.length
                    · rcases hr'' with rfl | ⟨b, off, rfl, hb, hl⟩
                      · simp at hlt'
                      have hjT : ts.length + j < (tst ts ss pos line col ss.length).length := by rw [tst_len]; omega
                      have eT := tst_new ts ss pos line col ss.length j hlt' hlt' hjT
                      have s0 := str_cell (hl.below hbj hb) j hlt'
                      have k0 : wr.cell? ⟨G2, (ts.length + j) * 7, none⟩ = some (.string ss[j]) := by have := hownj.at_ _ hjT 0 (by decide); rw [eT] at this; exact this
                      have k1 : wr.cell? ⟨G2, (ts.length + j) * 7 + 1, none⟩ = some (.string ByteArray.empty) := by have := hownj.at_ _ hjT 1 (by decide); rw [eT] at this; exact this
                      have k2 : wr.cell? ⟨G2, (ts.length + j) * 7 + 2, none⟩ = some (.string ByteArray.empty) := by have := hownj.at_ _ hjT 2 (by decide); rw [eT] at this; exact this
                      have k3 : wr.cell? ⟨G2, (ts.length + j) * 7 + 3, none⟩ = some (.string ByteArray.empty) := by have := hownj.at_ _ hjT 3 (by decide); rw [eT] at this; exact this
                      have k4 : wr.cell? ⟨G2, (ts.length + j) * 7 + 4, none⟩ = some (.int .i64 (wrap64 (pos + (j : Int)))) := by have := hownj.at_ _ hjT 4 (by decide); rw [eT] at this; exact this
                      have k5 : wr.cell? ⟨G2, (ts.length + j) * 7 + 5, none⟩ = some (.int .i64 line) := by have := hownj.at_ _ hjT 5 (by decide); rw [eT] at this; exact this
                      have k6 : wr.cell? ⟨G2, (ts.length + j) * 7 + 6, none⟩ = some (.int .i64 (wrap64 (col + (j : Int)))) := by have := hownj.at_ _ hjT 6 (by decide); rw [eT] at this; exact this
                      have hjI : (j : Int) < (ss.length : Int) := by omega
                      have hjF : (ts.length : Int) + (j : Int) < (ts.length : Int) + (ss.length : Int) := by omega
                      clear eT hl hjT
                      go_wp2
                      go_quiet (fail)
                      go_wp2
                      go_roundw
                      case rel => exact ⟨j + 1, by omega, by go_num, hownj.of_block rfl, below_drewN hbj _⟩
                      case measure => simp [intOf]; omega
                    · go_wp2
                      go_ret
                      exact ⟨rfl, hbj⟩
      · have HL : Hid ((kst ks ss.length).length = 1) := by
          show _ = _
          rw [kst_len ks _ h0', if_neg (by omega)]
        have hneg : (ks.length : Int) - 1 - (ss.length : Int) < 0 := by omega
        go_wp2_with fail
        clear hneg
        refine (outKeys_any HS.out (by omega)).mono ?_
        rintro e w5 ⟨G, rfl, hG, hown, hbel5⟩
        have hs5 := HS.out.below hbel5
        have hb5 : Below w.heap.size w w5 := hbel.trans (hbel5.mono hbel.size)
        clear HS hbel hbel5 hG
        rw [HL.out]
        go_wp2_with fail
        go_loopw [29] (fun i wr => ∃ k : Nat, k ≤ 1 ∧ i = .int .i64 k ∧ Below w5.heap.size w5 wr) (fun i _ => 1 - (intOf i).toNat)
        case atStart => exact ⟨0, Nat.zero_le _, rfl, Below.refl _ _⟩
        case round =>
          obtain ⟨j, hj, rfl, hbj⟩ := hrel
          by_cases hlt' : j ≤ 0
          · rcases hr with rfl | ⟨b, off, rfl, hb, hl⟩
            · simp at h0'
            obtain rfl : j = 0 := by omega
            have hjG : 0 < (kst ks ss.length).length := by rw [HL.out]; omega
            have eK : (kst ks ss.length)[0] = deadIf ks[0] := by
              have hA' : ¬ ss.length < ks.length := by omega
              simp only [kst, hA', if_false, List.getElem_cons_zero, headD_eq ks h0']
            have hbw := hb5.trans (hbj.mono hb5.size)
            obtain ⟨c0, c1, c2, c3, c4⟩ := key_cells (hl.below hbw hb) 0 h0'
            have d0 : wr.cell? ⟨b, off, none⟩ = some (.int .i64 ks[0].tok) := c0
            have d1 : wr.cell? ⟨b, off + 1, none⟩ = some (.int .i64 ks[0].pos) := c1
            have d2 : wr.cell? ⟨b, off + 2, none⟩ = some (.int .i64 ks[0].line) := c2
            have d3 : wr.cell? ⟨b, off + 3, none⟩ = some (.int .i64 ks[0].col) := c3
            have d4 : wr.cell? ⟨b, off + 4, none⟩ = some (.bool ks[0].must) := c4
            have hownj := hown.below hbj hown.lt
            have k0 : wr.cell? ⟨G, 0, none⟩ = some (.int .i64 (deadIf ks[0]).tok) := by rw [← eK]; exact hownj.at_ 0 hjG 0 (by decide)
            have k1 : wr.cell? ⟨G, 1, none⟩ = some (.int .i64 (deadIf ks[0]).pos) := by rw [← eK]; exact hownj.at_ 0 hjG 1 (by decide)
            have k2 : wr.cell? ⟨G, 2, none⟩ = some (.int .i64 (deadIf ks[0]).line) := by rw [← eK]; exact hownj.at_ 0 hjG 2 (by decide)
            have k3 : wr.cell? ⟨G, 3, none⟩ = some (.int .i64 (deadIf ks[0]).col) := by rw [← eK]; exact hownj.at_ 0 hjG 3 (by decide)
            have k4 : wr.cell? ⟨G, 4, none⟩ = some (.bool (deadIf ks[0]).must) := by rw [← eK]; exact hownj.at_ 0 hjG 4 (by decide)
            have hGlt := hownj.lt
            have hGlt1 : G < wr.heap.size + 1 := by omega
            have hGlt2 : G < wr.heap.size + 1 + 1 := by omega
            have hsz := hbj.size
            have hblt : b < wr.heap.size := Nat.lt_of_lt_of_le hb hbw.size
            have hd : (ks.length : Int) - 1 < (ss.length : Int) := by omega
            have hjI : (0 : Int) < (ks.length : Int) := by omega
            clear eK hl hbw hownj c0 c1 c2 c3 c4
            by_cases htk : (0 : Int) ≤ ks[0].tok
            · have ed : deadIf ks[0] = dead ks[0] := by rw [deadIf, if_pos htk]
              rw [ed] at k0 k1 k2 k3 k4
              simp only [dead] at k0 k1 k2 k3 k4
              clear ed
              go_wp2_with (go_at_call 16; refine (toZZKey_any _ _).mono ?_; rintro e w' ⟨rfl, o1, o2, rfl⟩)
              go_quiet (fail)
              go_wp2
              go_roundw
              case rel => exact ⟨1, by omega, by go_num, below_drewN (((hbj.alloc hsz _).alloc (by simp; omega) _).alloc (by simp; omega) _) _⟩
              case measure => simp [intOf]
            · have ed : deadIf ks[0] = ks[0] := by rw [deadIf, if_neg htk]
              rw [ed] at k0 k1 k2 k3 k4
              clear ed
              go_wp2_with (go_at_call 16; refine (toZZKey_any _ _).mono ?_; rintro e w' ⟨rfl, o1, o2, rfl⟩)
              go_quiet (fail)
              go_wp2
              go_roundw
              case rel => exact ⟨1, by omega, by go_num, below_drewN (((hbj.alloc hsz _).alloc (by simp; omega) _).alloc (by simp; omega) _) _⟩
              case measure => simp [intOf]
          · obtain rfl : j = 1 := by omega
            clear hlt' hj
            have hs6 := hs5.below hbj
            have hown6 := hown.below hbj hown.lt
            have hb6 := hb5.trans (hbj.mono hb5.size)
            clear hs5 hown hb5 hbj
            have hrG : RowAt wr (some ⟨G, 0, none⟩) 5 kc (kst ks ss.length) := .inr ⟨G, 0, rfl, hown6.lt, hown6.lies⟩
            have hrK : RowAt wr a 5 kc ks := hr.below hb6
            have hlK := liveKeys_any (some ⟨G, 0, none⟩) (1) (kst ks ss.length) wr (by omega) hrG
            rw [HL.out] at hlK
            have HLK : Hid (Calls Tryf.prog 18 #[.slice (some ⟨G, 0, none⟩) (1) (1)] wr fun e w' => e = .returned (.int .i64 (live (kst ks ss.length))) ∧ w' = wr) := hlK
            clear hlK hrG hown6
            have l1 := live_le (kst ks ss.length)
            have l2 := live_le ks
            go_wp2_with fail
            refine (maybe_any hs6).mono ?_
            rintro e wr ⟨rfl, rfl⟩
            go_wp2_with fail
            refine HLK.out.mono ?_
            rintro e wr ⟨rfl, rfl⟩
            clear HLK
            go_wp2_with fail
            refine (liveIn_any a cap ks wr hk' hrK).mono ?_
            rintro e wr ⟨rfl, rfl⟩
            have hE := HE.out
            go_wp2_with fail
            clear hE HE
            refine (flags_any hs6).mono ?_
            rintro e w7 ⟨rfl, nd, rfl⟩
            have hs7 := hs6.drewN nd
            have hb7 := below_drewN hb6 nd
            clear hs6 hb6 hrK l1 l2
            have hz : ((ss.length : Int) == 0) = decide (ss.length = 0) := by
              by_cases c : ss.length = 0
              · simp [c]
              · simp [c]
            generalize wr.drewN nd = w7 at hs7 hb7 ⊢
            clear HL hr
            cases en
            all_goals
              go_wp2_with fail
              clear hz
              refine (outQueue_any hs7 (by rw [tst_len]; omega)).mono ?_
              rintro e w8 ⟨G2, rfl, hG2, hown8, hbel8⟩
              rw [tst_len]
              have hb8 := hb7.trans (hbel8.mono hb7.size)
              clear hb7 hbel8 hs7 hG2
              go_wp2_with fail
              go_loopw [34] (fun i wr => ∃ k : Nat, k ≤ ts.length ∧ i = .int .i64 k ∧ Below w8.heap.size w8 wr) (fun i _ => ts.length - (intOf i).toNat)
              case atStart => exact ⟨0, Nat.zero_le _, rfl, Below.refl _ _⟩
              case round =>
                obtain ⟨j, hj, rfl, hbj⟩ := hrel
                by_cases hlt' : j < ts.length
                · rcases hr' with rfl | ⟨b, off, rfl, hb, hl⟩
                  · simp at hlt'
                  have hjT : j < (tst ts ss pos line col ss.length).length := by rw [tst_len]; omega
                  have eT := tst_old ts ss pos line col ss.length j hlt' hjT
                  have hbw := hb8.trans (hbj.mono hb8.size)
                  obtain ⟨c0, c1, c2, c3, c4, c5, c6⟩ := tok_cells (hl.below hbw hb) j hlt'
                  have hownj := hown8.below hbj hown8.lt
                  have k0 : wr.cell? ⟨G2, j * 7, none⟩ = some (.string ts[j].kind) := by rw [← eT]; exact hownj.at_ j hjT 0 (by decide)
                  have k1 : wr.cell? ⟨G2, j * 7 + 1, none⟩ = some (.string ts[j].value) := by rw [← eT]; exact hownj.at_ j hjT 1 (by decide)
                  have k2 : wr.cell? ⟨G2, j * 7 + 2, none⟩ = some (.string ts[j].handle) := by rw [← eT]; exact hownj.at_ j hjT 2 (by decide)
                  have k3 : wr.cell? ⟨G2, j * 7 + 3, none⟩ = some (.string ts[j].style) := by rw [← eT]; exact hownj.at_ j hjT 3 (by decide)
                  have k4 : wr.cell? ⟨G2, j * 7 + 4, none⟩ = some (.int .i64 ts[j].pos) := by rw [← eT]; exact hownj.at_ j hjT 4 (by decide)
                  have k5 : wr.cell? ⟨G2, j * 7 + 5, none⟩ = some (.int .i64 ts[j].line) := by rw [← eT]; exact hownj.at_ j hjT 5 (by decide)
                  have k6 : wr.cell? ⟨G2, j * 7 + 6, none⟩ = some (.int .i64 ts[j].col) := by rw [← eT]; exact hownj.at_ j hjT 6 (by decide)
                  have hGlt := hownj.lt
                  have hGlt1 : G2 < wr.heap.size + 1 := by omega
                  have hsz := hbj.size
                  have hblt : b < wr.heap.size := Nat.lt_of_lt_of_le hb hbw.size
                  have hblt1 : b < wr.heap.size + 1 := by omega
                  have hjI : (j : Int) < (ts.length : Int) := by omega
                  have hjF : (j : Int) < (ts.length : Int) + (ss.length : Int) := by omega
                  clear eT hl hbw hownj hjT
                  go_wp2
                  go_region_held3 (fun w' => w'.cell? ⟨G2, j * 7, none⟩ = some (.string ts[j].kind) ∧ w'.cell? ⟨G2, j * 7 + 1, none⟩ = some (.string ts[j].value) ∧ w'.cell? ⟨G2, j * 7 + 2, none⟩ = some (.string ts[j].handle) ∧ w'.cell? ⟨G2, j * 7 + 3, none⟩ = some (.string ts[j].style) ∧ w'.cell? ⟨G2, j * 7 + 4, none⟩ = some (.int .i64 ts[j].pos) ∧ w'.cell? ⟨G2, j * 7 + 5, none⟩ = some (.int .i64 ts[j].line) ∧ w'.cell? ⟨G2, j * 7 + 6, none⟩ = some (.int .i64 ts[j].col) ∧ w'.cell? ⟨b, off + j * 7, none⟩ = some (.string ts[j].kind) ∧ w'.cell? ⟨b, off + j * 7 + 1, none⟩ = some (.string ts[j].value) ∧ w'.cell? ⟨b, off + j * 7 + 2, none⟩ = some (.string ts[j].handle) ∧ w'.cell? ⟨b, off + j * 7 + 3, none⟩ = some (.string ts[j].style) ∧ w'.cell? ⟨b, off + j * 7 + 4, none⟩ = some (.int .i64 ts[j].pos) ∧ w'.cell? ⟨b, off + j * 7 + 5, none⟩ = some (.int .i64 ts[j].line) ∧ w'.cell? ⟨b, off + j * 7 + 6, none⟩ = some (.int .i64 ts[j].col)) (simp [go_sem, *]) (first | (go_at_call 22; refine (toZZToken_any _ _).mono ?_; rintro e w' ⟨rfl, o1, o2, rfl⟩))
                  go_wp2
                  go_roundw
                  case rel => exact ⟨j + 1, by omega, by go_num, ((hbj.alloc hsz _).alloc (by simp; omega) _).drew⟩
                  case measure => simp [intOf]; omega
                · obtain rfl : j = ts.length := by omega
                  have hown9 := hown8.below hbj hown8.lt
                  have hb9 := hb8.trans (hbj.mono hb8.size)
                  clear hb8 hbj hown8 hlt' hj
                  go_wp2
                  go_loopw [35] (fun i wr => ∃ k : Nat, k ≤ ss.length ∧ i = .int .i64 k ∧ Own wr G2 7 tc (tst ts ss pos line col ss.length) ∧ Below w.heap.size w wr) (fun i _ => ss.length - (intOf i).toNat)
                  case atStart => exact ⟨0, Nat.zero_le _, rfl, hown9, hb9⟩
                  case round =>
                    clear hown9 hb9
                    obtain ⟨j, hj, rfl, hownj, hbj⟩ := hrel
                    by_cases hlt' : j < ss.length
                    · rcases hr'' with rfl | ⟨b, off, rfl, hb, hl⟩
                      · simp at hlt'
                      have hjT : ts.length + j < (tst ts ss pos line col ss.length).length := by rw [tst_len]; omega
                      have eT := tst_new ts ss pos line col ss.length j hlt' hlt' hjT
                      have s0 := str_cell (hl.below hbj hb) j hlt'
                      have k0 : wr.cell? ⟨G2, (ts.length + j) * 7, none⟩ = some (.string ss[j]) := by have := hownj.at_ _ hjT 0 (by decide); rw [eT] at this; exact this
                      have k1 : wr.cell? ⟨G2, (ts.length + j) * 7 + 1, none⟩ = some (.string ByteArray.empty) := by have := hownj.at_ _ hjT 1 (by decide); rw [eT] at this; exact this
                      have k2 : wr.cell? ⟨G2, (ts.length + j) * 7 + 2, none⟩ = some (.string ByteArray.empty) := by have := hownj.at_ _ hjT 2 (by decide); rw [eT] at this; exact this
                      have k3 : wr.cell? ⟨G2, (ts.length + j) * 7 + 3, none⟩ = some (.string ByteArray.empty) := by have := hownj.at_ _ hjT 3 (by decide); rw [eT] at this; exact this
                      have k4 : wr.cell? ⟨G2, (ts.length + j) * 7 + 4, none⟩ = some (.int .i64 (wrap64 (pos + (j : Int)))) := by have := hownj.at_ _ hjT 4 (by decide); rw [eT] at this; exact this
                      have k5 : wr.cell? ⟨G2, (ts.length + j) * 7 + 5, none⟩ = some (.int .i64 line) := by have := hownj.at_ _ hjT 5 (by decide); rw [eT] at this; exact this
                      have k6 : wr.cell? ⟨G2, (ts.length + j) * 7 + 6, none⟩ = some (.int .i64 (wrap64 (col + (j : Int)))) := by have := hownj.at_ _ hjT 6 (by decide); rw [eT] at this; exact this
                      have hjI : (j : Int) < (ss.length : Int) := by omega
                      have hjF : (ts.length : Int) + (j : Int) < (ts.length : Int) + (ss.length : Int) := by omega
                      clear eT hl hjT
                      go_wp2
                      go_quiet (fail)
                      go_wp2
                      go_roundw
                      case rel => exact ⟨j + 1, by omega, by go_num, hownj.of_block rfl, below_drewN hbj _⟩
                      case measure => simp [intOf]; omega
                    · go_wp2
                      go_ret
                      exact ⟨rfl, hbj⟩

end Go.Proofs.Qxb6609413aFmt
