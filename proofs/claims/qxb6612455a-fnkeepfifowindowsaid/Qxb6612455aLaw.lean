/-
  FnKeepFifoWindow, WALKED.
-/
import Derived.Test.Qxb6612455aNew
import Derived.Test.Qxb6612455aReads
namespace Go.Proofs.Qxb6612455a
open Go.RowKit

theorem neq33_nil (w : World) : (binOp .neq 33 (.pointer none) (.pointer none)).run Try.prog w = .ok (.bool false) w := by kernel_rfl
theorem neq27_nil (w : World) : (binOp .neq 27 (.pointer none) (.pointer none)).run Try.prog w = .ok (.bool false) w := by kernel_rfl
theorem eql27_nil (w : World) (a : Addr) : (binOp .eql 27 (.pointer (some a)) (.pointer none)).run Try.prog w = .ok (.bool false) w := by kernel_rfl

section
variable {E : Env} {w : World} {n lo t : Nat}
theorem Full.made' (f : Full E w n lo t) (ht : lo + n = t) :
    Full { E with kb := fun j => if j = t then w.heap.size else E.kb j } (w.alloc (.cells #[.pointer (some ⟨E.W, 0, none⟩), .string (E.txt t), .int .i64 (-1), .int .i64 ((t : Int) + 1), .int .i64 0] 82)) n lo (t + 1) := by
  subst ht
  exact f.made
/-- The cache as the law wants it behind t keeps. -/
def After (E : Env) (w : World) (t : Nat) : Prop := ∃ n lo, Full E w n lo t ∧ lo + n = t ∧ n = min t (4 * E.n)
def KeepPost2 (E : Env) (t : Nat) (e : Ending) (w' : World) : Prop := e = .returned (.tuple #[]) ∧ After E w' (t + 1)
theorem keepZ_any' (f : Full E w n lo (t + 1)) (ht : lo + n = t) (hn : n = min t (4 * E.n)) (hN : E.n ≤ 8192) (hd : ∀ i j, i ≤ t → j ≤ t → E.txt i = E.txt j → i = j) {K : Nat} (hK : E.kb t = K) :
    Calls Try.prog 9 #[.pointer (some ⟨E.C, 0, none⟩), .pointer (some ⟨K, 0, none⟩)] w (KeepPost2 E t) := by
  subst hK ht
  refine (keepZ_any f (by omega) hN hd).mono fun e w' ⟨h1, h2⟩ => ⟨h1, ?_⟩
  rcases h2 with ⟨h3, h4⟩ | ⟨h3, h4⟩
  · exact ⟨n + 1, lo, h4, by omega, by omega⟩
  · exact ⟨n, lo + 1, h4, by omega, by omega⟩
end

def LawPost (w : World) (e : Ending) (w' : World) : Prop := e = .returned (.bool true) ∧ Below w.heap.size w w'
theorem below_drewN (w : World) (d : Nat) : Below w.heap.size w (w.drewN d) := ⟨rfl, rfl, rfl, Nat.le_refl _, fun _ _ => rfl⟩

set_option maxHeartbeats 4000000 in
set_option maxRecDepth 100000 in
theorem law_walk (x : Int) (a : Option Addr) (cap n : Nat) (T : Nat → ByteArray) (w : World) (hm : n ≤ 9223372036854775807) (hr : TxtAt w a n T) :
    Calls Try.prog 3 #[.int .i64 x, .slice a n cap] w (LawPost w) := by
  go_enter Try.func3, Try.ntmps3
  go_wp2_with fail
  refine (bytes_any x a cap n T w hm hr).mono ?_
  rintro e w ⟨r, rfl, rfl⟩
  cases r
  · go_wp2
    go_ret
    exact ⟨rfl, Below.refl _ _⟩
  by_cases c1 : 4096 < n
  · go_wp2
    go_ret
    exact ⟨rfl, Below.refl _ _⟩
  go_wp2_with fail
  refine (fit_any a cap n T w (by omega) hr).mono ?_
  rintro e w ⟨r, rfl, rfl⟩
  cases r
  · go_wp2
    go_ret
    exact ⟨rfl, Below.refl _ _⟩
  by_cases c2 : x < 0
  · go_wp2
    go_ret
    exact ⟨rfl, Below.refl _ _⟩
  by_cases c3 : 8192 < x
  · go_wp2
    go_ret
    exact ⟨rfl, Below.refl _ _⟩
  obtain ⟨N, rfl⟩ : ∃ N : Nat, x = (N : Int) := ⟨x.toNat, by omega⟩
  have hN : N ≤ 8192 := by omega
  have hn : n ≤ 4096 := by omega
  clear c1 c2 c3 hm
  go_wp2_with fail
  refine (dist_any a cap n T w hn hr).mono ?_
  rintro e w1 ⟨r, rfl, ⟨d, rfl⟩, hdist⟩
  cases r
  · clear hdist
    go_wp2
    go_ret
    exact ⟨rfl, below_drewN w d⟩
  have HD : Hid (∀ i j, i < n → j < n → T i = T j → i = j) := by
    intro i j hi hj e
    rcases Nat.lt_trichotomy i j with h1 | h1 | h1
    · exact absurd e.symm (hdist rfl j hj i h1)
    · exact h1
    · exact absurd e (hdist rfl i hi j h1)
  have hr0 : TxtAt (w.drewN d) a n T := hr
  have hB0 := below_drewN w d
  have hz0 : (w.drewN d).heap.size = w.heap.size := rfl
  clear hdist hr
  generalize w.drewN d = w0 at hr0 hB0 hz0 ⊢
  go_wp2_with fail
  refine (new_any N hN w0).mono ?_
  rintro e w2 ⟨C, M, W, Nb, rest, rfl, hnew⟩
  have HI : Hid (∃ kb, After ⟨w0, C, M, W, Nb, N, rest, kb, T⟩ w2 0) := ⟨fun _ => 0, 0, 0, hnew T _, rfl, by simp⟩
  clear hnew
  go_wp2
  go_loopw [7] (fun i wr => ∃ t : Nat, t ≤ n ∧ i = .int .i64 t ∧ Hid (∃ kb, After ⟨w0, C, M, W, Nb, N, rest, kb, T⟩ wr t)) (fun i _ => n - (intOf i).toNat)
  case atStart => exact ⟨0, Nat.zero_le _, rfl, HI⟩
  case round =>
    clear HI
    obtain ⟨t, ht, rfl, HI⟩ := hrel
    obtain ⟨kb, c, lo, F, e1, e2⟩ := HI.out
    clear HI
    by_cases hlt : t < n
    · rcases hr0 with rfl | ⟨b, off, rfl, hb, hl⟩
      · simp at hlt
      obtain ⟨a0, cap0, ix0, h0, m0, _⟩ := id F
      have c3 := m0.bC.cell (j := 3) rfl
      have d0 := (m0.bel.cell (p := ⟨b, off + t, none⟩) hb).trans (hl t hlt)
      have F1 := F.made' e1
      have HK := keepZ_any' F1 e1 e2 hN (fun i j hi hj e => HD.out i j (by omega) (by omega) e) (K := wr.heap.size) (if_pos rfl)
      have hNK := newKept_any C W t (T t) wr c3
      have HL : Hid (∀ k, k < n → w0.cell? ⟨b, off + k, none⟩ = some (.string (T k))) := hl
      have hkb : (fun j => if j = t then wr.heap.size else kb j) t = wr.heap.size := if_pos rfl
      generalize (fun j => if j = t then wr.heap.size else kb j) = kb1 at F1 HK hkb
      clear F m0 F1 hl e1 e2
      go_wp2_with fail
      refine hNK.mono ?_
      rintro e w3 ⟨rfl, rfl⟩
      clear hNK
      go_wp2_with fail
      refine HK.mono ?_
      rintro e w4 ⟨rfl, c', lo', F4, e3, e4'⟩
      have e4 : c' = min (t + 1) (4 * N) := e4'
      clear e4'
      obtain ⟨a4, cap4, ix4, h4, m4, _⟩ := id F4
      have c4 := m4.bC.cell (j := 4) rfl
      have c5 := m4.bC.cell (j := 5) rfl
      have c6 := m4.bC.cell (j := 6) rfl
      have c9 := m4.bC.cell (j := 9) rfl
      have d4 := (m4.bel.cell (p := ⟨b, off + t, none⟩) hb).trans (HL.out t hlt)
      have hMin := min_any (t + 1) (4 * N) w4
      rw [← e4, show ((t + 1 : Nat) : Int) = (t : Int) + 1 from rfl, show ((4 * N : Nat) : Int) = 4 * (N : Int) from by omega] at hMin
      have hKL := keptLen_any c4 fun ty => run_lenM ty m4.bM
      have hHd := held_any c6
      have hQL := queueLen_any c5
      have hSp := spare_any c9
      have HA : Hid (∃ kb, After ⟨w0, C, M, W, Nb, N, rest, kb, T⟩ w4 (t + 1)) := ⟨kb1, c', lo', F4, e3, e4⟩
      have hnil := neq33_nil
      by_cases hN0 : N = 0
      · have hGet := keptAt_any c4 (run_get_none m4.bM (j := t) fun i h1 h2 e => by omega)
        have hnil' := neq27_nil
        have HN0 : Hid (N = 0) := hN0
        have hNI : ¬ (0 : Int) < 4 * (N : Int) := by omega
        clear F4 m4 c3 c4 c5 c6 c9 HK hN0 e3 e4 d0
        go_wp2_with fail
        refine hMin.mono ?_
        rintro e w4 ⟨rfl, rfl⟩
        go_wp2_with fail
        refine hHd.mono ?_
        rintro e w4 ⟨rfl, rfl⟩
        go_wp2_with fail
        refine hKL.mono ?_
        rintro e w4 ⟨rfl, rfl⟩
        go_wp2_with fail
        refine hQL.mono ?_
        rintro e w4 ⟨rfl, rfl⟩
        go_wp2_with fail
        refine hGet.mono ?_
        rintro e w4 ⟨rfl, rfl⟩
        go_wp2_with fail
        refine hSp.mono ?_
        rintro e w4 ⟨rfl, rfl⟩
        clear hMin hHd hKL hQL hGet hSp
        go_wp2
        go_roundw
        case rel => exact ⟨t + 1, by omega, by go_num, HA⟩
        case measure => simp [intOf]; omega
      · have hGet := keptAt_any c4 (run_get m4.bM (j := t) (by omega) (by omega) fun i h1 h2 e => HD.out i t (by omega) hlt e)
        unfold kp at hGet
        rw [show (⟨w0, C, M, W, Nb, N, rest, kb1, T⟩ : Env).kb t = wr.heap.size from hkb] at hGet
        have hq := fun w => neq27_same w ⟨wr.heap.size, 0, none⟩
        have hNI : (0 : Int) < 4 * (N : Int) := by omega
        clear F4 m4 c3 c4 c5 c6 c9 HK hN0 e3 e4 d0
        go_wp2_with fail
        refine hMin.mono ?_
        rintro e w4 ⟨rfl, rfl⟩
        go_wp2_with fail
        refine hHd.mono ?_
        rintro e w4 ⟨rfl, rfl⟩
        go_wp2_with fail
        refine hKL.mono ?_
        rintro e w4 ⟨rfl, rfl⟩
        go_wp2_with fail
        refine hQL.mono ?_
        rintro e w4 ⟨rfl, rfl⟩
        go_wp2_with fail
        refine hGet.mono ?_
        rintro e w4 ⟨rfl, rfl⟩
        go_wp2_with fail
        refine hSp.mono ?_
        rintro e w4 ⟨rfl, rfl⟩
        clear hMin hHd hKL hQL hGet hSp
        go_wp2
        go_roundw
        case rel => exact ⟨t + 1, by omega, by go_num, HA⟩
        case measure => simp [intOf]; omega
    · have htn : t = n := by omega
      subst htn
      have e3 : c = min t (4 * N) := e2
      have hMin := min_any t (4 * N) wr
      rw [← e3, show ((4 * N : Nat) : Int) = 4 * (N : Int) from by omega] at hMin
      have HF : Hid (Full ⟨w0, C, M, W, Nb, N, rest, kb, T⟩ wr c lo t) := F
      have hct : (c : Int) ≤ (t : Int) := by omega
      have hlo : (t : Int) - (c : Int) = (lo : Int) := by omega
      have HE : Hid (lo + c = t) := e1
      clear F e1 e2 e3
      go_wp2_with fail
      refine hMin.mono ?_
      rintro e wr ⟨rfl, rfl⟩
      clear hMin
      go_wp2
      go_loopw [12] (fun i wr => ∃ k : Nat, k ≤ t ∧ i = .int .i64 k ∧ Hid (Full ⟨w0, C, M, W, Nb, N, rest, kb, T⟩ wr c lo t)) (fun i _ => t - (intOf i).toNat)
      case atStart => exact ⟨0, Nat.zero_le _, rfl, HF⟩
      case round =>
        clear HF
        obtain ⟨k, hk, rfl, HF⟩ := hrel
        by_cases hkt : k < t
        · rcases hr0 with rfl | ⟨b, off, rfl, hb, hl⟩
          · simp at hkt
          obtain ⟨a4, cap4, ix4, h4, m4, _⟩ := HF.out
          have c4 := m4.bC.cell (j := 4) rfl
          have d4 := (m4.bel.cell (p := ⟨b, off + k, none⟩) hb).trans (hl k hkt)
          by_cases hge : lo ≤ k
          · have hGet := keptAt_any c4 (run_get m4.bM (j := k) hge (by have := HE.out; omega) fun i h1 h2 e => HD.out i k (by have := HE.out; omega) hkt e)
            unfold kp at hGet
            have kt := (m4.bk k hkt).cell (j := 1) rfl
            have hq := eql27_nil
            have hgI : (lo : Int) ≤ (k : Int) := by omega
            clear m4 hl hge
            go_wp2_with fail
            refine hGet.mono ?_
            rintro e w4 ⟨rfl, rfl⟩
            clear hGet
            go_wp2
            go_quiet (first | (refine Calls.quiet_of_same (keptText_any (v := .string (T k)) ?_); simpa [go_sem] using kt))
            go_wp2
            go_roundw
            case rel => exact ⟨k + 1, by omega, by go_num, HF.out.drewN _⟩
            case measure => simp [intOf]; omega
          · have hGet := keptAt_any c4 (run_get_none m4.bM (j := k) fun i h1 h2 e => by have := HD.out i k (by have := HE.out; omega) hkt e; omega)
            have hq := neq27_nil
            have hgI : ¬ (lo : Int) ≤ (k : Int) := by omega
            clear m4 hl hge
            go_wp2_with fail
            refine hGet.mono ?_
            rintro e w4 ⟨rfl, rfl⟩
            clear hGet
            go_wp2
            go_roundw
            case rel => exact ⟨k + 1, by omega, by go_num, HF⟩
            case measure => simp [intOf]; omega
        · go_wp2
          go_ret
          obtain ⟨a4, cap4, ix4, h4, m4, _⟩ := HF.out
          have hb4 : Below w0.heap.size w0 wr := m4.bel
          rw [hz0] at hb4
          exact ⟨rfl, hB0.trans hb4⟩
end Go.Proofs.Qxb6612455a
