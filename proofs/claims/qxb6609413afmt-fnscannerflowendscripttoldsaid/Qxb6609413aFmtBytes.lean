/-
  THE BOUND ON ALL LENGTHS (zzBytes_FnScannerFlowEndScript): whatever it answers, it returns and writes nothing.
-/
import Derived.Test.Qxb6609413aFmtReads
namespace Go.Proofs.Qxb6609413aFmt
open Go.RowKit

/-! ### The bound on all lengths (laid by program): whatever it answers -/
def SomeBool (w : World) (e : Ending) (w' : World) : Prop := ∃ r : Bool, e = .returned (.bool r) ∧ w' = w
theorem someBool_mk (w : World) (r : Bool) : SomeBool w (.returned (.bool r)) w := ⟨r, rfl, rfl⟩

set_option maxHeartbeats 1600000 in
set_option maxRecDepth 100000 in
theorem bytes_any (p l c m : Int) (en an : Bool) (a a' a'' : Option Addr) (cap cap' cap'' : Nat) (ks : List Key) (ts : List Tok) (ss : List ByteArray) (w : World)
    (hm : ks.length ≤ 9223372036854775807) (hm' : ts.length ≤ 9223372036854775807) (hm'' : ss.length ≤ 9223372036854775807) (hr' : RowAt w a' 7 tc ts) (hr'' : RowAt w a'' 1 sc ss) :
    Calls Tryf.prog 4 #[.int .i64 p, .int .i64 l, .int .i64 c, .slice a ks.length cap, .int .i64 m, .bool en, .bool an, .slice a' ts.length cap', .slice a'' ss.length cap''] w (SomeBool w) := by
  by_cases c1 : 1048576 < ks.length
  · go_enter Tryf.func4, Tryf.ntmps4
    go_wp2
    go_ret
    exact someBool_mk _ _
  by_cases c2 : 1048576 < ts.length
  · go_enter Tryf.func4, Tryf.ntmps4
    go_wp2
    go_ret
    exact someBool_mk _ _
  by_cases c3 : 1048576 < ks.length + ts.length
  · go_enter Tryf.func4, Tryf.ntmps4
    go_wp2
    go_ret
    exact someBool_mk _ _
  go_enter Tryf.func4, Tryf.ntmps4
  go_wp2
  go_loop [19, 20] (fun n i => ∃ k : Nat, ∃ m : Int, k ≤ ts.length ∧ i = .int .i64 k ∧ n = .int .i64 m ∧ 0 ≤ m ∧ m ≤ 1048576) (fun _ i => ts.length - (intOf i).toNat)
  case atStart => exact ⟨0, _, Nat.zero_le _, rfl, rfl, by omega, by omega⟩
  case round =>
    obtain ⟨k, n, hk, rfl, rfl, h0, h1⟩ := hrel
    by_cases hlt : k < ts.length
    · rcases hr' with rfl | ⟨b, off, rfl, hb, hl⟩
      · simp at hlt
      obtain ⟨t0, t1, t2, t3, _⟩ := tok_cells hl k hlt
      clear hl hr''
      go_wp2
      all_goals first
        | (go_ret; exact someBool_mk _ _)
        | (go_round
           case rel => exact ⟨k + 1, _, by omega, by go_num, rfl, by omega, by omega⟩
           case measure => simp [intOf]; omega)
    · by_cases c4 : 1048576 < ss.length
      · go_wp2
        go_ret
        exact someBool_mk _ _
      go_wp2
      · go_ret
        exact someBool_mk _ _
      · go_loop [19, 21] (fun n i => ∃ k : Nat, ∃ m : Int, k ≤ ss.length ∧ i = .int .i64 k ∧ n = .int .i64 m ∧ 0 ≤ m ∧ m ≤ 1048576) (fun _ i => ss.length - (intOf i).toNat)
        case atStart => exact ⟨0, _, Nat.zero_le _, rfl, rfl, by omega, by omega⟩
        case round =>
          obtain ⟨k', n', hk', rfl, rfl, h0', h1'⟩ := hrel
          by_cases hlt' : k' < ss.length
          · rcases hr'' with rfl | ⟨b, off, rfl, hb, hl⟩
            · simp at hlt'
            have c0 := str_cell hl k' hlt'
            clear hl
            go_wp2
            all_goals first
              | (go_ret; exact someBool_mk _ _)
              | (go_round
                 case rel => exact ⟨k' + 1, _, by omega, by go_num, rfl, by omega, by omega⟩
                 case measure => simp [intOf]; omega)
          · go_wp2
            go_ret
            exact someBool_mk _ _

end Go.Proofs.Qxb6609413aFmt
