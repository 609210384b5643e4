/-
  commentEnd (function 4) and the model (function 5).
-/
import Derived.Test.YbulkehcaProg
import Derived.Test.YbulkehcaScan
import Derived.WalkKit
import Derived.WalkSpells
import Derived.Outline
namespace Go.Proofs.Ybulkehca
open Go.RowKit

set_option maxHeartbeats 400000 in
theorem comment_any (s : ByteArray) (st : Nat) (w : World) (hs : s.size ≤ 1048576) (hst : st ≤ s.size + 1) :
    Calls Yba.prog 4 #[.string s, .int .i64 st] w fun e w' => e = .returned (.tuple #[.int .i64 (endOf s (ans s st)), .bool (ans s st).isSome]) ∧ w' = w := by
  go_enter Yba.func4, Yba.ntmps4
  go_wp2
  go_loop [6, 7] (fun t6 t7 => ∃ (k : Nat) (d : Int), k ≤ s.size + 1 ∧ t7 = .int .i64 k ∧ t6 = .int .i64 d ∧ d ≤ k ∧ -(k : Int) ≤ d ∧ Hid (scan (rest s k) false k d = ans s st)) (fun _ t7 => s.size + 1 - (intOf t7).toNat)
  case atStart => exact ⟨st, 0, hst, rfl, rfl, by omega, by omega, rfl⟩
  case round =>
    obtain ⟨k, d, hk, rfl, rfl, hd1, hd2, H⟩ := hrel
    by_cases hlt : k < s.size
    · go_wp2
      · go_round
        case rel => exact ⟨k + 2, d, by omega, by go_num, rfl, by omega, by omega, (st_esc hlt ‹_›).symm.trans H.out⟩
        case measure => simp [intOf]; omega
      · go_round
        case rel => exact ⟨k + 1, d + 1, by omega, by go_num, rfl, by omega, by omega, (st_open hlt ‹_› ‹_›).symm.trans H.out⟩
        case measure => simp [intOf]; omega
      · have e : ans s st = some (k + 1) := H.out.symm.trans (st_end hlt ‹_› ‹_› ‹_› ‹_›)
        go_ret2
        rw [e]
        exact ⟨ret_pair (by simp [endOf]) rfl, rfl⟩
      · go_round
        case rel => exact ⟨k + 1, d - 1, by omega, by go_num, rfl, by omega, by omega, (st_close hlt ‹_› ‹_› ‹_› ‹_›).symm.trans H.out⟩
        case measure => simp [intOf]; omega
      · go_round
        case rel => exact ⟨k + 1, d, by omega, by go_num, rfl, by omega, by omega, (st_plain hlt ‹_› ‹_› ‹_›).symm.trans H.out⟩
        case measure => simp [intOf]; omega
    · have E : Hid (ans s st = none) := H.out.symm.trans (st_none hlt false)
      go_wp2
      go_ret2
      rw [E.out]
      exact ⟨ret_pair rfl rfl, rfl⟩

set_option maxHeartbeats 400000 in
theorem model_any (s : ByteArray) (st : Nat) (w : World) (hs : s.size ≤ 1048576) (hst : st ≤ s.size + 1) :
    Calls Yba.prog 5 #[.string s, .int .i64 st] w fun e w' => e = .returned (.tuple #[.int .i64 (endOf s (ans s st)), .bool (ans s st).isSome]) ∧ w' = w := by
  go_enter Yba.func5, Yba.ntmps5
  go_wp2
  go_loop [6, 7, 8] (fun t6 t7 t8 => ∃ (b : Bool) (k : Nat) (d : Int), k ≤ s.size + 1 ∧ t8 = .int .i64 k ∧ t7 = .int .i64 d ∧ t6 = .bool b ∧ d ≤ k ∧ -(k : Int) ≤ d ∧ Hid (scan (rest s k) b k d = ans s st)) (fun _ _ t8 => s.size + 1 - (intOf t8).toNat)
  case atStart => exact ⟨false, st, 0, hst, rfl, rfl, rfl, by omega, by omega, rfl⟩
  case round =>
    obtain ⟨b, k, d, hk, rfl, rfl, rfl, hd1, hd2, H⟩ := hrel
    by_cases hlt : k < s.size
    · cases b with
      | true =>
        go_wp2
        go_round
        case rel => exact ⟨false, k + 1, d, by omega, by go_num, rfl, rfl, by omega, by omega, (st_quoted hlt).symm.trans H.out⟩
        case measure => simp [intOf]; omega
      | false =>
        go_wp2
        · go_round
          case rel => exact ⟨true, k + 1, d, by omega, by go_num, rfl, rfl, by omega, by omega, (st_mark hlt ‹_›).symm.trans H.out⟩
          case measure => simp [intOf]; omega
        · go_round
          case rel => exact ⟨false, k + 1, d + 1, by omega, by go_num, rfl, rfl, by omega, by omega, (st_open hlt ‹_› ‹_›).symm.trans H.out⟩
          case measure => simp [intOf]; omega
        · have e : ans s st = some (k + 1) := H.out.symm.trans (st_end hlt ‹_› ‹_› ‹_› ‹_›)
          go_ret2
          rw [e]
          exact ⟨ret_pair (by simp [endOf]) rfl, rfl⟩
        · go_round
          case rel => exact ⟨false, k + 1, d - 1, by omega, by go_num, rfl, rfl, by omega, by omega, (st_close hlt ‹_› ‹_› ‹_› ‹_›).symm.trans H.out⟩
          case measure => simp [intOf]; omega
        · go_round
          case rel => exact ⟨false, k + 1, d, by omega, by go_num, rfl, rfl, by omega, by omega, (st_plain hlt ‹_› ‹_› ‹_›).symm.trans H.out⟩
          case measure => simp [intOf]; omega
    · have E : Hid (ans s st = none) := H.out.symm.trans (st_none hlt b)
      go_wp2
      go_ret2
      rw [E.out]
      exact ⟨ret_pair rfl rfl, rfl⟩
end Go.Proofs.Ybulkehca
