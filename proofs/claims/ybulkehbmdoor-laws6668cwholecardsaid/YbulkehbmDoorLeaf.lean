/-
  The leaves of the road of LawS6668CWhole: contracts of the small functions of package time.
-/
import Derived.Test.YbulkehbmDoorProg
import Derived.Test.YbulkehbmDoorBits
import Derived.WalkKit
import Derived.WalkSpells
import Derived.Outline
namespace Go.Proofs.YbulkehbmDoor
open Go.RowKit

set_option maxHeartbeats 400000 in
theorem ckey_any (a b c d p : Int) (ha : Byte a) (hb : Byte b) (hc : Byte c) (hd : Byte d) (hp : 0 ≤ p ∧ p < 65536) (w : World) :
    Calls Ybad.prog 8 #[.agg #[.int .u8 a, .int .u8 b, .int .u8 c, .int .u8 d], .int .u16 p] w fun e w' =>
      e = .returned (.int .u64 (keySum a b c d p)) ∧ Below w.heap.size w w' := by
  have HK : Hid (_ = keySum a b c d p) := key_or a b c d p ha hb hc hd hp
  go_enter Ybad.func8, Ybad.ntmps8
  go_wp2
  go_ret
  exact ⟨congrArg (fun n => Ending.returned (.int .u64 n)) HK.out, (Below.refl _ _).alloc (Nat.le_refl _) _⟩

set_option maxHeartbeats 400000 in
theorem sec_any (b o : Nat) (wl ex : Int) (h0 : 0 ≤ wl) (h1 : wl < 1073741824) (w : World)
    (c0 : w.cell? ⟨b, o, none⟩ = some (.int .u64 wl)) (c1 : w.cell? ⟨b, o + 1, none⟩ = some (.int .i64 ex)) :
    Calls Ybad.prog 18 #[.pointer (some ⟨b, o, none⟩)] w fun e w' => e = .returned (.int .i64 ex) ∧ w' = w := by
  have hz := andHi wl h0 h1
  go_enter Ybad.func18, Ybad.ntmps18
  go_wp2
  go_ret
  exact ⟨rfl, rfl⟩

set_option maxHeartbeats 400000 in
theorem nsec_any (b o : Nat) (wl : Int) (h0 : 0 ≤ wl) (h1 : wl < 1073741824) (w : World)
    (c0 : w.cell? ⟨b, o, none⟩ = some (.int .u64 wl)) :
    Calls Ybad.prog 11 #[.pointer (some ⟨b, o, none⟩)] w fun e w' => e = .returned (.int .i32 wl) ∧ w' = w := by
  have hz := andLo wl h0 h1
  go_enter Ybad.func11, Ybad.ntmps11
  go_wp2
  go_ret
  exact ⟨rfl, rfl⟩

set_option maxHeartbeats 400000 in
theorem unixSec_any (b o : Nat) (wl ex : Int) (h0 : 0 ≤ wl) (h1 : wl < 1073741824) (w : World)
    (c0 : w.cell? ⟨b, o, none⟩ = some (.int .u64 wl)) (c1 : w.cell? ⟨b, o + 1, none⟩ = some (.int .i64 ex)) :
    Calls Ybad.prog 14 #[.pointer (some ⟨b, o, none⟩)] w fun e w' => e = .returned (.int .i64 (wrap64 (ex + -62135596800))) ∧ w' = w := by
  go_enter Ybad.func14, Ybad.ntmps14
  go_wp2_with (first | (go_at_call 18; refine (sec_any b o wl ex h0 h1 _ c0 c1).mono ?_; rintro e w' ⟨rfl, rfl⟩))
  go_ret
  exact ⟨rfl, rfl⟩

/-- What UnixNano answers for a time without a monotonic reading. -/
def nanoOf (wl ex : Int) : Int := wrap64 (wrap64 (wrap64 (ex + -62135596800) * 1000000000) + wl)

theorem bcell {W w1 : World} (hb : Below W.heap.size W w1) : (∀ b o, b < W.heap.size → w1.cell? ⟨b, o, none⟩ = W.cell? ⟨b, o, none⟩) ∧ (∀ b o, b < W.heap.size → w1.frozen? ⟨b, o, none⟩ = W.frozen? ⟨b, o, none⟩) :=
  ⟨fun b o h => hb.cell (p := ⟨b, o, none⟩) h, fun b o h => hb.frozen (p := ⟨b, o, none⟩) h⟩

set_option maxHeartbeats 400000 in
theorem unixNano_any (wl ex : Int) (lc : Value) (h0 : 0 ≤ wl) (h1 : wl < 1073741824) (w : World) :
    Calls Ybad.prog 5 #[.agg #[.int .u64 wl, .int .i64 ex, lc]] w fun e w' => e = .returned (.int .i64 (nanoOf wl ex)) ∧ Below w.heap.size w w' := by
  go_enter Ybad.func5, Ybad.ntmps5
  go_wp2_with (first | (go_at_call 14; refine (unixSec_any w.heap.size 0 wl ex h0 h1 _ ?_ ?_).mono ?_; (simp); (simp); rintro e w' ⟨rfl, rfl⟩) | (go_at_call 11; refine (nsec_any w.heap.size 0 wl h0 h1 _ ?_).mono ?_; (simp); rintro e w' ⟨rfl, rfl⟩))
  go_ret
  exact ⟨rfl, (Below.refl _ _).alloc (Nat.le_refl _) _⟩

set_option maxHeartbeats 400000 in
theorem addSec_any (b o : Nat) (wl d : Int) (h0 : 0 ≤ wl) (h1 : wl < 1073741824) (d0 : -9223372036854775808 ≤ d) (d1 : d ≤ 9223372036854775807) (w : World)
    (c0 : w.cell? ⟨b, o, none⟩ = some (.int .u64 wl)) (c1 : w.cell? ⟨b, o + 1, none⟩ = some (.int .i64 0)) (f1 : w.frozen? ⟨b, o + 1, none⟩ = false) :
    Calls Ybad.prog 12 #[.pointer (some ⟨b, o, none⟩), .int .i64 d] w fun e w' => e = .returned (.tuple #[]) ∧ w' = w.setCell ⟨b, o + 1, none⟩ (.int .i64 d) := by
  have hz := andHi wl h0 h1
  by_cases hd : 0 < d
  · go_enter Ybad.func12, Ybad.ntmps12
    go_wp2
    go_end0
    exact ⟨rfl, rfl⟩
  · go_enter Ybad.func12, Ybad.ntmps12
    go_wp2
    go_end0
    exact ⟨rfl, rfl⟩
end Go.Proofs.YbulkehbmDoor
