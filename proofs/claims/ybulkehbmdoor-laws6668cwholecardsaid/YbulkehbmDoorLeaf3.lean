/-
  The leaves of the road of LawS6668CWhole: netip.Addr.As4, binary.BigEndian.Uint32, addrKey.
-/
import Derived.Test.YbulkehbmDoorLeaf2
import Derived.RegionTactic
import Derived.Deep.RegionWith
import Derived.Deep.QuietTactic
import Derived.BigQuiet
import Derived.LaidEqlPtr
import Derived.WalkSmall
namespace Go.Proofs.YbulkehbmDoor
open Go.RowKit
theorem lo_mod (a b c d : Int) : loSum a b c d % 4294967296 = v4Sum a b c d % 4294967296 := by unfold loSum v4Sum; omega
theorem info97 : (Ybad.prog.info? 97).isSome = true := by kernel_rfl
theorem eqPtr (d : Nat) (z : Addr) (w : World) : Sem.run Ybad.prog (Op.equalIn (d + 1) 37 (.pointer (some z)) (.pointer (some z))) w = .ok true w := by
  obtain ⟨j, hj⟩ := Option.isSome_iff_exists.1 info97
  simp [Op.equalIn, run_underlying Ybad.underlying37, sizeOf, typeInfo, run_sameAddr_same, hj]

set_option maxHeartbeats 200000 in
theorem as4_any (a b c d : Int) (ha : Byte a) (hb : Byte b) (hc : Byte c) (hd : Byte d) (z : Addr) (w : World) (hg : w.cell? ⟨0, 0, none⟩ = some (.pointer (some z))) :
    Calls Ybad.prog 20 #[.agg #[.int .u64 0, .int .u64 (loSum a b c d), .pointer (some z)]] w fun e w' =>
      e = .returned (.agg #[.int .u8 a, .int .u8 b, .int .u8 c, .int .u8 d]) ∧ Below w.heap.size w w' := by
  have hlt : 0 < w.heap.size := World.block_lt_of_cell? w _ hg
  have hlo : loSum a b c d % 4294967296 = v4Sum a b c d := by obtain ⟨_, e4, e5⟩ := v4_b a b c d ha hb hc hd; rw [lo_mod]; omega
  have hlo2 : IntKind.u32.wrap (loSum a b c d) = v4Sum a b c d := by rw [IntKind.wrap_u32']; exact hlo
  have heq := eqPtr 9998 z
  go_enter Ybad.func20, Ybad.ntmps20
  go_wp2_with fail
  go_region_with (go_at_call 24; refine (bePut_any (w.heap.size + 1) a b c d ha hb hc hd _ 0 0 0 0 (by simp) (by simp) (by simp) (by simp) (by simp) (by simp) (by simp) (by simp)).mono ?_; rintro e w' ⟨rfl, rfl⟩)
  go_wp2_with fail
  exact bodyPost_ret (v := .agg #[.int .u8 a, .int .u8 b, .int .u8 c, .int .u8 d]) (by simp [results, Ybad.results20, go_sem]) rfl ⟨rfl, (((Below.refl _ _).alloc (Nat.le_refl _) _).alloc (by simp) _).drew⟩
theorem u32_or4 (a b c d : Int) (ha : Byte a) (hb : Byte b) (hc : Byte c) (hd : Byte d) :
    (bits BinOp.or IntKind.u32
              (bits BinOp.or IntKind.u32
                (bits BinOp.or IntKind.u32 (d % 4294967296) (c % 4294967296 * 256 % 4294967296))
                (b % 4294967296 * 65536 % 4294967296))
              (a % 4294967296 * 16777216 % 4294967296)) = v4Sum a b c d := by
  obtain ⟨a0, a1⟩ := ha; obtain ⟨b0, b1⟩ := hb; obtain ⟨c0, c1⟩ := hc; obtain ⟨d0, d1⟩ := hd
  have wa : a % 4294967296 * 16777216 % 4294967296 = a * 16777216 := by omega
  have wb : b % 4294967296 * 65536 % 4294967296 = b * 65536 := by omega
  have wc : c % 4294967296 * 256 % 4294967296 = c * 256 := by omega
  have wd : d % 4294967296 = d := by omega
  rw [wa, wb, wc, wd]
  rw [or32 8 (c * 256) d (by omega) (by omega) (by omega) (by omega) (by omega)]
  rw [or32 16 (b * 65536) (c * 256 + d) (by omega) (by omega) (by omega) (by omega) (by omega)]
  rw [or32 24 (a * 16777216) (b * 65536 + (c * 256 + d)) (by omega) (by omega) (by omega) (by omega) (by omega)]
  unfold v4Sum; omega

set_option maxHeartbeats 1000000 in
theorem u32_any (B : Nat) (a b c d : Int) (ha : Byte a) (hb : Byte b) (hc : Byte c) (hd : Byte d) (w : World)
    (c0 : w.cell? ⟨B, 0, none⟩ = some (.int .u8 a)) (c1 : w.cell? ⟨B, 1, none⟩ = some (.int .u8 b)) (c2 : w.cell? ⟨B, 2, none⟩ = some (.int .u8 c)) (c3 : w.cell? ⟨B, 3, none⟩ = some (.int .u8 d)) :
    Calls Ybad.prog 21 #[.agg #[], .slice (some ⟨B, 0, none⟩) 4 4] w fun e w' =>
      e = .returned (.int .u32 (v4Sum a b c d)) ∧ ∃ n, w' = (w.alloc (.cells #[] 69)).drewN n := by
  have hB : B < w.heap.size := World.block_lt_of_cell? w _ c0
  go_enter Ybad.func21, Ybad.ntmps21
  go_wp2_with fail
  go_quiet (fail)
  go_wp2_with fail
  go_ret
  exact ⟨congrArg (fun n => Ending.returned (.int .u32 n)) (u32_or4 a b c d ha hb hc hd), _, rfl⟩

set_option maxHeartbeats 1000000 in
theorem port_at (h l p : Int) (z : Addr) (w : World) :
    Calls Ybad.prog 22 #[.agg #[.int .u64 h, .int .u64 l, .pointer (some z), .int .u16 p]] w fun e w' =>
      e = .returned (.int .u16 p) ∧ w' = w.alloc (.cells #[.int .u64 h, .int .u64 l, .pointer (some z), .int .u16 p] 43) := by
  go_enter Ybad.func22, Ybad.ntmps22
  go_wp2_with fail
  go_ret
  exact ⟨rfl, rfl⟩

theorem cellIn {B : Nat} {W w1 : World} (h : Below B W w1) {b o : Nat} {v : Value} (hb : b < B) (hc : W.cell? ⟨b, o, none⟩ = some v) : w1.cell? ⟨b, o, none⟩ = some v := by
  rw [h.cell (p := ⟨b, o, none⟩) hb]; exact hc

theorem key_or2 (a b c d p : Int) (ha : Byte a) (hb : Byte b) (hc : Byte c) (hd : Byte d) (hp : 0 ≤ p ∧ p < 65536) :
    bits BinOp.or IntKind.u64 (IntKind.u64.wrap (IntKind.u64.wrap (v4Sum a b c d) * 65536)) (IntKind.u64.wrap p) = keySum a b c d p := by
  obtain ⟨_, e4, e5⟩ := v4_b a b c d ha hb hc hd
  obtain ⟨p0, p1⟩ := hp
  have wa : IntKind.u64.wrap (IntKind.u64.wrap (v4Sum a b c d) * 65536) = v4Sum a b c d * 65536 := by simp only [IntKind.wrap_u64]; omega
  have wp : IntKind.u64.wrap p = p := by simp only [IntKind.wrap_u64]; omega
  rw [wa, wp, or64 16 (v4Sum a b c d * 65536) p (by omega) (by omega) (by omega) (by omega) (by omega)]
  unfold v4Sum keySum; omega

set_option maxHeartbeats 1000000 in
theorem addrKey_any (a b c d p : Int) (ha : Byte a) (hb : Byte b) (hc : Byte c) (hd : Byte d) (hp : 0 ≤ p ∧ p < 65536) (z : Addr) (w : World) (hg : w.cell? ⟨0, 0, none⟩ = some (.pointer (some z))) :
    Calls Ybad.prog 17 #[.agg #[.int .u64 0, .int .u64 (loSum a b c d), .pointer (some z), .int .u16 p]] w fun e w' =>
      e = .returned (.int .u64 (keySum a b c d p)) ∧ Below w.heap.size w w' := by
  have hlt : 0 < w.heap.size := World.block_lt_of_cell? w _ hg
  go_enter Ybad.func17, Ybad.ntmps17
  go_wp2_with fail
  refine (addr_any 0 (loSum a b c d) p z _).mono ?_
  rintro e w1 ⟨rfl, b1⟩
  obtain ⟨k1, j1⟩ := bcell b1
  have g1 : w1.cell? ⟨0, 0, none⟩ = some (.pointer (some z)) := by rw [k1 0 0 (by simp), World.cell?_alloc_past _ _ _ hlt]; exact hg
  have z1 : w.heap.size + 1 ≤ w1.heap.size := by have := b1.size; simpa using this
  go_wp2_with fail
  refine (as4_any a b c d ha hb hc hd z _ g1).mono ?_
  rintro e w2 ⟨rfl, b2⟩
  have b2' : Below (w.heap.size + 1) (w.alloc (.cells #[.int .u64 0, .int .u64 (loSum a b c d), .pointer (some z), .int .u16 p] 43)) w2 := (b1.mono (by simp)).trans (b2.mono z1)
  have z2 : w.heap.size < w2.heap.size := Nat.le_trans z1 b2.size
  have x0 : w2.cell? ⟨w.heap.size, 0, none⟩ = some (.int .u64 0) := cellIn b2' (by omega) (by simp)
  have x1 : w2.cell? ⟨w.heap.size, 1, none⟩ = some (.int .u64 (loSum a b c d)) := cellIn b2' (by omega) (by simp)
  have x2 : w2.cell? ⟨w.heap.size, 2, none⟩ = some (.pointer (some z)) := cellIn b2' (by omega) (by simp)
  have x3 : w2.cell? ⟨w.heap.size, 3, none⟩ = some (.int .u16 p) := cellIn b2' (by omega) (by simp)
  have bw : Below w.heap.size w w2 := ((Below.refl _ _).alloc (Nat.le_refl _) _).trans (b2'.mono (by omega))
  clear k1 j1 g1 z1 b1 b2 b2'
  go_wp2_with fail
  go_region_with (first | (go_at_call 21; refine (u32_any w2.heap.size a b c d ha hb hc hd _ (by simp) (by simp) (by simp) (by simp)).mono ?_; rintro e w' ⟨rfl, n, rfl⟩) | (go_at_call 22; refine (port_at 0 (loSum a b c d) p z _).mono ?_; rintro e w' ⟨rfl, rfl⟩))
  all_goals
    go_wp2_with fail
    go_ret
    refine ⟨congrArg (fun n => Ending.returned (.int .u64 n)) (key_or2 a b c d p ha hb hc hd hp), ?_⟩
    repeat (first | exact bw | apply Below.drew | apply below_drewN | (refine Below.alloc ?_ (by first | omega | (simp; omega)) _))
end Go.Proofs.YbulkehbmDoor
