/-
  The leaves of the road of LawS6668CWhole: time.Time.Add at the zero time.
-/
import Derived.Test.YbulkehbmDoorLeaf
namespace Go.Proofs.YbulkehbmDoor
open Go.RowKit

theorem orZero (n : Int) (h0 : 0 ≤ n) (h1 : n < 1073741824) : bits .or .u64 (bits .andNot .u64 0 1073741823) n = n := by
  have e : bits .andNot .u64 0 1073741823 = 0 := by decide
  rw [e, or64 30 0 n (by omega) h0 (by omega) (by omega) (by omega)]; omega

theorem orZero' (n : Int) (h0 : 0 ≤ n) (h1 : n < 1073741824) : bits .or .u64 0 n = n := by
  rw [or64 30 0 n (by omega) h0 (by omega) (by omega) (by omega)]; omega

set_option maxHeartbeats 1000000 in
theorem add_any (d : Int) (d0 : -9223372036854775808 ≤ d) (d1 : d ≤ 9223372036854775807) (w : World) :
    Calls Ybad.prog 4 #[.agg #[.int .u64 0, .int .i64 0, .pointer none], .int .i64 d] w fun e w' =>
      ∃ wl ex : Int, e = .returned (.agg #[.int .u64 wl, .int .i64 ex, .pointer none]) ∧ 0 ≤ wl ∧ wl < 1073741824 ∧ Below w.heap.size w w' := by
  have q1 : d.tmod 1000000000 < 1000000000 := Int.tmod_lt_of_pos _ (by decide)
  have q2 : -1000000000 < d.tmod 1000000000 := Int.lt_tmod_of_pos d (by decide)
  have q3 : -9223372037 ≤ d.tdiv 1000000000 ∧ d.tdiv 1000000000 ≤ 9223372037 := by
    have := Int.mul_tdiv_add_tmod d 1000000000; omega
  obtain ⟨q3, q4⟩ := q3
  generalize hN : d.tmod 1000000000 = n at *
  generalize hD : d.tdiv 1000000000 = s at *
  have HN : Hid (d.tmod 1000000000 = n) := hN
  have HD : Hid (d.tdiv 1000000000 = s) := hD
  by_cases hn : n < 0
  · have o1 := orZero (n + 1000000000) (by omega) (by omega)
    have o2 := orZero' (n + 1000000000) (by omega) (by omega)
    have hz := andHi (n + 1000000000) (by omega) (by omega)
    go_enter Ybad.func4, Ybad.ntmps4
    go_wp2_with fail
    refine (nsec_any w.heap.size 0 0 (by omega) (by omega) _ (by simp)).mono ?_
    rintro e w' ⟨rfl, rfl⟩
    go_wp2_with fail
    refine (addSec_any w.heap.size 0 (n + 1000000000) (s - 1) (by omega) (by omega) (by omega) (by omega) _ (by simp) (by simp) (by simp)).mono ?_
    rintro e w' ⟨rfl, rfl⟩
    go_wp2_with fail
    exact bodyPost_ret (v := .agg #[.int .u64 (n + 1000000000), .int .i64 (s - 1), .pointer none]) (by simp [results, Ybad.results4, go_sem]) rfl ⟨_, _, rfl, by omega, by omega, ((Below.refl _ _).alloc (Nat.le_refl _) _).alloc (by simp) _⟩
  · have o1 := orZero n (by omega) (by omega)
    have o2 := orZero' n (by omega) (by omega)
    have hz := andHi n (by omega) (by omega)
    go_enter Ybad.func4, Ybad.ntmps4
    go_wp2_with fail
    refine (nsec_any w.heap.size 0 0 (by omega) (by omega) _ (by simp)).mono ?_
    rintro e w' ⟨rfl, rfl⟩
    go_wp2_with fail
    refine (addSec_any w.heap.size 0 n s (by omega) (by omega) (by omega) (by omega) _ (by simp) (by simp) (by simp)).mono ?_
    rintro e w' ⟨rfl, rfl⟩
    go_wp2_with fail
    exact bodyPost_ret (v := .agg #[.int .u64 n, .int .i64 s, .pointer none]) (by simp [results, Ybad.results4, go_sem]) rfl ⟨_, _, rfl, by omega, by omega, ((Below.refl _ _).alloc (Nat.le_refl _) _).alloc (by simp) _⟩

/-! ### net/netip -/
/-- The low half of an IPv4 address, as netip keeps it. -/
def loSum (a b c d : Int) : Int := 281470681743360 + a * 16777216 + b * 65536 + c * 256 + d

theorem lo_or (a b c d : Int) (ha : Byte a) (hb : Byte b) (hc : Byte c) (hd : Byte d) :
    (bits BinOp.or IntKind.u64
                  (bits BinOp.or IntKind.u64
                    (bits BinOp.or IntKind.u64
                      (bits BinOp.or IntKind.u64 281470681743360 (IntKind.u64.wrap (IntKind.u64.wrap a * 16777216)))
                      (IntKind.u64.wrap (IntKind.u64.wrap b * 65536)))
                    (IntKind.u64.wrap (IntKind.u64.wrap c * 256)))
                  (IntKind.u64.wrap d)) = loSum a b c d := by
  obtain ⟨a0, a1⟩ := ha; obtain ⟨b0, b1⟩ := hb; obtain ⟨c0, c1⟩ := hc; obtain ⟨d0, d1⟩ := hd
  have wa : IntKind.u64.wrap (IntKind.u64.wrap a * 16777216) = a * 16777216 := by simp only [IntKind.wrap_u64]; omega
  have wb : IntKind.u64.wrap (IntKind.u64.wrap b * 65536) = b * 65536 := by simp only [IntKind.wrap_u64]; omega
  have wc : IntKind.u64.wrap (IntKind.u64.wrap c * 256) = c * 256 := by simp only [IntKind.wrap_u64]; omega
  have wd : IntKind.u64.wrap d = d := by simp only [IntKind.wrap_u64]; omega
  rw [wa, wb, wc, wd]
  rw [or64 32 281470681743360 (a * 16777216) (by omega) (by omega) (by omega) (by omega) (by omega)]
  rw [or64 24 (281470681743360 + a * 16777216) (b * 65536) (by omega) (by omega) (by omega) (by omega) (by omega)]
  rw [or64 16 (281470681743360 + a * 16777216 + b * 65536) (c * 256) (by omega) (by omega) (by omega) (by omega) (by omega)]
  rw [or64 8 (281470681743360 + a * 16777216 + b * 65536 + c * 256) d (by omega) (by omega) (by omega) (by omega) (by omega)]
  rfl

set_option maxHeartbeats 1000000 in
theorem from4_any (a b c d : Int) (ha : Byte a) (hb : Byte b) (hc : Byte c) (hd : Byte d) (z : Addr) (w : World) (hg : w.cell? ⟨0, 0, none⟩ = some (.pointer (some z))) :
    Calls Ybad.prog 7 #[.agg #[.int .u8 a, .int .u8 b, .int .u8 c, .int .u8 d]] w fun e w' =>
      e = .returned (.agg #[.int .u64 0, .int .u64 (loSum a b c d), .pointer (some z)]) ∧ Below w.heap.size w w' := by
  have hlt : 0 < w.heap.size := World.block_lt_of_cell? w _ hg
  have hlo := lo_or a b c d ha hb hc hd
  go_enter Ybad.func7, Ybad.ntmps7
  go_wp2_with fail
  exact bodyPost_ret (v := .agg #[.int .u64 0, .int .u64 (loSum a b c d), .pointer (some z)]) (by simp [results, Ybad.results7, go_sem]) rfl ⟨rfl, ((Below.refl _ _).alloc (Nat.le_refl _) _).alloc (by simp) _⟩

set_option maxHeartbeats 1000000 in
theorem portFrom_any (h l p : Int) (z : Addr) (w : World) :
    Calls Ybad.prog 6 #[.agg #[.int .u64 h, .int .u64 l, .pointer (some z)], .int .u16 p] w fun e w' =>
      e = .returned (.agg #[.int .u64 h, .int .u64 l, .pointer (some z), .int .u16 p]) ∧ Below w.heap.size w w' := by
  go_enter Ybad.func6, Ybad.ntmps6
  go_wp2_with fail
  exact bodyPost_ret (v := .agg #[.int .u64 h, .int .u64 l, .pointer (some z), .int .u16 p]) (by simp [results, Ybad.results6, go_sem]) rfl ⟨rfl, ((Below.refl _ _).alloc (Nat.le_refl _) _).alloc (by simp) _⟩

set_option maxHeartbeats 1000000 in
theorem addr_any (h l p : Int) (z : Addr) (w : World) :
    Calls Ybad.prog 19 #[.agg #[.int .u64 h, .int .u64 l, .pointer (some z), .int .u16 p]] w fun e w' =>
      e = .returned (.agg #[.int .u64 h, .int .u64 l, .pointer (some z)]) ∧ Below w.heap.size w w' := by
  go_enter Ybad.func19, Ybad.ntmps19
  go_wp2_with fail
  exact bodyPost_ret (v := .agg #[.int .u64 h, .int .u64 l, .pointer (some z)]) (by simp [results, Ybad.results19, go_sem]) rfl ⟨rfl, ((Below.refl _ _).alloc (Nat.le_refl _) _).alloc (by simp) _⟩

set_option maxHeartbeats 1000000 in
theorem port_any (h l p : Int) (z : Addr) (w : World) :
    Calls Ybad.prog 22 #[.agg #[.int .u64 h, .int .u64 l, .pointer (some z), .int .u16 p]] w fun e w' =>
      e = .returned (.int .u16 p) ∧ Below w.heap.size w w' := by
  go_enter Ybad.func22, Ybad.ntmps22
  go_wp2_with fail
  go_ret
  exact ⟨rfl, (Below.refl _ _).alloc (Nat.le_refl _) _⟩

/-- The four bytes of an address, as one 32-bit integer. -/
def v4Sum (a b c d : Int) : Int := a * 16777216 + b * 65536 + c * 256 + d
theorem v4_b (a b c d : Int) (ha : Byte a) (hb : Byte b) (hc : Byte c) (hd : Byte d) :
    (v4Sum a b c d / 16777216 = a ∧ v4Sum a b c d / 65536 % 256 = b ∧ v4Sum a b c d / 256 % 256 = c ∧ v4Sum a b c d % 256 = d) ∧ 0 ≤ v4Sum a b c d ∧ v4Sum a b c d < 4294967296 := by
  obtain ⟨a0, a1⟩ := ha; obtain ⟨b0, b1⟩ := hb; obtain ⟨c0, c1⟩ := hc; obtain ⟨d0, d1⟩ := hd
  unfold v4Sum; omega

set_option maxHeartbeats 1000000 in
theorem bePut_any (B : Nat) (a b c d : Int) (ha : Byte a) (hb : Byte b) (hc : Byte c) (hd : Byte d) (w : World) (x0 x1 x2 x3 : Int)
    (c0 : w.cell? ⟨B, 0, none⟩ = some (.int .u8 x0)) (c1 : w.cell? ⟨B, 1, none⟩ = some (.int .u8 x1)) (c2 : w.cell? ⟨B, 2, none⟩ = some (.int .u8 x2)) (c3 : w.cell? ⟨B, 3, none⟩ = some (.int .u8 x3))
    (f0 : w.frozen? ⟨B, 0, none⟩ = false) (f1 : w.frozen? ⟨B, 1, none⟩ = false) (f2 : w.frozen? ⟨B, 2, none⟩ = false) (f3 : w.frozen? ⟨B, 3, none⟩ = false) :
    Calls Ybad.prog 24 #[.slice (some ⟨B, 0, none⟩) 4 4, .int .u32 (v4Sum a b c d)] w fun e w' =>
      e = .returned (.tuple #[]) ∧ w' = (((w.setCell ⟨B, 0, none⟩ (.int .u8 a)).setCell ⟨B, 1, none⟩ (.int .u8 b)).setCell ⟨B, 2, none⟩ (.int .u8 c)).setCell ⟨B, 3, none⟩ (.int .u8 d) := by
  obtain ⟨⟨e0, e1, e2, e3⟩, e4, e5⟩ := v4_b a b c d ha hb hc hd
  go_enter Ybad.func24, Ybad.ntmps24
  go_wp2_with fail
  go_end0
  exact ⟨rfl, rfl⟩
end Go.Proofs.YbulkehbmDoor
