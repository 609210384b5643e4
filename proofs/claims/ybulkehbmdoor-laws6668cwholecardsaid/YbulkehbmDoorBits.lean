/-
  Plain facts on bits: a key of an IPv4 address and a port, as a sum. No Go in sight.
-/
import Derived.WalkKit
namespace Go.Proofs.YbulkehbmDoor
open Go.RowKit

theorem or64 (i : Nat) (x y : Int) (hx : 0 ≤ x) (hy : 0 ≤ y) (hm : x % ((2 ^ i : Nat) : Int) = 0) (hl : y < ((2 ^ i : Nat) : Int)) (hb : x + y < 18446744073709551616) :
    bits .or .u64 x y = x + y := by
  obtain ⟨x, rfl⟩ := Int.eq_ofNat_of_zero_le hx
  obtain ⟨y, rfl⟩ := Int.eq_ofNat_of_zero_le hy
  have e1 : x % 2 ^ i = 0 := by
    have : ((x % 2 ^ i : Nat) : Int) = 0 := by rw [Int.natCast_emod]; exact hm
    exact_mod_cast this
  have e2 : y < 2 ^ i := by exact_mod_cast hl
  rw [u64_or_nat x y (by omega) (by omega), nat_join i x y e1 e2]
  rfl

theorem or32 (i : Nat) (x y : Int) (hx : 0 ≤ x) (hy : 0 ≤ y) (hm : x % ((2 ^ i : Nat) : Int) = 0) (hl : y < ((2 ^ i : Nat) : Int)) (hb : x + y < 4294967296) :
    bits .or .u32 y x = x + y := by
  obtain ⟨x, rfl⟩ := Int.eq_ofNat_of_zero_le hx
  obtain ⟨y, rfl⟩ := Int.eq_ofNat_of_zero_le hy
  have e1 : x % 2 ^ i = 0 := by
    have : ((x % 2 ^ i : Nat) : Int) = 0 := by rw [Int.natCast_emod]; exact hm
    exact_mod_cast this
  have e2 : y < 2 ^ i := by exact_mod_cast hl
  rw [u32_or_nat y x (by omega) (by omega), Nat.or_comm, nat_join i x y e1 e2]
  rfl

/-- The key of an address and a port, as a sum. -/
def keySum (a b c d p : Int) : Int := a * 1099511627776 + b * 4294967296 + c * 16777216 + d * 65536 + p

/-- A byte. -/
def Byte (x : Int) : Prop := 0 ≤ x ∧ x < 256

theorem key_or (a b c d p : Int) (ha : Byte a) (hb : Byte b) (hc : Byte c) (hd : Byte d) (hp : 0 ≤ p ∧ p < 65536) :
    (bits BinOp.or IntKind.u64
                      (bits BinOp.or IntKind.u64
                        (bits BinOp.or IntKind.u64
                          (bits BinOp.or IntKind.u64 (IntKind.u64.wrap (IntKind.u64.wrap a * 1099511627776))
                            (IntKind.u64.wrap (IntKind.u64.wrap b * 4294967296)))
                          (IntKind.u64.wrap (IntKind.u64.wrap c * 16777216)))
                        (IntKind.u64.wrap (IntKind.u64.wrap d * 65536)))
                      p) = keySum a b c d p := by
  obtain ⟨a0, a1⟩ := ha; obtain ⟨b0, b1⟩ := hb; obtain ⟨c0, c1⟩ := hc; obtain ⟨d0, d1⟩ := hd; obtain ⟨p0, p1⟩ := hp
  have wa : IntKind.u64.wrap (IntKind.u64.wrap a * 1099511627776) = a * 1099511627776 := by simp only [IntKind.wrap_u64]; omega
  have wb : IntKind.u64.wrap (IntKind.u64.wrap b * 4294967296) = b * 4294967296 := by simp only [IntKind.wrap_u64]; omega
  have wc : IntKind.u64.wrap (IntKind.u64.wrap c * 16777216) = c * 16777216 := by simp only [IntKind.wrap_u64]; omega
  have wd : IntKind.u64.wrap (IntKind.u64.wrap d * 65536) = d * 65536 := by simp only [IntKind.wrap_u64]; omega
  rw [wa, wb, wc, wd]
  rw [or64 40 (a * 1099511627776) (b * 4294967296) (by omega) (by omega) (by omega) (by omega) (by omega)]
  rw [or64 32 (a * 1099511627776 + b * 4294967296) (c * 16777216) (by omega) (by omega) (by omega) (by omega) (by omega)]
  rw [or64 24 (a * 1099511627776 + b * 4294967296 + c * 16777216) (d * 65536) (by omega) (by omega) (by omega) (by omega) (by omega)]
  rw [or64 16 (a * 1099511627776 + b * 4294967296 + c * 16777216 + d * 65536) p (by omega) (by omega) (by omega) (by omega) (by omega)]
  rfl

theorem andHi (wl : Int) (h0 : 0 ≤ wl) (h1 : wl < 1073741824) : bits .and .u64 wl 9223372036854775808 = 0 := by
  obtain ⟨x, rfl⟩ := Int.eq_ofNat_of_zero_le h0
  have e := u64_and_nat x 9223372036854775808 (by omega) (by omega)
  have e2 : x &&& 9223372036854775808 = 0 := by
    have := nat_bit 63 x
    rw [show (2 : Nat) ^ 63 = 9223372036854775808 from by decide] at this
    rw [this, Nat.div_eq_of_lt (by omega)]
  rw [e2] at e
  exact e

theorem andLo (wl : Int) (h0 : 0 ≤ wl) (h1 : wl < 1073741824) : bits .and .u64 wl 1073741823 = wl := by
  obtain ⟨x, rfl⟩ := Int.eq_ofNat_of_zero_le h0
  have e := u64_and_nat x 1073741823 (by omega) (by omega)
  have e2 : x &&& 1073741823 = x := by
    have := Nat.and_two_pow_sub_one_eq_mod x 30
    rw [show (2 : Nat) ^ 30 - 1 = 1073741823 from by decide] at this
    rw [this]; omega
  rw [e2] at e
  exact e
end Go.Proofs.YbulkehbmDoor
