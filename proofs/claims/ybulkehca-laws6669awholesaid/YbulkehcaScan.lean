/-
  Plain: the scan of a comment, with an 'escaped' flag. No Go in sight.
-/
import Derived.WalkKit
namespace Go.Proofs.Ybulkehca
open Go.RowKit

/-- Where the comment ends, if it does: the bytes that are left, whether the next one is quoted, its place, the depth. -/
def scan : List UInt8 → Bool → Nat → Int → Option Nat
  | [], _, _, _ => none
  | _ :: r, true, i, d => scan r false (i + 1) d
  | c :: r, false, i, d =>
    if c.toNat = 92 then scan r true (i + 1) d
    else if c.toNat = 40 then scan r false (i + 1) (d + 1)
    else if c.toNat = 41 then (if d - 1 = 0 then some (i + 1) else scan r false (i + 1) (d - 1))
    else scan r false (i + 1) d

/-- The bytes from place k on. -/
def rest (s : ByteArray) (k : Nat) : List UInt8 := s.data.toList.drop k

theorem rest_lt (s : ByteArray) (k : Nat) (h : k < s.size) : rest s k = s[k] :: rest s (k + 1) := by
  unfold rest
  rw [List.drop_eq_getElem_cons (by simpa using h)]
  rfl
theorem rest_ge (s : ByteArray) (k : Nat) (h : s.size ≤ k) : rest s k = [] := by
  unfold rest
  exact List.drop_eq_nil_of_le (by simpa using h)

/-- What both functions answer. -/
def ans (s : ByteArray) (st : Nat) : Option Nat := scan (rest s st) false st 0
def endOf (s : ByteArray) : Option Nat → Int
  | some e => e
  | none => s.size

section
variable {s : ByteArray} {k : Nat} {d : Int}

theorem num {a : Nat} {n : Nat} (h : ((a : Int) == (n : Int)) = true) : a = n := by
  have := eq_of_beq h
  omega
theorem nonum {a : Nat} {n : Nat} (h : ((a : Int) == (n : Int)) = false) : a ≠ n := by
  intro e
  subst e
  simp at h

theorem st_quoted (h : k < s.size) : scan (rest s k) true k d = scan (rest s (k + 1)) false (k + 1) d := by
  rw [rest_lt s k h]; simp only [scan]
theorem st_mark (h : k < s.size) (h1 : ((s[k].toNat : Int) == 92) = true) : scan (rest s k) false k d = scan (rest s (k + 1)) true (k + 1) d := by
  rw [rest_lt s k h]; simp only [scan]; rw [if_pos (num h1)]
theorem st_esc (h : k < s.size) (h1 : ((s[k].toNat : Int) == 92) = true) : scan (rest s k) false k d = scan (rest s (k + 2)) false (k + 2) d := by
  rw [st_mark h h1]
  by_cases h2 : k + 1 < s.size
  · exact st_quoted h2
  · rw [rest_ge s (k + 1) (by omega), rest_ge s (k + 2) (by omega)]; rfl
theorem st_open (h : k < s.size) (h1 : ((s[k].toNat : Int) == 92) = false) (h2 : ((s[k].toNat : Int) == 40) = true) : scan (rest s k) false k d = scan (rest s (k + 1)) false (k + 1) (d + 1) := by
  rw [rest_lt s k h]; simp only [scan]; rw [if_neg (nonum h1), if_pos (num h2)]
theorem st_end (h : k < s.size) (h1 : ((s[k].toNat : Int) == 92) = false) (h2 : ((s[k].toNat : Int) == 40) = false) (h3 : ((s[k].toNat : Int) == 41) = true) (h4 : (d - 1 == 0) = true) : scan (rest s k) false k d = some (k + 1) := by
  rw [rest_lt s k h]; simp only [scan]; rw [if_neg (nonum h1), if_neg (nonum h2), if_pos (num h3), if_pos (eq_of_beq h4)]
theorem st_close (h : k < s.size) (h1 : ((s[k].toNat : Int) == 92) = false) (h2 : ((s[k].toNat : Int) == 40) = false) (h3 : ((s[k].toNat : Int) == 41) = true) (h4 : (d - 1 == 0) = false) : scan (rest s k) false k d = scan (rest s (k + 1)) false (k + 1) (d - 1) := by
  rw [rest_lt s k h]; simp only [scan]; rw [if_neg (nonum h1), if_neg (nonum h2), if_pos (num h3), if_neg (by intro e; rw [e] at h4; cases h4)]
theorem st_plain (h : k < s.size) (h1 : ((s[k].toNat : Int) == 92) = false) (h2 : ((s[k].toNat : Int) == 40) = false) (h3 : ((s[k].toNat : Int) == 41) = false) : scan (rest s k) false k d = scan (rest s (k + 1)) false (k + 1) d := by
  rw [rest_lt s k h]; simp only [scan]; rw [if_neg (nonum h1), if_neg (nonum h2), if_neg (nonum h3)]
theorem st_none (h : ¬ k < s.size) (b : Bool) : scan (rest s k) b k d = none := by
  rw [rest_ge s k (by omega)]; cases b <;> rfl
end

theorem ret_pair {a b : Int} {x y : Bool} (h1 : a = b) (h2 : x = y) : Ending.returned (.tuple #[.int .i64 a, .bool x]) = .returned (.tuple #[.int .i64 b, .bool y]) := by rw [h1, h2]
end Go.Proofs.Ybulkehca
