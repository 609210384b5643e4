/-
  The leaves of the road of LawS6672CWhole.
-/
import Derived.Test.YbulkehdqProg
import Derived.WalkKit
import Derived.WalkSpells
import Derived.WalkSmall
import Derived.Outline
import Derived.RegionTactic
import Derived.BigRegion
import Derived.Deep.RegionWith
import Derived.Deep.Cut
import Derived.Deep.QuietTactic
import Derived.BigQuiet
import Derived.LaidEqlPtr
import Derived.Deep.OwnRows
import Derived.Maps.AppendAt
import Derived.Maps.OwnSet
import Derived.Maps.Views
import Derived.Lib.Builder
import Derived.Laws.Cover3
namespace Go.Proofs.Ybulkehdq
open Go.RowKit Go.Maps

/-- The packages' and the benchmarks' names. -/
def pS : Nat → ByteArray
  | 0 => { data := #[] }
  | 1 => { data := #[97] }
  | _ => { data := #[98] }
def nS : Nat → ByteArray
  | 0 => { data := #[88] }
  | 1 => { data := #[89] }
  | _ => { data := #[90] }

theorem pS_eq {a b : Nat} (ha : a < 3) (hb : b < 3) : ((pS a).toList == (pS b).toList) = (a == b) := by
  match a, ha, b, hb with
  | 0, _, 0, _ => simp [pS]
  | 0, _, 1, _ => simp [pS, ByteArray.toList_eq]
  | 0, _, 2, _ => simp [pS, ByteArray.toList_eq]
  | 1, _, 0, _ => simp [pS, ByteArray.toList_eq]
  | 1, _, 1, _ => simp [pS]
  | 1, _, 2, _ => simp [pS, ByteArray.toList_eq]
  | 2, _, 0, _ => simp [pS, ByteArray.toList_eq]
  | 2, _, 1, _ => simp [pS, ByteArray.toList_eq]
  | 2, _, 2, _ => simp [pS]
theorem nS_eq {a b : Nat} (ha : a < 3) (hb : b < 3) : ((nS a).toList == (nS b).toList) = (a == b) := by
  match a, ha, b, hb with
  | 0, _, 0, _ => simp [nS]
  | 0, _, 1, _ => simp [nS, ByteArray.toList_eq]
  | 0, _, 2, _ => simp [nS, ByteArray.toList_eq]
  | 1, _, 0, _ => simp [nS, ByteArray.toList_eq]
  | 1, _, 1, _ => simp [nS]
  | 1, _, 2, _ => simp [nS, ByteArray.toList_eq]
  | 2, _, 0, _ => simp [nS, ByteArray.toList_eq]
  | 2, _, 1, _ => simp [nS, ByteArray.toList_eq]
  | 2, _, 2, _ => simp [nS]
theorem nS_size (a : Nat) : (nS a).size = 1 := by unfold nS; split <;> rfl
theorem nS_data {a b : Nat} (ha : a < 3) (hb : b < 3) (h : a ≠ b) : (nS a).data.toList ≠ (nS b).data.toList := by
  have := nS_eq ha hb
  rw [ByteArray.toList_eq, ByteArray.toList_eq] at this
  intro e
  rw [e] at this
  simp at this
  exact h this

set_option maxHeartbeats 400000 in
theorem pkg_any (x : Int) (h0 : 0 ≤ x) (h1 : x < 256) (w : World) : Calls Yba.prog 11 #[.int .u8 x] w fun e w' => e = .returned (.string (pS (x % 3).toNat)) ∧ w' = w := by
  obtain ⟨r, hr⟩ : ∃ r, x % 3 = r := ⟨_, rfl⟩
  have hc : r = 0 ∨ r = 1 ∨ r = 2 := by omega
  go_enter Yba.func11, Yba.ntmps11
  rw [hr]
  rcases hc with rfl | rfl | rfl
  all_goals
    go_wp2
    go_ret
    exact ⟨rfl, rfl⟩

set_option maxHeartbeats 400000 in
theorem name_any (x : Int) (h0 : 0 ≤ x) (h1 : x < 256) (w : World) : Calls Yba.prog 12 #[.int .u8 x] w fun e w' => e = .returned (.string (nS (x % 3).toNat)) ∧ w' = w := by
  obtain ⟨r, hr⟩ : ∃ r, x % 3 = r := ⟨_, rfl⟩
  have hc : r = 0 ∨ r = 1 ∨ r = 2 := by omega
  go_enter Yba.func12, Yba.ntmps12
  rw [hr]
  rcases hc with rfl | rfl | rfl
  all_goals
    go_wp2
    go_ret
    exact ⟨rfl, rfl⟩

/-- '==' between two IDs. -/
theorem eqlID (a b c d : ByteArray) (w : World) : Sem.run Yba.prog (binOp BinOp.eql 43 (.agg #[.string a, .string b]) (.agg #[.string c, .string d])) w = .ok (.bool ((a.toList == c.toList) && (b.toList == d.toList))) w := by
  simp [go_sem]
  split
  · rename_i h
    split
    · rename_i h2; simp [h, h2]
    · rename_i h2; simp [h2]
  · rename_i h; simp [h]
theorem neqID (a b c d : ByteArray) (w : World) : Sem.run Yba.prog (binOp BinOp.neq 43 (.agg #[.string a, .string b]) (.agg #[.string c, .string d])) w = .ok (.bool (!((a.toList == c.toList) && (b.toList == d.toList)))) w := by
  simp [go_sem]
  split
  · rename_i h
    split
    · rename_i h2; simp [h, h2]
    · rename_i h2; simp [h2]
  · rename_i h; simp [h]

/-- A benchmark: its block, its package's and its name's number. -/
abbrev Ent := Nat × Nat × Nat
def ptrV (x : Ent) : Value := .pointer (some ⟨x.1, 0, none⟩)
def ptrO : Option Ent → Value
  | none => .pointer none
  | some x => ptrV x

theorem find_miss {M : List Ent} {f : Ent → Bool} (h : ∀ (i : Nat) (hi : i < M.length), f M[i] = false) : M.find? f = none := by
  rw [List.find?_eq_none]
  intro x hx
  obtain ⟨i, hi, rfl⟩ := List.getElem_of_mem hx
  rw [h i hi]
  simp
theorem find_hit {M : List Ent} {f : Ent → Bool} {k : Nat} (hk : k < M.length) (h : ∀ (i : Nat) (hi : i < M.length), i < k → f M[i] = false) (hf : f M[k] = true) : M.find? f = some M[k] := by
  rw [List.find?_eq_some_iff_getElem]
  exact ⟨hf, k, hk, rfl, fun j hj => by simp [h j (by omega) hj]⟩

set_option maxRecDepth 4000 in
set_option maxHeartbeats 1000000 in
theorem bench_any (F : Nat) (m : Option Nat) (a : Option Addr) (c l : Nat) (M : List Ent) (p n : Nat) (w : World) (hp : p < 3) (hl : M.length = l) (hl2 : l ≤ 100000)
    (hF1 : w.cell? ⟨F, 1, none⟩ = some (.map m))
    (hlk : ∀ q, (Instr.lookup 38 (.map m) (.string (nS n)) false).run Yba.prog ((w.alloc (.cells #[.string (pS p), .string (nS n)] 43)).drewN q) = .ok (.slice a l c) ((w.alloc (.cells #[.string (pS p), .string (nS n)] 43)).drewN q))
    (hrow : 0 < l → ∃ g, a = some ⟨g, 0, none⟩ ∧ ∀ (i : Nat) (hi : i < M.length), w.cell? ⟨g, i, none⟩ = some (ptrV M[i]))
    (hM : ∀ x ∈ M, x.2.1 < 3 ∧ w.cell? ⟨x.1, 0, none⟩ = some (.string (pS x.2.1))) :
    Calls Yba.prog 21 #[.pointer (some ⟨F, 0, none⟩), .agg #[.string (pS p), .string (nS n)]] w fun e w' => e = .returned (ptrO (M.find? (fun x => x.2.1 == p))) ∧
      ∃ q, w' = (w.alloc (.cells #[.string (pS p), .string (nS n)] 43)).drewN q := by
  have hFl : F < w.heap.size := World.block_lt_of_cell? w _ hF1
  have hlk1 : (Instr.lookup 38 (.map m) (.string (nS n)) false).run Yba.prog (w.alloc (.cells #[.string (pS p), .string (nS n)] 43)).drew = .ok (.slice a l c) (w.alloc (.cells #[.string (pS p), .string (nS n)] 43)).drew := hlk 1
  clear hlk
  go_enter Yba.func21, Yba.ntmps21
  go_wp2_with fail
  go_region
  go_wp2_with fail
  go_loopw [6, 15] (fun _ t wx => ∃ k q : Nat, k ≤ l ∧ t = .int .i64 k ∧ wx = (w.alloc (.cells #[.string (pS p), .string (nS n)] 43)).drewN q ∧ Hid (∀ (i : Nat) (hi : i < M.length), i < k → (M[i].2.1 == p) = false)) (fun _ t _ => l - (intOf t).toNat)
  case atStart => exact ⟨0, 1, Nat.zero_le _, rfl, rfl, fun i _ hi => by omega⟩
  case round =>
    obtain ⟨k, q, hk, rfl, rfl, HA⟩ := hrel
    by_cases hlt : k < l
    · have hlt' : (k : Int) < l := by omega
      obtain ⟨g, rfl, hrc⟩ := hrow (by omega)
      have hkM : k < M.length := by omega
      have r1 := hrc k hkM
      have hgl : g < w.heap.size := World.block_lt_of_cell? w _ r1
      obtain ⟨hp2, r2⟩ := hM M[k] (List.getElem_mem hkM)
      have hbl : M[k].1 < w.heap.size := World.block_lt_of_cell? w _ r2
      obtain ⟨x, hx⟩ : ∃ x, Hid (x = M[k]) := ⟨M[k], show M[k] = M[k] from rfl⟩
      rw [← hx.out] at r1 r2 hp2 hbl
      obtain ⟨xb, xp, xn⟩ := x
      simp only [ptrV] at r1 r2 hp2 hbl
      have hpe := pS_eq hp2 hp
      by_cases hpp : xp = p
      · subst hpp
        have hf : M.find? (fun x => x.2.1 == xp) = some (xb, xp, xn) := by
          rw [hx.out]
          exact find_hit hkM HA.out (by rw [← hx.out]; simp)
        have HF := show Hid _ from hf
        clear hf hpe hM hrc hrow
        go_wp2_with fail
        go_quiet (fail)
        go_wp2_with fail
        go_ret
        rw [HF.out]
        exact ⟨rfl, _, World.drewN_drewN ..⟩
      · have hpn : ((pS xp).toList == (pS p).toList) = false := by
          rw [hpe]
          simpa using hpp
        have hm1 : Hid (∀ (i : Nat) (hi : i < M.length), i < k + 1 → (M[i].2.1 == p) = false) := fun i hi hik => by
          by_cases hie : i = k
          · subst hie
            rw [← hx.out]
            simpa using hpp
          · exact HA.out i hi (by omega)
        clear hpe hM hrc hrow
        go_wp2_with fail
        go_quiet (fail)
        go_wp2_with fail
        go_roundw
        case rel => exact ⟨k + 1, _, by omega, rfl, rfl, hm1⟩
        case measure => simp [intOf]; omega
    · have hke : k = l := by omega
      subst hke
      have hf : M.find? (fun x => x.2.1 == p) = none := find_miss (fun i hi => HA.out i hi (by omega))
      have HF := show Hid _ from hf
      clear hf hM hrow
      go_wp2_with fail
      go_ret
      rw [HF.out]
      exact ⟨rfl, _, rfl⟩

set_option maxHeartbeats 400000 in
theorem named_any (F : Nat) (m : Option Nat) (v : Value) (s : ByteArray) (w : World) (hF1 : w.cell? ⟨F, 1, none⟩ = some (.map m)) (hlk : (Instr.lookup 38 (.map m) (.string s) false).run Yba.prog w = .ok v w) :
    Calls Yba.prog 22 #[.pointer (some ⟨F, 0, none⟩), .string s] w fun e w' => e = .returned v ∧ w' = w := by
  go_enter Yba.func22, Yba.ntmps22
  go_wp2_with fail
  go_ret
  exact ⟨rfl, rfl⟩
end Go.Proofs.Ybulkehdq
