/-
  LawS6675CWhole: the walks of valid (4) and of the table's model (5).
-/
import Derived.Test.YbulkehfgProg
import Derived.WalkKit
import Derived.WalkSpells
import Derived.WalkSmall
import Derived.Outline
import Derived.Deep.QuietTactic
import Derived.BigQuiet
namespace Go.Proofs.Ybulkehfg
open Go.RowKit

def create : ByteArray := { data := #[99, 114, 101, 97, 116, 101] }
def update : ByteArray := { data := #[117, 112, 100, 97, 116, 101] }
def delete : ByteArray := { data := #[100, 101, 108, 101, 116, 101] }
/-- The table's names. -/
def nameAt : Nat → ByteArray
  | 0 => create
  | 1 => update
  | _ => delete

/-- One of the three names. -/
def isName (s : ByteArray) : Bool := s.toList == [99, 114, 101, 97, 116, 101] || s.toList == [117, 112, 100, 97, 116, 101] || s.toList == [100, 101, 108, 101, 116, 101]

theorem nameAt_size (k : Nat) : (nameAt k).size = 6 := by
  unfold nameAt
  split <;> rfl

/-- A name is met, or none is. -/
theorem isName_met {s : ByteArray} {k : Nat} (hk : k < 3) (h : s = nameAt k) : isName s = true := by
  subst h
  match k, hk with
  | 0, _ => simp [isName, nameAt, create, ByteArray.toList_eq]
  | 1, _ => simp [isName, nameAt, update, ByteArray.toList_eq]
  | 2, _ => simp [isName, nameAt, delete, ByteArray.toList_eq]
theorem isName_none {s : ByteArray} (h : ∀ k, k < 3 → s ≠ nameAt k) : isName s = false := by
  have key : ∀ k, k < 3 → (s.toList == (nameAt k).data.toList) = false := fun k hk => by
    rw [ByteArray.toList_eq]
    simp only [beq_eq_false_iff_ne, ne_eq]
    intro e
    exact h k hk (WideShapes.bytes_inj e)
  have h0 := key 0 (by omega)
  have h1 := key 1 (by omega)
  have h2 := key 2 (by omega)
  simp only [nameAt, create, update, delete] at h0 h1 h2
  simp only [isName, h0, h1, h2, Bool.or_false]
theorem same_of {s n : ByteArray} (hl : s.size = n.size) (h : ∀ i (h1 : i < s.size) (h2 : i < n.size), s[i] = n[i]) : s = n := by
  refine WideShapes.bytes_inj ?_
  refine List.ext_getElem (by simpa using hl) (fun i h1 h2 => ?_)
  exact h i (by simpa using h1) (by simpa using h2)

set_option maxHeartbeats 400000 in
theorem valid_any (s : ByteArray) (w : World) : Calls Yba.prog 4 #[.string s] w fun e w' => e = .returned (.bool (isName s)) ∧ w' = w := by
  go_enter Yba.func4, Yba.ntmps4
  go_wp2
  all_goals
    go_ret
    simp_all [isName]

theorem table_cell (w : World) (n k : Nat) (hk : k < 3) : ((w.alloc (.cells #[.string create, .string update, .string delete] 27)).drewN n).cell? ⟨w.heap.size, k, none⟩ = some (.string (nameAt k)) := by
  have hh : (w.alloc (.cells #[.string create, .string update, .string delete] 27)).heap[w.heap.size]? = some (.cells #[.string create, .string update, .string delete] 27) := by
    show (w.heap.push _)[w.heap.size]? = _
    simp
  rw [World.cell?_drewN]
  simp only [World.cell?, hh]
  match k, hk with
  | 0, _ => rfl
  | 1, _ => rfl
  | 2, _ => rfl

set_option maxHeartbeats 1000000 in
theorem model_any (s : ByteArray) (w : World) : Calls Yba.prog 5 #[.string s] w fun e w' => e = .returned (.bool (isName s)) ∧ ∃ n, w' = (w.alloc (.cells #[.string create, .string update, .string delete] 27)).drewN n := by
  go_enter Yba.func5, Yba.ntmps5
  go_wp2
  go_loopw [4, 5, 6, 7] (fun t4 _ _ _ wx => ∃ k n : Nat, k ≤ 3 ∧ t4 = .int .i64 k ∧ wx = (w.alloc (.cells #[.string create, .string update, .string delete] 27)).drewN n ∧ Hid (∀ i, i < k → s ≠ nameAt i)) (fun t4 _ _ _ _ => 3 - (intOf t4).toNat)
  case atStart => exact ⟨0, 0, by omega, rfl, rfl, fun i hi => by omega⟩
  case round =>
    obtain ⟨k, n, hk, rfl, rfl, HA⟩ := hrel
    by_cases hlt : k < 3
    · have hlt' : (k : Int) < 3 := by omega
      have hc := table_cell w n k hlt
      have hsz := nameAt_size k
      obtain ⟨nm, hnm⟩ : ∃ nm, Hid (nm = nameAt k) := ⟨_, rfl⟩
      rw [← hnm.out] at hc hsz
      by_cases hl : s.size = 6
      · have hmax : (6 : Int) ≤ 9223372036854775807 := by omega
        go_wp2
        go_loopw [6, 7] (fun t6 t7 wx => ∃ j m : Nat, j ≤ 6 ∧ t7 = .int .i64 j ∧ t6 = .bool true ∧ wx = (w.alloc (.cells #[.string create, .string update, .string delete] 27)).drewN m ∧ Hid (∀ i (h1 : i < s.size) (h2 : i < nm.size), i < j → s[i] = nm[i])) (fun _ t7 _ => 6 - (intOf t7).toNat)
        case atStart => exact ⟨0, n, by omega, rfl, rfl, rfl, fun i _ _ hi => by omega⟩
        case round =>
          obtain ⟨j, m, hj, rfl, rfl, rfl, HB⟩ := hrel
          by_cases hjl : j < 6
          · have hj1 : j < s.size := by omega
            have hj2 : j < nm.size := by omega
            have hj' : (j : Int) < 6 := by omega
            by_cases he : s[j] = nm[j]
            · go_wp2_with fail
              go_quiet (fail)
              go_wp2_with fail
              go_roundw
              case rel =>
                exact ⟨j + 1, _, by omega, rfl, rfl, rfl, fun i h1 h2 hi => by
                  by_cases hij : i = j
                  · subst hij; exact he
                  · exact HB.out i h1 h2 (by omega)⟩
              case measure => simp [intOf]; omega
            · have he' : ¬ (s[j].toNat : Int) = (nm[j].toNat : Int) := fun e => he (UInt8.toNat_inj.1 (by omega))
              have hne : Hid (∀ i, i < k + 1 → s ≠ nameAt i) := fun i hi => by
                by_cases hik : i = k
                · subst hik
                  intro e
                  have e2 : s = nm := e.trans hnm.out.symm
                  subst e2
                  exact he rfl
                · exact HA.out i (by omega)
              clear he
              go_wp2_with fail
              go_quiet (fail)
              go_wp2_with fail
              go_roundw
              case rel => exact ⟨k + 1, _, by omega, rfl, rfl, hne⟩
              case measure => simp [intOf]; omega
          · have hj6 : j = 6 := by omega
            subst hj6
            have hm := isName_met hlt (s := s) ((same_of (by omega) (fun i h1 h2 => HB.out i h1 h2 (by omega))).trans hnm.out)
            have HMM := show Hid _ from hm
            clear hm
            go_wp2_with fail
            go_ret
            rw [HMM.out]
            exact ⟨rfl, _, rfl⟩
      · have hl' : ¬ (6 : Int) = (s.size : Int) := by omega
        have hne : Hid (∀ i, i < k + 1 → s ≠ nameAt i) := fun i hi => by
          by_cases hik : i = k
          · subst hik
            intro e
            rw [e, nameAt_size] at hl
            exact hl rfl
          · exact HA.out i (by omega)
        go_wp2_with fail
        go_roundw
        case rel => exact ⟨k + 1, _, by omega, rfl, rfl, hne⟩
        case measure => simp [intOf]; omega
    · have hk3 : k = 3 := by omega
      subst hk3
      have hm := isName_none HA.out
      have HMM := show Hid _ from hm
      clear hm
      go_wp2_with fail
      go_ret
      rw [HMM.out]
      exact ⟨rfl, _, rfl⟩
end Go.Proofs.Ybulkehfg
