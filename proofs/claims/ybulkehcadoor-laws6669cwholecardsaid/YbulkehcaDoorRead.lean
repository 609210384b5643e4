/-
  (*zzs6669creader).Read (function 60) and (*bufio.Reader).Read (function 13).
-/
import Derived.Test.YbulkehcaDoorLeaf
import Derived.RegionTactic
import Derived.BigRegion
import Derived.Deep.RegionWith
import Derived.Deep.Cut
namespace Go.Proofs.YbulkehcaDoor
open Go.RowKit

set_option maxHeartbeats 400000 in
theorem cread_eof (S : Nat) (a0 : Option Addr) (len cap kk : Nat) (t : TypeId) (z : Addr) (w : World) (hg : w.cell? ⟨0, 0, none⟩ = some (.iface t (.pointer (some z))))
    (h0 : w.cell? ⟨S, 0, none⟩ = some (.slice a0 len cap)) (h1 : w.cell? ⟨S, 1, none⟩ = some (.int .i64 kk)) (hk : len ≤ kk) (p : Value) :
    Calls Ybad.prog 60 #[.pointer (some ⟨S, 0, none⟩), p] w fun e w' => e = .returned (.tuple #[.int .i64 0, .iface t (.pointer (some z))]) ∧ ∃ n, w' = w.drewN n := by
  have hk' : (len : Int) ≤ (kk : Int) := by omega
  go_enter Ybad.func60, Ybad.ntmps60
  go_wp2_with fail
  go_quiet (fail)
  go_wp2_with fail
  go_quiet (fail)
  go_wp2_with fail
  go_ret2
  exact ⟨rfl, _, World.drewN_drewN ..⟩

/-- The row behind the copy. -/
def filled (zs : List Int) (kk m : Nat) (cur : Array Value) : Array Value := ((((zs.drop kk).take m).map (Value.int .u8)) ++ cur.toList.drop m).toArray

theorem setRow_heap_other (w : World) (g k : Nat) (cs : Array Value) (h : k ≠ g) : (w.setRow g cs).heap[k]? = w.heap[k]? := by
  simp only [World.setRow, Array.getElem?_modify]
  rw [if_neg (fun e => h e.symm)]
theorem setRow_cell_other (w : World) (g : Nat) (cs : Array Value) (b o : Nat) (h : b ≠ g) : (w.setRow g cs).cell? ⟨b, o, none⟩ = w.cell? ⟨b, o, none⟩ := World.cell?_of_block (setRow_heap_other w g b cs h)
theorem setRow_frozen_other (w : World) (g : Nat) (cs : Array Value) (b o : Nat) (h : b ≠ g) : (w.setRow g cs).frozen? ⟨b, o, none⟩ = w.frozen? ⟨b, o, none⟩ := World.frozen?_of_block (setRow_heap_other w g b cs h)

theorem copyIn (w : World) (Bf b o len cap kk N m : Nat) (cur : Array Value) (zs : List Int) (hB : w.heap[Bf]? = some (.cells cur 5 (0, 0))) (hcs : cur.size = N) (hm : m = min (len - kk) N) (hz : zs.length = len)
    (hc : ∀ i, i < len → w.cell? ⟨b, o + i, none⟩ = some (.int .u8 (zs.getD i 0))) (nq : Nat) :
    (Builtin.copy_ #[25, 25] 3 #[.slice (some ⟨Bf, 0, none⟩) N N, .slice (some ⟨b, o + kk, none⟩) (len - kk) (cap - kk)]).run Ybad.prog (w.drewN nq) =
      .ok (.int .i64 m) ((w.setRow Bf (filled zs kk m cur)).drewN nq) := by
  have hl : (((zs.drop kk).take m).map (Value.int .u8)).length = m := by rw [List.length_map, List.length_take, List.length_drop]; omega
  have h := run_copy_row (P := Ybad.prog) (w.drewN nq) 25 25 3 5 Bf 0 N N ⟨b, o + kk, none⟩ (len - kk) (cap - kk) cur 5 (((zs.drop kk).take m).map (Value.int .u8)) Ybad.underlying25 (by kernel_rfl) hB (by rw [hl]; exact hm) (fun j v hj => by
      have hjm : j < m := by
        have := (List.getElem?_eq_some_iff.1 hj).1
        omega
      rw [Addr.add_lit, World.cell?_drewN, Nat.add_assoc, hc (kk + j) (by omega)]
      rw [List.getElem?_map, List.getElem?_take, if_pos hjm, List.getElem?_drop] at hj
      rw [List.getD]
      rw [List.getElem?_eq_getElem (by omega)] at hj ⊢
      exact hj) (by rw [hl, hcs, Nat.zero_add]; omega) (fun v hv => by obtain ⟨x, _, rfl⟩ := List.mem_map.1 hv; rfl)
  rw [hl] at h
  simp only [List.take_zero, List.nil_append, Nat.zero_add] at h
  exact h

set_option maxHeartbeats 400000 in
theorem cread_some (S Bf b o len cap kk N m : Nat) (cur : Array Value) (zs : List Int) (w : World)
    (h0 : w.cell? ⟨S, 0, none⟩ = some (.slice (some ⟨b, o, none⟩) len cap)) (h1 : w.cell? ⟨S, 1, none⟩ = some (.int .i64 kk)) (f1 : w.frozen? ⟨S, 1, none⟩ = false) (hlc : len ≤ cap) (hlm : len ≤ 1048576) (hN : N ≤ 2000000) (hk : kk < len)
    (hB : w.heap[Bf]? = some (.cells cur 5 (0, 0))) (hBS : Bf ≠ S) (hcs : cur.size = N) (hm : m = min (len - kk) N) (hz : zs.length = len)
    (hc : ∀ i, i < len → w.cell? ⟨b, o + i, none⟩ = some (.int .u8 (zs.getD i 0))) :
    Calls Ybad.prog 60 #[.pointer (some ⟨S, 0, none⟩), .slice (some ⟨Bf, 0, none⟩) N N] w fun e w' => e = .returned (.tuple #[.int .i64 m, .nilIface]) ∧
      ∃ n, w' = ((w.setRow Bf (filled zs kk m cur)).setCell ⟨S, 1, none⟩ (.int .i64 ((kk : Int) + m))).drewN n := by
  have hk' : ¬ (len : Int) ≤ (kk : Int) := by omega
  have hkc : ¬ cap = kk := by omega
  have hcp := copyIn w Bf b o len cap kk N m cur zs hB hcs hm hz hc
  have hml : m ≤ 1048576 := by omega
  have x1 := (setRow_cell_other w Bf (filled zs kk m cur) S 1 (fun e => hBS e.symm)).trans h1
  have x2 := (setRow_frozen_other w Bf (filled zs kk m cur) S 1 (fun e => hBS e.symm)).trans f1
  clear hm hcs hB
  go_enter Ybad.func60, Ybad.ntmps60
  go_wp2_with fail
  go_quiet (fail)
  go_wp2_with fail
  go_region
  go_wp2_with fail
  go_ret2
  exact ⟨rfl, _, rfl⟩
end Go.Proofs.YbulkehcaDoor
