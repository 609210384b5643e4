/-
  (*bufio.Reader).Read (function 13), the buffer empty.
-/
import Derived.Test.YbulkehcaDoorFill
namespace Go.Proofs.YbulkehcaDoor
open Go.RowKit

theorem nil_ahead (a : Addr) (w : World) : (nilAhead 208 29 (.pointer (some a)) "Read").run Ybad.prog w = .ok (some false) w := by kernel_rfl
theorem method_read (a : Addr) (w : World) : (method 208 29 (.pointer (some a)) "Read").run Ybad.prog w = .ok (60, .pointer (some a)) w := by kernel_rfl

theorem set_drewN (w : World) (n : Nat) (p : Addr) (v : Value) : (w.drewN n).setCell p v = (w.setCell p v).drewN n := rfl
theorem two_other (w : World) (nq R : Nat) (u v : Value) (b o : Nat) (h : b ≠ R) : (((w.drewN nq).setCell ⟨R, 2, none⟩ u).setCell ⟨R, 3, none⟩ v).cell? ⟨b, o, none⟩ = w.cell? ⟨b, o, none⟩ := by
  refine World.cell?_of_block ?_
  rw [heap_setCell_other _ _ _ _ h, heap_setCell_other _ _ _ _ h]
  rfl
theorem two_frozen (w : World) (nq R : Nat) (u v : Value) (b o : Nat) (h : b ≠ R) : (((w.drewN nq).setCell ⟨R, 2, none⟩ u).setCell ⟨R, 3, none⟩ v).frozen? ⟨b, o, none⟩ = w.frozen? ⟨b, o, none⟩ := by
  refine World.frozen?_of_block ?_
  rw [heap_setCell_other _ _ _ _ h, heap_setCell_other _ _ _ _ h]
  rfl

theorem err_set (w : World) (n m R : Nat) (u v x : Value) (c4 : w.cell? ⟨R, 4, none⟩ = some .nilIface) : (((((w.drewN n).setCell ⟨R, 2, none⟩ u).setCell ⟨R, 3, none⟩ v).drewN m).setCell ⟨R, 4, none⟩ x).cell? ⟨R, 4, none⟩ = some x := by
  refine World.cell?_setCell_same _ _ _ (u := .nilIface) ?_
  rw [World.cell?_drewN, World.cell?_setCell_other _ _ _ _ (by simp), World.cell?_setCell_other _ _ _ _ (by simp)]
  exact c4
theorem err_frozen (w : World) (n m R : Nat) (u v x : Value) (f4 : w.frozen? ⟨R, 4, none⟩ = false) : (((((w.drewN n).setCell ⟨R, 2, none⟩ u).setCell ⟨R, 3, none⟩ v).drewN m).setCell ⟨R, 4, none⟩ x).frozen? ⟨R, 4, none⟩ = false := by
  rw [World.frozen?_setCell, World.frozen?_drewN, World.frozen?_setCell, World.frozen?_setCell]
  exact f4

set_option maxHeartbeats 1000000 in
theorem bread_eof (R S Bf r N kk len cap : Nat) (a0 : Option Addr) (p : Option Addr) (t : TypeId) (z : Addr) (w : World)
    (lb lr : Int) (hR : w.heap[R]? = some (.cells #[.slice (some ⟨Bf, 0, none⟩) N N, .iface 29 (.pointer (some ⟨S, 0, none⟩)), .int .i64 r, .int .i64 r, .nilIface, .int .i64 lb, .int .i64 lr] 51 (0, 0)))
    (hg : w.cell? ⟨0, 0, none⟩ = some (.iface t (.pointer (some z))))
    (h0 : w.cell? ⟨S, 0, none⟩ = some (.slice a0 len cap)) (h1 : w.cell? ⟨S, 1, none⟩ = some (.int .i64 kk)) (hk : len ≤ kk) (hR0 : R ≠ 0) (hRS : R ≠ S) (hN : 37 < N) :
    Calls Ybad.prog 13 #[.pointer (some ⟨R, 0, none⟩), .slice p 37 37] w fun e w' => e = .returned (.tuple #[.int .i64 0, .iface t (.pointer (some z))]) ∧
      ∃ n, w' = ((((w.setCell ⟨R, 2, none⟩ (.int .i64 0)).setCell ⟨R, 3, none⟩ (.int .i64 0)).setCell ⟨R, 4, none⟩ (.iface t (.pointer (some z)))).setCell ⟨R, 4, none⟩ .nilIface).drewN n := by
  have c0 : w.cell? ⟨R, 0, none⟩ = some (.slice (some ⟨Bf, 0, none⟩) N N) := by simp [World.cell?, hR]
  have c1 : w.cell? ⟨R, 1, none⟩ = some (.iface 29 (.pointer (some ⟨S, 0, none⟩))) := by simp [World.cell?, hR]
  have c2 : w.cell? ⟨R, 2, none⟩ = some (.int .i64 r) := by simp [World.cell?, hR]
  have c3 : w.cell? ⟨R, 3, none⟩ = some (.int .i64 r) := by simp [World.cell?, hR]
  have c4 : w.cell? ⟨R, 4, none⟩ = some .nilIface := by simp [World.cell?, hR]
  have ff : ∀ i, w.frozen? ⟨R, i, none⟩ = false := fun i => by simp [World.frozen?, hR]
  have hN' : ¬ (N : Int) ≤ 37 := by omega
  have hS0 : S ≠ R := fun e => hRS e.symm
  have hz0 : 0 ≠ R := fun e => hR0 e.symm
  have hna := nil_ahead
  have hme := method_read
  clear hR
  go_enter Ybad.func13, Ybad.ntmps13
  go_wp2_with fail
  go_quiet (fail)
  go_wp2_with fail
  go_region_with (go_at_call 60; refine (cread_eof S a0 len cap kk t z _ (by exact (two_other _ _ _ _ _ _ _ (by assumption)).trans hg) (by exact (two_other _ _ _ _ _ _ _ (by assumption)).trans h0) (by exact (two_other _ _ _ _ _ _ _ (by assumption)).trans h1) hk _).mono ?_; rintro e w1 ⟨rfl, n1, rfl⟩)
  all_goals
    go_wp2_with fail
    refine (readErr_any R (.iface t (.pointer (some z))) _ (Or.inr ⟨_, _, rfl⟩) ?_ ?_).mono ?_
    · exact err_set w _ _ R _ _ _ c4
    · exact err_frozen w _ _ R _ _ _ (ff 4)
    rintro e w2 ⟨rfl, rfl⟩
    go_wp2_with fail
    go_ret2
    simp only [set_drewN, World.drewN_drewN]
    exact ⟨rfl, _ , rfl⟩
end Go.Proofs.YbulkehcaDoor
