/-
  (*bufio.Reader).Read (function 13), out of a buffer that holds bytes.
-/
import Derived.Test.YbulkehcaDoorRead
namespace Go.Proofs.YbulkehcaDoor
open Go.RowKit

theorem copyOut (w : World) (Pb Bf r wv N g m : Nat) (pcur : Array Value) (zs : List Int) (hP : w.heap[Pb]? = some (.cells pcur 5 (0, 0))) (hcs : pcur.size = 37) (hm : m = min (wv - r) 37) (hz : g + (wv - r) ≤ zs.length)
    (hc : ∀ i, i < wv - r → w.cell? ⟨Bf, r + i, none⟩ = some (.int .u8 (zs.getD (g + i) 0))) (nq : Nat) :
    (Builtin.copy_ #[25, 25] 3 #[.slice (some ⟨Pb, 0, none⟩) 37 37, .slice (some ⟨Bf, r, none⟩) (wv - r) (N - r)]).run Ybad.prog (w.drewN nq) =
      .ok (.int .i64 m) ((w.setRow Pb (filled zs g m pcur)).drewN nq) := by
  have hl : (((zs.drop g).take m).map (Value.int .u8)).length = m := by rw [List.length_map, List.length_take, List.length_drop]; omega
  have h := run_copy_row (P := Ybad.prog) (w.drewN nq) 25 25 3 5 Pb 0 37 37 ⟨Bf, r, none⟩ (wv - r) (N - r) pcur 5 (((zs.drop g).take m).map (Value.int .u8)) Ybad.underlying25 (by kernel_rfl) hP (by rw [hl]; exact hm) (fun j v hj => by
      have hjm : j < m := by
        have := (List.getElem?_eq_some_iff.1 hj).1
        omega
      rw [Addr.add_lit, World.cell?_drewN, hc j (by omega)]
      rw [List.getElem?_map, List.getElem?_take, if_pos hjm, List.getElem?_drop] at hj
      rw [List.getD]
      rw [List.getElem?_eq_getElem (by omega)] at hj ⊢
      exact hj) (by rw [hl, hcs, Nat.zero_add]; omega) (fun v hv => by obtain ⟨x, _, rfl⟩ := List.mem_map.1 hv; rfl)
  rw [hl] at h
  simp only [List.take_zero, List.nil_append, Nat.zero_add] at h
  exact h

set_option maxHeartbeats 1000000 in
theorem bread_take (R S Bf Pb r wv N g m : Nat) (pcur : Array Value) (zs : List Int) (w : World)
    (lb lr : Int) (hR : w.heap[R]? = some (.cells #[.slice (some ⟨Bf, 0, none⟩) N N, .iface 29 (.pointer (some ⟨S, 0, none⟩)), .int .i64 r, .int .i64 wv, .nilIface, .int .i64 lb, .int .i64 lr] 51 (0, 0)))
    (hP : w.heap[Pb]? = some (.cells pcur 5 (0, 0))) (hcs : pcur.size = 37) (hRP : R ≠ Pb) (hRB : R ≠ Bf) (hPB : Pb ≠ Bf) (hr : r < wv) (hwN : wv ≤ N) (hN : N ≤ 2000000) (hm : m = min (wv - r) 37) (hz : g + (wv - r) ≤ zs.length)
    (hc : ∀ i, i < wv - r → w.cell? ⟨Bf, r + i, none⟩ = some (.int .u8 (zs.getD (g + i) 0))) :
    Calls Ybad.prog 13 #[.pointer (some ⟨R, 0, none⟩), .slice (some ⟨Pb, 0, none⟩) 37 37] w fun e w' => e = .returned (.tuple #[.int .i64 m, .nilIface]) ∧
      ∃ n lb', w' = ((((w.setRow Pb (filled zs g m pcur)).setCell ⟨R, 2, none⟩ (.int .i64 ((r : Int) + m))).setCell ⟨R, 5, none⟩ (.int .i64 lb')).setCell ⟨R, 6, none⟩ (.int .i64 (-1))).drewN n := by
  have c0 : w.cell? ⟨R, 0, none⟩ = some (.slice (some ⟨Bf, 0, none⟩) N N) := by simp [World.cell?, hR]
  have c2 : w.cell? ⟨R, 2, none⟩ = some (.int .i64 r) := by simp [World.cell?, hR]
  have c3 : w.cell? ⟨R, 3, none⟩ = some (.int .i64 wv) := by simp [World.cell?, hR]
  have c5 : w.cell? ⟨R, 5, none⟩ = some (.int .i64 lb) := by simp [World.cell?, hR]
  have c6 : w.cell? ⟨R, 6, none⟩ = some (.int .i64 lr) := by simp [World.cell?, hR]
  have ff : ∀ i, w.frozen? ⟨R, i, none⟩ = false := fun i => by simp [World.frozen?, hR]
  have hcp := copyOut w Pb Bf r wv N g m pcur zs hP hcs hm hz hc
  have hne : ¬ (r : Int) = (wv : Int) := by omega
  have hle : (r : Int) ≤ (wv : Int) := by omega
  have hle2 : (wv : Int) ≤ (N : Int) := by omega
  have hNr : ¬ N = r := by omega
  have hm0 : 0 < m := by omega
  have hml : r + m ≤ N := by omega
  have x0 := (setRow_cell_other w Pb (filled zs g m pcur) R 0 hRP).trans c0
  have x2 := (setRow_cell_other w Pb (filled zs g m pcur) R 2 hRP).trans c2
  have x5 := (setRow_cell_other w Pb (filled zs g m pcur) R 5 hRP).trans c5
  have x6 := (setRow_cell_other w Pb (filled zs g m pcur) R 6 hRP).trans c6
  have xf : ∀ i, (w.setRow Pb (filled zs g m pcur)).frozen? ⟨R, i, none⟩ = false := fun i => (setRow_frozen_other w Pb (filled zs g m pcur) R i hRP).trans (ff i)
  have e1 : ((r : Int) + m - 1).toNat = r + m - 1 := by omega
  have x7 : (w.setRow Pb (filled zs g m pcur)).cell? ⟨Bf, r + m - 1, none⟩ = some (.int .u8 (zs.getD (g + (m - 1)) 0)) := by
    rw [setRow_cell_other _ _ _ _ _ (fun e => hPB e.symm), show r + m - 1 = r + (m - 1) by omega]
    exact hc (m - 1) (by omega)
  have e2 : 0 ≤ (r : Int) + m - 1 := by omega
  have e3 : (r : Int) + m - 1 < N := by omega
  clear hm hcs hP hR hc hz
  go_enter Ybad.func13, Ybad.ntmps13
  go_wp2_with fail
  go_quiet (fail)
  go_wp2_with fail
  go_region
  go_wp2_with fail
  go_region
  go_wp2_with fail
  go_ret2
  exact ⟨rfl, _ + 1 + 1, _, rfl⟩
end Go.Proofs.YbulkehcaDoor
