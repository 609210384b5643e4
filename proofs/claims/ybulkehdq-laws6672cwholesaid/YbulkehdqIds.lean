/-
  zzs6672cids (13), zzs6672csame (15) over a Set.
-/
import Derived.Test.YbulkehdqAdd
namespace Go.Proofs.Ybulkehdq
open Go.RowKit Go.Maps

def idCells (L : List Ent) : List Value := L.flatMap (fun x => [.string (pS x.2.1), .string (nS x.2.2)])
theorem idCells_snoc (L : List Ent) (x : Ent) : idCells (L ++ [x]) = idCells L ++ [.string (pS x.2.1), .string (nS x.2.2)] := by simp [idCells]
theorem idCells_len (L : List Ent) : (idCells L).length = L.length * 2 := by
  induction L with
  | nil => rfl
  | cons x r ih => rw [show x :: r = [x] ++ r from rfl]; simp only [idCells, List.flatMap_append] at ih ⊢; simp at ih ⊢; omega
theorem idCells_at : ∀ {L : List Ent} {i : Nat} (h : i < L.length), (idCells L)[i * 2]? = some (.string (pS L[i].2.1)) ∧ (idCells L)[i * 2 + 1]? = some (.string (nS L[i].2.2))
  | x :: r, 0, _ => ⟨rfl, rfl⟩
  | x :: r, i + 1, h => by
    have ih := idCells_at (L := r) (i := i) (by simpa using h)
    have e : idCells (x :: r) = .string (pS x.2.1) :: .string (nS x.2.2) :: idCells r := rfl
    rw [e, show (i + 1) * 2 = i * 2 + 1 + 1 by omega]
    simp only [List.getElem?_cons_succ, List.getElem_cons_succ]
    exact ih
theorem info43 : (Yba.prog.info? 43).map (fun i => (i.zero, i.size, i.bytes)) = some (some (.agg #[.string { data := #[] }, .string { data := #[] }]), 2, 32) := by kernel_rfl
theorem mkIds (c : Nat) (hc : c ≤ 200000) (w : World) : ∃ cs, (Instr.makeSlice 48 (.int .i64 0) (.int .i64 (c : Int))).run Yba.prog w = .ok (.slice (some ⟨w.heap.size, 0, none⟩) 0 c) (w.alloc (.cells cs 43)) ∧ (w.alloc (.cells cs 43)).ownsRow w.heap.size 43 2 (.slice (some ⟨w.heap.size, 0, none⟩) 0 c) 0 [] := by
  obtain ⟨i, hi, hz, hs, hb⟩ := info_parts info43
  have hr := run_make (P := Yba.prog) w 48 43 i _ Yba.underlying48 hi hz .i64 .i64 0 c (Int.le_refl _) (by omega) (by rw [hb]; omega) (by omega)
  simp only [Int.toNat_zero, Int.toNat_natCast, hs] at hr
  exact ⟨_, hr, World.ownsRow_made w _ c (Nat.le_refl _) (by unfold maxLen; omega) (by rw [size_madeCells])⟩
end Go.Proofs.Ybulkehdq
