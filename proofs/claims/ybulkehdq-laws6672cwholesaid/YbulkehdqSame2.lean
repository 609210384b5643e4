/-
  zzs6672csame (15) over a Set.
-/
import Derived.Test.YbulkehdqSame
namespace Go.Proofs.Ybulkehdq
open Go.RowKit Go.Maps

theorem ids_cells {w : World} {base g n c : Nat} {L : List Ent} (h : w.ownsRow base 43 2 (.slice (some ⟨g, 0, none⟩) n c) n (idCells L)) {i : Nat} (hi : i < L.length) :
    w.cell? ⟨g, i * 2, none⟩ = some (.string (pS L[i].2.1)) ∧ w.cell? ⟨g, i * 2 + 1, none⟩ = some (.string (nS L[i].2.2)) := by
  have h1 := h.cells (g := g) rfl _ _ (idCells_at hi).1
  have h2 := h.cells (g := g) rfl _ _ (idCells_at hi).2
  exact ⟨by simpa [Addr.add_lit] using h1, by simpa [Addr.add_lit] using h2⟩

set_option maxHeartbeats 1000000 in
theorem same_any (base F b0 c : Nat) (a : Option Addr) (L : List Ent) (m : Option Nat) (w : World) (h : SetM w base F L m) (hr : w.ownsRow b0 43 2 (.slice a L.length c) L.length (idCells L)) (hL : L.length ≤ 100000) :
    Calls Yba.prog 15 #[.pointer (some ⟨F, 0, none⟩), .slice a L.length c] w fun e w' => e = .returned (.bool true) ∧ ∃ q, w' = w.drewN q := by
  obtain ⟨aB, cB, hF, hFl, hrd⟩ := h.reads
  obtain ⟨l, hl⟩ : ∃ l, Hid (L.length = l) := ⟨_, rfl⟩
  rw [hl.out] at hF hL hr ⊢
  go_enter Yba.func15, Yba.ntmps15
  go_wp2_with fail
  go_loopw [5, 6, 20] (fun _ _ t wx => ∃ (k q : Nat), k ≤ l ∧ t = .int .i64 k ∧ wx = w.drewN q) (fun _ _ t _ => l - (intOf t).toNat)
  case atStart => exact ⟨0, 0, Nat.zero_le _, rfl, rfl⟩
  case round =>
    obtain ⟨k, q, hk, rfl, rfl⟩ := hrel
    by_cases hlt : k < l
    · have hkL : k < L.length := by have := hl.out; omega
      obtain ⟨g, rfl, hgl, hxl, c0, c1, c2, -, -⟩ := hrd k hkL
      obtain ⟨g', rfl⟩ := row_at hr (by omega)
      obtain ⟨d0, d1⟩ := ids_cells hr hkL
      have hlt' : (k : Int) < l := by omega
      obtain ⟨x, hx⟩ : ∃ x, Hid (x = L[k]) := ⟨L[k], show L[k] = L[k] from rfl⟩
      rw [← hx.out] at c0 c1 c2 hxl d0 d1
      obtain ⟨xb, xp, xn⟩ := x
      simp only [ptrV] at c0 c1 c2 hxl d0 d1
      clear hrd hr h
      go_wp2_with fail
      go_quiet (fail)
      go_wp2_with fail
      go_roundw
      case rel => exact ⟨k + 1, _, by omega, rfl, rfl⟩
      case measure => simp [intOf]; omega
    · have hke : k = l := by omega
      subst hke
      clear hrd hr h
      go_wp2_with fail
      go_ret
      exact ⟨rfl, _, rfl⟩
end Go.Proofs.Ybulkehdq
