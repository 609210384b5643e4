/-
  zzs6672cids (13), zzs6672csame (15) over a Set.
-/
import Derived.Test.YbulkehdqIds
namespace Go.Proofs.Ybulkehdq
open Go.RowKit Go.Maps

/-- What a loop over a Set's benchmarks reads. -/
theorem SetM.reads {w : World} {base F : Nat} {L : List Ent} {m : Option Nat} (h : SetM w base F L m) :
    ∃ a c, w.cell? ⟨F, 0, none⟩ = some (.slice a L.length c) ∧ F < w.heap.size ∧ (∀ (i : Nat) (hi : i < L.length), ∃ g, a = some ⟨g, 0, none⟩ ∧ g < w.heap.size ∧ L[i].1 < w.heap.size ∧ w.cell? ⟨g, i, none⟩ = some (ptrV L[i]) ∧
      w.cell? ⟨L[i].1, 0, none⟩ = some (.string (pS L[i].2.1)) ∧ w.cell? ⟨L[i].1, 1, none⟩ = some (.string (nS L[i].2.2)) ∧ L[i].2.1 < 3 ∧ L[i].2.2 < 3) := by
  obtain ⟨a, c, V, h1, h2, h3, h4, h5, h6, h7, h8, h9⟩ := h
  refine ⟨a, c, by simp [World.cell?, h1], (Array.getElem?_eq_some_iff.1 h1).1, fun i hi => ?_⟩
  obtain ⟨g, rfl⟩ := row_at h3 (by omega)
  obtain ⟨k1, k2, k3, q, k4⟩ := h8 L[i] (List.getElem_mem hi)
  have hc := ptrs_cell h3 hi
  exact ⟨g, rfl, World.block_lt_of_cell? w _ hc, (Array.getElem?_eq_some_iff.1 k4).1, hc, by simp [World.cell?, k4], by simp [World.cell?, k4], k1, k2⟩

theorem cellIn {B : Nat} {W w1 : World} (h : Below B W w1) {b o : Nat} {v : Value} (hb : b < B) (hc : W.cell? ⟨b, o, none⟩ = some v) : w1.cell? ⟨b, o, none⟩ = some v := by
  rw [h.cell (p := ⟨b, o, none⟩) hb]; exact hc

theorem cell_two_new (w : World) (v v' : Value) (t : TypeId) : ∀ j u, [v, v'][j]? = some u → (w.alloc (.cells #[v, v'] t)).cell? ((⟨w.heap.size, 0, none⟩ : Addr).add j) = some u := by
  intro j u h
  rw [Addr.add_lit]
  have := heap_new w (.cells #[v, v'] t)
  simp only [World.cell?, this]
  simpa using h

set_option maxHeartbeats 1000000 in
theorem ids_any (base F : Nat) (L : List Ent) (m : Option Nat) (w : World) (h : SetM w base F L m) (hL : L.length ≤ 100000) :
    Calls Yba.prog 13 #[.pointer (some ⟨F, 0, none⟩)] w fun e w' => ∃ a c, e = .returned (.slice a L.length c) ∧ w'.ownsRow w.heap.size 43 2 (.slice a L.length c) L.length (idCells L) ∧ Below w.heap.size w w' := by
  obtain ⟨aB, cB, hF, hFl, hrd⟩ := h.reads
  obtain ⟨cs, hmk, hown0⟩ := mkIds L.length (by omega) w
  obtain ⟨i43, hi, hz, hs, hb⟩ := info_parts info43
  obtain ⟨l, hl⟩ : ∃ l, Hid (L.length = l) := ⟨_, rfl⟩
  rw [hl.out] at hF hmk hown0 hL ⊢
  go_enter Yba.func13, Yba.ntmps13
  go_wp2_with fail
  go_loopw [3, 5, 17] (fun t3 _ t wx => ∃ (k c : Nat) (a : Option Addr), k ≤ l ∧ t = .int .i64 k ∧ t3 = .slice a k c ∧ Below w.heap.size w wx ∧ wx.ownsRow w.heap.size 43 2 (.slice a k c) k (idCells (L.take k))) (fun _ _ t _ => l - (intOf t).toNat)
  case atStart => exact ⟨0, _, _, Nat.zero_le _, rfl, rfl, (Below.refl _ _).alloc (Nat.le_refl _) _, hown0⟩
  case round =>
    obtain ⟨k, c, a, hk, rfl, rfl, hbx, hr⟩ := hrel
    have hxs := hbx.size
    by_cases hlt : k < l
    · have hkL : k < L.length := by have := hl.out; omega
      obtain ⟨g, rfl, hgl, hxl, c0, c1, c2, -, -⟩ := hrd k hkL
      have hlt' : (k : Int) < l := by omega
      have htk : L.take (k + 1) = L.take k ++ [L[k]] := by rw [List.take_add_one, List.getElem?_eq_getElem hkL]; rfl
      obtain ⟨x, hx⟩ : ∃ x, Hid (x = L[k]) := ⟨L[k], show L[k] = L[k] from rfl⟩
      rw [← hx.out] at c0 c1 c2 hxl htk
      obtain ⟨xb, xp, xn⟩ := x
      simp only [ptrV] at c0 c1 c2 hxl
      have e0 := cellIn hbx hgl c0
      have e1 := cellIn hbx hxl c1
      have e2 := cellIn hbx hxl c2
      have HTK := show Hid _ from htk
      clear htk hrd
      go_wp2_with (first
        | (at_builtin; refine wpList_append_own _ rfl (.tmp 21) (.tmp 26) 48 rfl w.heap.size 43 i43 (.agg #[.string { data := #[] }, .string { data := #[] }]) 2 32 Yba.underlying48 hi hz hs hb rfl (by decide) _ _ _ rfl (hr.alloc _) ⟨wr.heap.size, 0, none⟩ 1 1 [.string (pS xp), .string (nS xn)] rfl rfl (cell_two_new _ _ _ _) (by simp [Value.oneCell']) (by unfold maxLen; omega) (by omega) (by simp; omega) ?_; intro v3 w6 hown3 hgrow3 hiff3; obtain ⟨a3, c3, rfl⟩ := row_shape hown3)
        | fail)
      go_roundw
      case rel =>
        refine ⟨k + 1, c3, a3, by omega, rfl, rfl, ((hbx.alloc (by omega) _).grown hgrow3 (by simp; omega) (fun j hj => (hr.lt _ hj).1)), ?_⟩
        rw [HTK.out, idCells_snoc]
        exact hown3
      case measure => simp [intOf]; omega
    · have hke : k = l := by omega
      subst hke
      clear hrd
      go_wp2_with fail
      go_ret
      refine ⟨a, c, rfl, ?_, hbx⟩
      rw [List.take_of_length_le (by have := hl.out; omega)] at hr
      exact hr
end Go.Proofs.Ybulkehdq
