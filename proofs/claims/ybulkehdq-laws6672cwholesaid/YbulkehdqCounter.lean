/-
  counterpart (14) over two Sets.
-/
import Derived.Test.YbulkehdqAdd
namespace Go.Proofs.Ybulkehdq
open Go.RowKit Go.Maps

theorem neqNilP (w : World) (p : Option Addr) : Sem.run Yba.prog (binOp BinOp.neq 36 (.pointer p) (.pointer none)) w = .ok (.bool (!p.isNone)) w := by
  cases p <;> simp [go_sem]

/-- What counterpart answers. -/
def counterV (L L' : List Ent) (p n : Nat) : Value :=
  match pick L' p n with
  | some x => ptrV x
  | none => if (ofName n L').length = 1 ∧ (ofName n L).length = 1 then ptrO (ofName n L').head? else .pointer none

theorem named_set (base F : Nat) (L : List Ent) (m : Option Nat) (n : Nat) (w : World) (h : SetM w base F L m) (hn : n < 3) :
    ∃ a c, (∃ g, (0 < (ofName n L).length → a = some ⟨g, 0, none⟩ ∧ ∀ (i : Nat) (hi : i < (ofName n L).length), w.cell? ⟨g, i, none⟩ = some (ptrV (ofName n L)[i]))) ∧ ∀ q, Calls Yba.prog 22 #[.pointer (some ⟨F, 0, none⟩), .string (nS n)] (w.drewN q) fun e w' => e = .returned (.slice a (ofName n L).length c) ∧ w' = w.drewN q := by
  obtain ⟨a, c, V, h1, h2, h3, h4, h5, h6, h7, h8, h9⟩ := h
  obtain ⟨aV, cV, hV⟩ := row_shape (h4 n hn)
  have hrow := h4 n hn
  rw [hV] at hrow
  refine ⟨aV, cV, ?_, fun q => ?_⟩
  · by_cases hl : 0 < (ofName n L).length
    · obtain ⟨g, rfl⟩ := row_at hrow hl
      exact ⟨g, fun _ => ⟨rfl, fun i hi => ptrs_cell hrow hi⟩⟩
    · exact ⟨0, fun h => absurd h hl⟩
  · rw [← hV]
    exact named_any F m (V n) (nS n) (w.drewN q) (by simp [World.cell?, h1]) (MapAt.look (show MapAt (w.drewN q) base m V L.length from h7) hn)

set_option maxHeartbeats 1000000 in
theorem counter_any (base F base' G b : Nat) (L L' : List Ent) (m m' : Option Nat) (p n : Nat) (w : World) (h : SetM w base F L m) (h' : SetM w base' G L' m') (hp : p < 3) (hn : n < 3) (hL' : L'.length ≤ 100000)
    (c0 : w.cell? ⟨b, 0, none⟩ = some (.string (pS p))) (c1 : w.cell? ⟨b, 1, none⟩ = some (.string (nS n))) :
    Calls Yba.prog 14 #[.pointer (some ⟨b, 0, none⟩), .pointer (some ⟨F, 0, none⟩), .pointer (some ⟨G, 0, none⟩)] w fun e w' =>
      e = .returned (counterV L L' p n) ∧ Below w.heap.size w w' := by
  have hbl : b < w.heap.size := World.block_lt_of_cell? w _ c0
  go_enter Yba.func14, Yba.ntmps14
  go_wp2_with fail
  refine (bench_set base' G L' m' p n w h' hp hn hL').mono ?_
  rintro e w1 ⟨rfl, q, rfl⟩
  have b1 : Below w.heap.size w (w.alloc (.cells #[.string (pS p), .string (nS n)] 43)) := (Below.refl _ _).alloc (Nat.le_refl _) _
  have b2 : Below w.heap.size w ((w.alloc (.cells #[.string (pS p), .string (nS n)] 43)).drewN q) := b1.trans ⟨rfl, rfl, rfl, Nat.le_refl _, fun _ _ => rfl⟩
  have B2 := show Hid _ from b2
  cases hpk : pick L' p n with
  | some x =>
    have hv : counterV L L' p n = ptrV x := by simp [counterV, hpk]
    have HV := show Hid _ from hv
    clear hv hpk b1 b2
    simp only [ptrO, ptrV]
    go_wp2_with fail
    go_ret
    exact ⟨congrArg Ending.returned HV.out.symm, B2.out⟩
  | none =>
    obtain ⟨a', c', ⟨g, hg⟩, hnm⟩ := named_set base' G L' m' n _ (h'.below b1) hn
    obtain ⟨a, c, -, hnm2⟩ := named_set base F L m n _ (h.below b1) hn
    have HN := show Hid _ from hnm q
    have HN2 := show Hid _ from hnm2 q
    have HPK := show Hid _ from hpk
    clear hnm hnm2 hpk b1 b2
    simp only [ptrO]
    go_wp2_with fail
    refine Calls.mono HN.out ?_
    rintro e w2 ⟨rfl, rfl⟩
    have HG := show Hid _ from hg
    clear hg
    obtain ⟨l', hl'⟩ : ∃ l, Hid ((ofName n L').length = l) := ⟨_, rfl⟩
    rw [hl'.out]
    by_cases h1 : l' = 1
    · subst h1
      go_wp2_with fail
      refine Calls.mono HN2.out ?_
      rintro e w3 ⟨rfl, rfl⟩
      obtain ⟨l, hl⟩ : ∃ l, Hid ((ofName n L).length = l) := ⟨_, rfl⟩
      rw [hl.out]
      by_cases h2 : l = 1
      · subst h2
        obtain ⟨rfl, hgc⟩ := HG.out (by have := hl'.out; omega)
        obtain ⟨x, hx⟩ := List.length_eq_one_iff.1 hl'.out
        have r0 := hgc 0 (by have := hl'.out; omega)
        have ex : (ofName n L')[0]'(by have := hl'.out; omega) = x := by simp [hx]
        rw [ex] at r0
        have hv : counterV L L' p n = ptrV x := by
          unfold counterV
          rw [HPK.out]
          simp only [hl'.out, hl.out, and_self, if_true]
          rw [hx]
          rfl
        have HV := show Hid _ from hv
        clear hv hgc ex hx
        simp only [ptrV] at r0
        go_wp2_with fail
        go_ret
        exact ⟨congrArg Ending.returned HV.out.symm, B2.out⟩
      · have h2' : ¬ (l : Int) = 1 := by omega
        have hv : counterV L L' p n = .pointer none := by
          unfold counterV
          rw [HPK.out]
          simp only [hl.out]
          rw [if_neg (fun e => h2 e.2)]
        have HV := show Hid _ from hv
        clear hv
        go_wp2_with fail
        go_ret
        exact ⟨congrArg Ending.returned HV.out.symm, B2.out⟩
    · have h1' : ¬ (l' : Int) = 1 := by omega
      have hv : counterV L L' p n = .pointer none := by
        unfold counterV
        rw [HPK.out]
        simp only [hl'.out]
        rw [if_neg (fun e => h1 e.1)]
      have HV := show Hid _ from hv
      clear hv
      go_wp2_with fail
      go_ret
      exact ⟨congrArg Ending.returned HV.out.symm, B2.out⟩
end Go.Proofs.Ybulkehdq
