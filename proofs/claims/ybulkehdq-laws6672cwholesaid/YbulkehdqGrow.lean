/-
  A benchmark comes to a Set: the two appends, the store into the map, the store into the Set.
-/
import Derived.Test.YbulkehdqState
namespace Go.Proofs.Ybulkehdq
open Go.RowKit Go.Maps

theorem info36 : (Yba.prog.info? 36).map (fun i => (i.zero, i.size, i.bytes)) = some (some (.pointer none), 1, 8) := by kernel_rfl

theorem row_block {w : World} {base e size n : Nat} {v : Value} {xs : List Value} (h : w.ownsRow base e size v n xs) {k : Nat} (hk : v.ownBlock = some k) : ∃ cur, w.heap[k]? = some (.cells cur e (0, 0)) := by
  rcases h.2 with ⟨rfl, _⟩ | ⟨g, cap, cur, rfl, hg, hgg, rest⟩
  · cases hk
  · injection hk with hk
    subst hk
    exact ⟨cur, hgg⟩

theorem row_keep {w w' : World} {base e size n : Nat} {v : Value} {xs : List Value} (h : w.ownsRow base e size v n xs) (hb : ∀ k, v.ownBlock = some k → w'.heap[k]? = w.heap[k]?) : w'.ownsRow base e size v n xs := by
  refine ⟨h.1, ?_⟩
  rcases h.2 with hn | ⟨g, cap, cur, rfl, hg, hgg, rest⟩
  · exact .inl hn
  · refine .inr ⟨g, cap, cur, rfl, hg, ?_, rest⟩
    rw [hb g rfl]
    exact hgg
theorem ofName_snoc (k : Nat) (L : List Ent) (x : Ent) : ofName k (L ++ [x]) = ofName k L ++ (if x.2.2 == k then [x] else []) := by
  unfold ofName
  rw [List.filter_append]
  congr 1
  simp only [List.filter_cons, List.filter_nil]

theorem pick_none {L : List Ent} {p n : Nat} (h : pick L p n = none) : ∀ x ∈ L, ¬ (x.2.1 = p ∧ x.2.2 = n) := by
  intro x hx ⟨h1, h2⟩
  unfold pick at h
  rw [List.find?_eq_none] at h
  exact h x (List.mem_filter.2 ⟨hx, by simp [h2]⟩) (by simp [h1])

theorem added {w7 : World} {base F B nb p n : Nat} {L : List Ent} {a : Option Addr} {c : Nat} {V : Nat → Value} {q : Option Nat}
    (h1 : w7.heap[F]? = some (.cells #[.slice a L.length c, .map (some B)] 40 (0, 0))) (h2 : base ≤ F)
    (h3 : w7.ownsRow base 36 1 (.slice a L.length c) L.length (L.map ptrV))
    (h4 : ∀ n, n < 3 → w7.ownsRow base 36 1 (V n) (ofName n L).length ((ofName n L).map ptrV))
    (h5 : ∀ n, n < 3 → (V n).ownBlock = none ∨ (V n).ownBlock ≠ (Value.slice a L.length c).ownBlock)
    (h6 : ∀ n n', n < 3 → n' < 3 → n ≠ n' → (V n).ownBlock = none ∨ (V n).ownBlock ≠ (V n').ownBlock)
    (h7 : MapAt w7 base (some B) V L.length)
    (h8 : ∀ x ∈ L, x.2.1 < 3 ∧ x.2.2 < 3 ∧ base ≤ x.1 ∧ ∃ q, w7.heap[x.1]? = some (.cells #[.string (pS x.2.1), .string (nS x.2.2), .slice none 0 0, .map q] 47 (0, 0)))
    (h9 : L.Pairwise (fun x y => ¬ (x.2.1 = y.2.1 ∧ x.2.2 = y.2.2)))
    (hnb : base ≤ nb) (hbl : w7.heap[nb]? = some (.cells #[.string (pS p), .string (nS n), .slice none 0 0, .map q] 47 (0, 0))) (hp : p < 3) (hn : n < 3) (hpk : pick L p n = none) (hL : L.length ≤ 100000) :
    ∃ v1 w8 w9 a2 c2 w10,
      (Builtin.append_ #[37, 37] 37 #[V n, .slice (some ⟨w7.heap.size, 0, none⟩) 1 1]).run Yba.prog (w7.drew.alloc (.cells #[.pointer (some ⟨nb, 0, none⟩)] 36)) = .ok v1 w8 ∧
      (Instr.mapUpdate 38 (.map (some B)) (.string (nS n)) v1).run Yba.prog w8 = .ok () w9 ∧
      (Builtin.append_ #[37, 37] 37 #[.slice a L.length c, .slice (some ⟨w9.heap.size, 0, none⟩) 1 1]).run Yba.prog (w9.alloc (.cells #[.pointer (some ⟨nb, 0, none⟩)] 36)) = .ok (.slice a2 (L.length + 1) c2) w10 ∧
      w9.heap[F]? = w7.heap[F]? ∧ w10.heap[F]? = w7.heap[F]? ∧ (∀ (k : Nat) cs t, w7.heap[k]? = some (.cells cs t (0, 0)) → t ≠ 36 → w8.heap[k]? = w7.heap[k]? ∧ w9.heap[k]? = w7.heap[k]?) ∧
      (∀ k cs t, w7.heap[k]? = some (.cells cs t (0, 0)) → t ≠ 36 → k ≠ F → (w10.setCell ⟨F, 0, none⟩ (.slice a2 (L.length + 1) c2)).heap[k]? = w7.heap[k]?) ∧
      Below base w7 (w10.setCell ⟨F, 0, none⟩ (.slice a2 (L.length + 1) c2)) ∧
      SetM (w10.setCell ⟨F, 0, none⟩ (.slice a2 (L.length + 1) c2)) base F (L ++ [(nb, p, n)]) (some B) := by
  obtain ⟨i36, hi, hz, hs, hb⟩ := info_parts info36
  have hFl : F < w7.heap.size := (Array.getElem?_eq_some_iff.1 h1).1
  have hnl : nb < w7.heap.size := (Array.getElem?_eq_some_iff.1 hbl).1
  obtain ⟨hB, D, hD, hat⟩ := h7
  have hBl := hD.lt
  have hlen : (ofName n L).length ≤ 100000 := Nat.le_trans (ofName_le n L) hL
  -- the first append
  have r1 : (w7.drew.alloc (.cells #[.pointer (some ⟨nb, 0, none⟩)] 36)).ownsRow base 36 1 (V n) (ofName n L).length ((ofName n L).map ptrV) := (show w7.drew.ownsRow base 36 1 (V n) (ofName n L).length ((ofName n L).map ptrV) from h4 n hn).alloc _
  obtain ⟨v1, w8, run1, own1, g1, -, at1⟩ := run_append_own_at (P := Yba.prog) (w7.drew.alloc (.cells #[.pointer (some ⟨nb, 0, none⟩)] 36)) base 37 37 36 i36 (.pointer none) 1 8 Yba.underlying37 hi hz hs hb rfl (by decide) (V n) _ _ r1 ⟨w7.heap.size, 0, none⟩ 1 1 [.pointer (some ⟨nb, 0, none⟩)] rfl (cell_one_new w7.drew _ _) (by simp [Value.oneCell']) (by unfold maxLen; omega) (by omega) (by simp; omega)
  have s8 := g1.size
  have G1 : ∀ k, k < w7.heap.size → some k ≠ (V n).ownBlock → w8.heap[k]? = w7.heap[k]? := fun k hk hne => by
    rw [g1.block k (by simp; omega) hne]
    exact Below.heap_alloc w7.drew _ _ hk
  -- the store into the map
  have hBne : some B ≠ (V n).ownBlock := fun e => by
    obtain ⟨cur, hc⟩ := row_block (h4 n hn) e.symm
    obtain ⟨es, clock, hh, _⟩ := hD
    rw [hh] at hc; cases hc
  have hD8 : w8.ownsMap Yba.prog 9 ofVal B L.length D := by
    obtain ⟨es, clock, hh, rest⟩ := hD
    exact ⟨es, clock, (G1 B hBl hBne).trans hh, rest⟩
  obtain ⟨w9, run2, own2, g2⟩ := hD8.update law9 Yba.underlying38 (val := v1) (by unfold maxLen; omega) (keyN_of n) (d := .held v1) (ps := []) rfl
  have s9 := g2.size
  have G2 : ∀ k, k < w8.heap.size → k ≠ B → w9.heap[k]? = w8.heap[k]? := fun k hk hne => g2.block k hk (fun e => hne (by injection e))
  have z8 : w7.heap.size + 1 ≤ w8.heap.size := by simpa using s8
  -- the second append
  obtain ⟨RA, hRA⟩ : ∃ RA, RA = Value.slice a L.length c := ⟨_, rfl⟩
  rw [← hRA] at h3 h5 ⊢
  have hBA : some B ≠ RA.ownBlock := fun e => by
    obtain ⟨cur, hc⟩ := row_block h3 e.symm
    obtain ⟨es, clock, hh, _⟩ := hD
    rw [hh] at hc; cases hc
  have hFA : some F ≠ RA.ownBlock := fun e => by
    obtain ⟨cur, hc⟩ := row_block h3 e.symm
    rw [h1] at hc; cases hc
  have hFn : some F ≠ (V n).ownBlock := fun e => by
    obtain ⟨cur, hc⟩ := row_block (h4 n hn) e.symm
    rw [h1] at hc; cases hc
  have hFB : F ≠ B := fun e => by
    obtain ⟨es, clock, hh, _⟩ := hD
    rw [← e, h1] at hh; cases hh
  have A9 : w9.ownsRow base 36 1 RA L.length (L.map ptrV) := row_keep h3 (fun k hk => by
    have hkl := (h3.lt k hk).2
    rw [G2 k (by omega) (fun e => hBA (by rw [hk, e])), G1 k hkl (fun e => by
      rcases h5 n hn with h | h
      · rw [h] at e; cases e
      · exact h (e.symm.trans hk.symm))])
  have r3 : (w9.alloc (.cells #[.pointer (some ⟨nb, 0, none⟩)] 36)).ownsRow base 36 1 RA L.length (L.map ptrV) := A9.alloc _
  obtain ⟨v3, w10, run3, own3, g3, -, at3⟩ := run_append_own_at (P := Yba.prog) (w9.alloc (.cells #[.pointer (some ⟨nb, 0, none⟩)] 36)) base 37 37 36 i36 (.pointer none) 1 8 Yba.underlying37 hi hz hs hb rfl (by decide) RA _ _ r3 ⟨w9.heap.size, 0, none⟩ 1 1 [.pointer (some ⟨nb, 0, none⟩)] rfl (cell_one_new w9 _ _) (by simp [Value.oneCell']) (by unfold maxLen; omega) (by omega) (by simp; omega)
  obtain ⟨a2, c2, hv3⟩ := row_shape own3
  have z10 : w9.heap.size + 1 ≤ w10.heap.size := by simpa using g3.size
  have G3 : ∀ k, k < w9.heap.size → some k ≠ RA.ownBlock → w10.heap[k]? = w9.heap[k]? := fun k hk hne => by
    rw [g3.block k (by simp; omega) hne]
    exact Below.heap_alloc w9 _ _ hk
  have F9 : w9.heap[F]? = w7.heap[F]? := by rw [G2 F (by omega) hFB, G1 F hFl hFn]
  have F10 : w10.heap[F]? = w7.heap[F]? := by rw [G3 F (by omega) hFA, F9]
  have GA : ∀ k, k < w7.heap.size → some k ≠ (V n).ownBlock → k ≠ B → some k ≠ RA.ownBlock → w10.heap[k]? = w7.heap[k]? := fun k hk e1 e2 e3 => by
    rw [G3 k (by omega) e3, G2 k (by omega) e2, G1 k hk e1]
  have GF : ∀ k, k < w7.heap.size → some k ≠ (V n).ownBlock → k ≠ B → some k ≠ RA.ownBlock → k ≠ F → (w10.setCell ⟨F, 0, none⟩ v3).heap[k]? = w7.heap[k]? := fun k hk e1 e2 e3 e4 => by
    rw [heap_setCell_other _ _ _ _ e4, GA k hk e1 e2 e3]
  have GC : ∀ k cs t, w7.heap[k]? = some (.cells cs t (0, 0)) → t ≠ 36 → k ≠ F → (w10.setCell ⟨F, 0, none⟩ v3).heap[k]? = w7.heap[k]? := fun k cs t hk ht hkF => by
    refine GF k (Array.getElem?_eq_some_iff.1 hk).1 (fun e => ?_) (fun e => ?_) (fun e => ?_) hkF
    · obtain ⟨cur, hc⟩ := row_block (h4 n hn) e.symm
      rw [hk] at hc
      injection hc with hc
      injection hc with _ hc _
      exact ht hc
    · obtain ⟨es, clock, hh, _⟩ := hD
      rw [← e, hk] at hh; cases hh
    · obtain ⟨cur, hc⟩ := row_block h3 e.symm
      rw [hk] at hc
      injection hc with hc
      injection hc with _ hc _
      exact ht hc
  have G8 : ∀ (k : Nat) cs t, w7.heap[k]? = some (.cells cs t (0, 0)) → t ≠ 36 → w8.heap[k]? = w7.heap[k]? ∧ w9.heap[k]? = w7.heap[k]? := fun k cs t hk ht => by
    have hkl := (Array.getElem?_eq_some_iff.1 hk).1
    have e1 : w8.heap[k]? = w7.heap[k]? := by
      refine G1 k hkl (fun e => ?_)
      obtain ⟨cur, hc⟩ := row_block (h4 n hn) e.symm
      rw [hk] at hc
      injection hc with hc
      injection hc with _ hc _
      exact ht hc
    refine ⟨e1, (G2 k (by omega) (fun e => ?_)).trans e1⟩
    obtain ⟨es, clock, hh, _⟩ := hD
    rw [← e, hk] at hh; cases hh
  have notF : ∀ {v : Value} {m : Nat} {xs : List Value}, w10.ownsRow base 36 1 v m xs → (w10.setCell ⟨F, 0, none⟩ v3).ownsRow base 36 1 v m xs := fun {v m xs} hr => row_keep hr (fun k hk => by
    refine heap_setCell_other _ _ _ _ (fun e => ?_)
    have e : k = F := e
    subst e
    obtain ⟨cur, hc⟩ := row_block hr hk
    rw [F10, h1] at hc; cases hc)
  have hlen1 : (L ++ [(nb, p, n)]).length = L.length + 1 := by simp
  subst hv3
  refine ⟨v1, w8, w9, a2, c2, w10, run1, run2, run3, F9, F10, G8, GC, ?_, ?_⟩
  · refine ⟨g3.os.trans (g2.os.trans g1.os), g3.tape.trans (g2.tape.trans g1.tape), g3.output.trans (g2.output.trans g1.output), by simp [World.setCell]; omega, fun k hk => ?_⟩
    refine GF k (by omega) (fun e => ?_) (by omega) (fun e => ?_) (by omega)
    · have := ((h4 n hn).lt k e.symm).1
      omega
    · have := (h3.lt k e.symm).1
      omega
  · have hv1n : ∀ k, v1.ownBlock = some k → some k = (V n).ownBlock ∨ k = w7.heap.size + 1 := fun k hk => by
      rcases at1 with e | e
      · exact Or.inl (by rw [← e, hk])
      · rw [hk] at e
        injection e with e
        exact Or.inr (by simpa using e)
    have hv3n : ∀ k, (Value.slice a2 (L.length + 1) c2).ownBlock = some k → some k = RA.ownBlock ∨ k = w9.heap.size + 1 := fun k hk => by
      rcases at3 with e | e
      · exact Or.inl (by rw [← e, hk])
      · rw [hk] at e
        injection e with e
        exact Or.inr (by simpa using e)
    have hAn : ∀ k, (V n).ownBlock = some k → RA.ownBlock ≠ some k := fun k hk e => by
      rcases h5 n hn with h | h
      · rw [h] at hk; cases hk
      · exact h (hk.trans e.symm)
    have hv1l : ∀ k, v1.ownBlock = some k → k < w8.heap.size := fun k hk => (own1.lt k hk).2
    have own1' : (w10.setCell ⟨F, 0, none⟩ (.slice a2 (L.length + 1) c2)).ownsRow base 36 1 v1 ((ofName n L).length + 1) ((ofName n L).map ptrV ++ [.pointer (some ⟨nb, 0, none⟩)]) := notF (row_keep own1 (fun k hk => by
      have hkB : k ≠ B := fun e => by
        obtain ⟨cur, hc⟩ := row_block own1 hk
        obtain ⟨es, clock, hh, _⟩ := hD8
        rw [e, hh] at hc; cases hc
      have hkl := hv1l k hk
      rw [G3 k (by omega) (fun e => by
        rcases hv1n k hk with e1 | e1
        · exact hAn k e1.symm e.symm
        · have := (h3.lt k e.symm).2
          omega), G2 k hkl hkB]))
    have ownK : ∀ k, k < 3 → k ≠ n → (w10.setCell ⟨F, 0, none⟩ (.slice a2 (L.length + 1) c2)).ownsRow base 36 1 (V k) (ofName k L).length ((ofName k L).map ptrV) := fun k hk hkn => row_keep (h4 k hk) (fun j hj => by
      have hjl := ((h4 k hk).lt j hj).2
      refine GF j hjl (fun e => ?_) (fun e => ?_) (fun e => ?_) (fun e => ?_)
      · rcases h6 k n hk hn hkn with h | h
        · rw [h] at hj; cases hj
        · exact h (hj.trans e)
      · obtain ⟨cur, hc⟩ := row_block (h4 k hk) hj
        obtain ⟨es, clock, hh, _⟩ := hD
        rw [e, hh] at hc; cases hc
      · rcases h5 k hk with h | h
        · rw [h] at hj; cases hj
        · exact h (hj.trans e)
      · obtain ⟨cur, hc⟩ := row_block (h4 k hk) hj
        rw [e, h1] at hc; cases hc)
    refine ⟨a2, c2, fun k => if k = n then v1 else V k, ?_, h2, ?_, fun k hk => ?_, fun k hk => ?_, fun k k' hk hk' hkk => ?_, ⟨hB, D.put (keyN n) (.held v1), ?_, fun k hk => ?_⟩, fun x hx => ?_, ?_⟩
    · rw [hlen1, heap_setCell_same _ F 0 #[.slice a L.length c, .map (some B)] 40 _ (F10.trans h1)]
      simp
    · rw [hlen1, List.map_append]
      exact notF own3
    · by_cases hkn : k = n
      · subst hkn
        rw [ofName_snoc]
        simp only [if_true, beq_self_eq_true, List.length_append, List.length_singleton, List.map_append, List.map_cons, List.map_nil, ptrV]
        exact own1'
      · have hne : (n == k) = false := by simpa using fun e : n = k => hkn e.symm
        rw [ofName_snoc]
        simp only [if_neg hkn, hne, Bool.false_eq_true, if_false, List.append_nil]
        exact ownK k hk hkn
    · rw [hlen1]
      by_cases hkn : k = n
      · simp only [if_pos hkn]
        cases hv : v1.ownBlock with
        | none => exact Or.inl rfl
        | some j =>
          refine Or.inr (fun e => ?_)
          rcases hv1n j hv with e1 | e1 <;> rcases hv3n j e.symm with e2 | e2
          · exact hAn j e1.symm e2.symm
          · have := ((h4 n hn).lt j e1.symm).2
            omega
          · have := (h3.lt j e2.symm).2
            omega
          · have := hv1l j hv
            have := g2.size
            omega
      · simp only [if_neg hkn]
        cases hv : (V k).ownBlock with
        | none => exact Or.inl rfl
        | some j =>
          refine Or.inr (fun e => ?_)
          have hjl := ((h4 k hk).lt j hv).2
          rcases hv3n j e.symm with e2 | e2
          · rcases h5 k hk with h | h
            · rw [h] at hv; cases hv
            · exact h (hv.trans e2)
          · omega
    · by_cases hkn : k = n
      · have hkn' : k' ≠ n := fun e => hkk (hkn.trans e.symm)
        simp only [if_pos hkn, if_neg hkn']
        cases hv : v1.ownBlock with
        | none => exact Or.inl rfl
        | some j =>
          refine Or.inr (fun e => ?_)
          have hjl := ((h4 k' hk').lt j e.symm).2
          rcases hv1n j hv with e1 | e1
          · rcases h6 k' n hk' hn hkn' with h | h
            · rw [h] at e; cases e
            · exact h (e.symm.trans e1)
          · omega
      · by_cases hkn' : k' = n
        · simp only [if_neg hkn, if_pos hkn']
          cases hv : (V k).ownBlock with
          | none => exact Or.inl rfl
          | some j =>
            refine Or.inr (fun e => ?_)
            have hjl := ((h4 k hk).lt j hv).2
            rcases hv1n j e.symm with e1 | e1
            · rcases h6 k n hk hn hkn with h | h
              · rw [h] at hv; cases hv
              · exact h (hv.trans e1)
            · omega
        · simp only [if_neg hkn, if_neg hkn']
          exact h6 k k' hk hk' hkk
    · rw [hlen1]
      refine World.ownsMap.setCell ?_ (by show B ≠ F; exact fun e => hFB e.symm) _
      obtain ⟨es, clock, hh, rest⟩ := own2
      exact ⟨es, clock, (G3 B (Nat.lt_of_lt_of_le hD8.lt g2.size) hBA).trans hh, rest⟩
    · by_cases hkn : k = n
      · subst hkn
        simp only [if_true]
        exact atKey_put_same (k := keyN k) hD.isMap (show WideAt.IsKeyLit (keyN k) from trivial) _ _
      · simp only [if_neg hkn]
        rw [atKey_put_other (keyN_ne hk hn hkn)]
        exact hat k hk
    · rcases List.mem_append.1 hx with hx | hx
      · obtain ⟨k1, k2, k3, q', k4⟩ := h8 x hx
        refine ⟨k1, k2, k3, q', ?_⟩
        rw [GC x.1 _ 47 k4 (by decide) (fun e => by rw [e, h1] at k4; cases k4)]
        exact k4
      · obtain rfl := List.mem_singleton.1 hx
        refine ⟨hp, hn, hnb, q, ?_⟩
        rw [GC nb _ 47 hbl (by decide) (fun e => by rw [e, h1] at hbl; cases hbl)]
        exact hbl
    · rw [List.pairwise_append]
      refine ⟨h9, by simp, fun x hx y hy => ?_⟩
      obtain rfl := List.mem_singleton.1 hy
      exact pick_none hpk x hx
end Go.Proofs.Ybulkehdq
