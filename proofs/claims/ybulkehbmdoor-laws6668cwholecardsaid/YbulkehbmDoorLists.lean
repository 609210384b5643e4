/-
  Plain: the two rows of the law's slices, as lists of cells; the entry that is found, or not.
-/
import Derived.Test.YbulkehbmDoorAssoc
namespace Go.Proofs.YbulkehbmDoor
open Go.RowKit Go.Maps

/-- Nothing. -/
def E0 : Ent := (0, (0, 0))

def keysOf (L : List Ent) : List Value := L.map (fun x => Value.int .u64 x.1)
def valsOf (L : List Ent) : List Value := L.flatMap (fun x => [Value.int .i64 x.2.1, Value.int .i64 x.2.2])

theorem keysOf_snoc (L : List Ent) (x : Ent) : keysOf (L ++ [x]) = keysOf L ++ [Value.int .u64 x.1] := by simp [keysOf]
theorem valsOf_snoc (L : List Ent) (x : Ent) : valsOf (L ++ [x]) = valsOf L ++ [Value.int .i64 x.2.1, Value.int .i64 x.2.2] := by simp [valsOf]

theorem keysOf_get {L : List Ent} {i : Nat} (h : i < L.length) : (keysOf L)[i]? = some (.int .u64 (L.getD i E0).1) := by
  simp [keysOf, h, List.getD]

theorem valsOf_get : ∀ {L : List Ent} {i : Nat}, i < L.length → (valsOf L)[i * 2]? = some (.int .i64 (L.getD i E0).2.1) ∧ (valsOf L)[i * 2 + 1]? = some (.int .i64 (L.getD i E0).2.2)
  | [], _, h => by simp at h
  | x :: xs, 0, _ => by simp [valsOf, List.getD]
  | x :: xs, i + 1, h => by
    have ih := valsOf_get (L := xs) (i := i) (by simpa using h)
    have e : valsOf (x :: xs) = Value.int .i64 x.2.1 :: Value.int .i64 x.2.2 :: valsOf xs := by simp [valsOf]
    rw [e, show (i + 1) * 2 = i * 2 + 1 + 1 by omega]
    simp only [List.getElem?_cons_succ]
    simpa [List.getD] using ih

/-- The cells of the keys' row. -/
theorem keys_cells {w : World} {base n g c : Nat} {L : List Ent} (h : w.ownsRow base 25 1 (.slice (some ⟨g, 0, none⟩) n c) n (keysOf L)) (hn : n = L.length) {i : Nat} (hi : i < n) : w.cell? ⟨g, i, none⟩ = some (.int .u64 (L.getD i E0).1) := by
  have := h.cells (g := g) rfl i _ (keysOf_get (by omega))
  simpa [Addr.add_lit] using this
theorem vals_cells {w : World} {base n g c : Nat} {L : List Ent} (h : w.ownsRow base 51 2 (.slice (some ⟨g, 0, none⟩) n c) n (valsOf L)) (hn : n = L.length) {i : Nat} (hi : i < n) : w.cell? ⟨g, i * 2, none⟩ = some (.int .i64 (L.getD i E0).2.1) ∧ w.cell? ⟨g, i * 2 + 1, none⟩ = some (.int .i64 (L.getD i E0).2.2) := by
  have h1 := h.cells (g := g) rfl _ _ (valsOf_get (L := L) (i := i) (by omega)).1
  have h2 := h.cells (g := g) rfl _ _ (valsOf_get (L := L) (i := i) (by omega)).2
  exact ⟨by simpa [Addr.add_lit] using h1, by simpa [Addr.add_lit] using h2⟩

/-- Where a row that is owned lies, if it holds anything. -/
theorem row_some {w : World} {base e size n c : Nat} {a : Option Addr} {xs : List Value} (h : w.ownsRow base e size (.slice a n c) n xs) (hn : 0 < n) : ∃ g cur, a = some ⟨g, 0, none⟩ ∧ w.heap[g]? = some (.cells cur e (0, 0)) ∧ base ≤ g := by
  rcases h.2 with ⟨_, h0⟩ | ⟨g, cap, cur, hv, hbg, hg, _⟩
  · omega
  · injection hv with h1 h2 h3
    exact ⟨g, cur, h1, hg, hbg⟩
theorem row_frozen {w : World} {g e : Nat} {cur : Array Value} (h : w.heap[g]? = some (.cells cur e (0, 0))) (o : Nat) : w.frozen? ⟨g, o, none⟩ = false := by
  simp [World.frozen?, h]

theorem row_shape {w : World} {base e size n : Nat} {v : Value} {xs : List Value} (h : w.ownsRow base e size v n xs) : ∃ a c, v = .slice a n c := by
  rcases h.2 with ⟨hv, h0⟩ | ⟨g, cap, cur, hv, _⟩
  · exact ⟨none, 0, by rw [hv, h0]⟩
  · exact ⟨_, _, hv⟩

/-- Two rows of different types lie apart. -/
theorem rows_apart {w : World} {b1 b2 e1 e2 s1 s2 n1 n2 : Nat} {v1 v2 : Value} {xs1 xs2 : List Value} (h1 : w.ownsRow b1 e1 s1 v1 n1 xs1) (h2 : w.ownsRow b2 e2 s2 v2 n2 xs2) (hne : e1 ≠ e2) : v1.ownBlock = none ∨ v1.ownBlock ≠ v2.ownBlock := by
  rcases h1.2 with ⟨rfl, _⟩ | ⟨g, cap, cur, rfl, _, hg, _⟩
  · left; rfl
  · right
    intro e
    rcases h2.2 with ⟨rfl, _⟩ | ⟨g', cap', cur', rfl, _, hg', _⟩
    · cases e
    · simp only [Value.ownBlock, Option.some.injEq] at e
      rw [e, hg'] at hg
      injection hg with hg
      injection hg with _ h2 _
      exact hne h2.symm

/-- A row and a map lie apart. -/
theorem row_map_apart {H : Type} {P : Program} {k : TypeId} {R : Value → Option (DataW H × List MemPlace)} {w : World} {base e size n B m : Nat} {v : Value} {xs : List Value} {D : DataW H} (h : w.ownsRow base e size v n xs) (hm : w.ownsMap P k R B m D) : some B ≠ v.ownBlock := by
  intro e1
  obtain ⟨es, cl, hb, _⟩ := hm
  rcases h.2 with ⟨rfl, _⟩ | ⟨g, cap, cur, rfl, _, hg, _⟩
  · cases e1
  · simp only [Value.ownBlock, Option.some.injEq] at e1
    rw [e1, hg] at hb
    cases hb

theorem upd_hit {k : Int} : ∀ {L : List Ent} {i : Nat}, i < L.length → (∀ j, j < i → (L.getD j E0).1 ≠ k) → (L.getD i E0).1 = k → look k L = some (L.getD i E0).2 ∧ ∀ p, upd k p L = L.set i (k, p)
  | [], _, h, _, _ => by simp at h
  | x :: xs, 0, _, _, h => by
    have h : x.1 = k := by simpa [List.getD] using h
    simp [look, upd, h, List.getD]
  | x :: xs, i + 1, hi, hj, h => by
    have h0 : x.1 ≠ k := by simpa [List.getD] using hj 0 (by omega)
    have ih := upd_hit (L := xs) (i := i) (by simpa using hi) (fun j hji => by simpa [List.getD] using hj (j + 1) (by omega)) (by simpa [List.getD] using h)
    simp only [look, upd, if_neg h0, List.set_cons_succ]
    refine ⟨by rw [ih.1]; simp [List.getD], fun p => by rw [ih.2]⟩

theorem upd_miss {k : Int} : ∀ {L : List Ent}, (∀ j, j < L.length → (L.getD j E0).1 ≠ k) → look k L = none ∧ ∀ p, upd k p L = L ++ [(k, p)]
  | [], _ => by simp [look, upd]
  | x :: xs, hj => by
    have h0 : x.1 ≠ k := by simpa [List.getD] using hj 0 (by simp)
    have ih := upd_miss (L := xs) (fun j hjl => by simpa [List.getD] using hj (j + 1) (by simpa using hjl))
    simp only [look, upd, if_neg h0]
    exact ⟨ih.1, fun p => by rw [ih.2]; rfl⟩

theorem getD_set_same {L : List Ent} {i : Nat} (h : i < L.length) (x : Ent) : (L.set i x).getD i E0 = x := by simp [List.getD, h]
theorem getD_set_other {L : List Ent} {i j : Nat} (h : i ≠ j) (x : Ent) : (L.set i x).getD j E0 = L.getD j E0 := by simp [List.getD, h]
theorem getD_mem {L : List Ent} {i : Nat} (h : i < L.length) : ((L.getD i E0).1, (L.getD i E0).2) ∈ L := by
  have : L.getD i E0 = L[i] := by simp [List.getD, h]
  rw [this]; exact List.getElem_mem h

/-- What the last loop asks of the map. -/
theorem hmap_of {D : DataW (Int × Int)} {L : List Ent} (hT : Tie D L) (ho : Once L) (hw : ∀ x ∈ L, (Lit.int .u64 x.1).wf = true) {i : Nat} (hi : i < L.length) :
    Maps.has D (.int .u64 (L.getD i E0).1) = true ∧ (∀ z, D.atKey (.int .u64 (L.getD i E0).1) z = .held ((L.getD i E0).2.1, (L.getD i E0).2.2)) ∧ (Lit.int .u64 (L.getD i E0).1).wf = true := by
  have hm := getD_mem hi
  have hl := look_of_mem ho hm
  refine ⟨by rw [hT.has, hl]; rfl, fun z => by rw [hT.here, hl], hw _ hm⟩
end Go.Proofs.YbulkehbmDoor
