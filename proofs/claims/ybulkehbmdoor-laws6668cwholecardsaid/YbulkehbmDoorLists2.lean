/-
  Plain: a store into an owned row; the rows of a list with one entry set.
-/
import Derived.Test.YbulkehbmDoorLists
namespace Go.Proofs.YbulkehbmDoor
open Go.RowKit Go.Maps

theorem row_store {w : World} {base e size n g c : Nat} {xs : List Value} (h : w.ownsRow base e size (.slice (some ⟨g, 0, none⟩) n c) n xs) (i : Nat) (v : Value) : (w.setCell ⟨g, i, none⟩ v).ownsRow base e size (.slice (some ⟨g, 0, none⟩) n c) n (xs.set i v) := by
  refine ⟨by rw [List.length_set]; exact h.1, ?_⟩
  rcases h.2 with ⟨hv, _⟩ | ⟨g', cap, cur, hv, hb, hg, h1, h2, h3, h4⟩
  · injection hv with h1 _ _
    cases h1
  · injection hv with e1 e2 e3
    injection e1 with e1
    injection e1 with e1 _ _
    subst e1
    subst e3
    refine .inr ⟨g, c, cur.setIfInBounds i v, rfl, hb, heap_setCell_same w g i cur e v hg, h1, h2, by simpa using h3, ?_⟩
    rw [Array.toList_setIfInBounds, ← h4, List.take_set]

theorem keysOf_set {L : List Ent} {j : Nat} {k : Int} (p : Int × Int) (h : j < L.length) (hk : (L.getD j E0).1 = k) : keysOf (L.set j (k, p)) = keysOf L := by
  apply List.ext_getElem?
  intro i
  by_cases hi : i < L.length
  · rw [keysOf_get (by simpa using hi), keysOf_get hi]
    by_cases e : i = j
    · subst e; rw [getD_set_same h, hk]
    · rw [getD_set_other (by omega)]
  · simp [keysOf, hi]

theorem valsOf_set : ∀ {L : List Ent} {j : Nat} (k c l : Int), j < L.length → ((valsOf L).set (j * 2) (.int .i64 c)).set (j * 2 + 1) (.int .i64 l) = valsOf (L.set j (k, (c, l)))
  | [], _, _, _, _, h => by simp at h
  | x :: xs, 0, k, c, l, _ => by simp [valsOf]
  | x :: xs, j + 1, k, c, l, h => by
    have ih := valsOf_set (L := xs) (j := j) k c l (by simpa using h)
    have e : ∀ (y : Ent) ys, valsOf (y :: ys) = Value.int .i64 y.2.1 :: Value.int .i64 y.2.2 :: valsOf ys := fun y ys => by simp [valsOf]
    rw [List.set_cons_succ, e, e, show (j + 1) * 2 = j * 2 + 1 + 1 by omega]
    simp only [List.set_cons_succ]
    rw [ih]
end Go.Proofs.YbulkehbmDoor
