/-
  The plain half: the first benchmark of an ID in a list.
-/
import Derived.Test.YbulkehdqGrow
namespace Go.Proofs.Ybulkehdq

/-- The first of a list with a package and a name. -/
theorem pick_eq (L : List Ent) (p n : Nat) : pick L p n = L.find? (fun x => x.2.2 == n && x.2.1 == p) := by
  rw [pick, ofName, List.find?_filter]
  congr 1
  funext x
  simp
  rfl
theorem pick_snoc (L : List Ent) (x : Ent) (p n : Nat) : pick (L ++ [x]) p n = (pick L p n).or (if x.2.2 == n && x.2.1 == p then some x else none) := by
  rw [pick_eq, pick_eq, List.find?_append]
  congr 1
  simp [List.find?_cons]
  split <;> simp_all
theorem pick_take {L : List Ent} {k : Nat} {x : Ent} {p n : Nat} (h : pick (L.take k) p n = some x) : pick L p n = some x := by
  rw [pick_eq] at h ⊢
  rw [← List.take_append_drop k L, List.find?_append, h]
  rfl
theorem take_one {L : List Ent} {k : Nat} (h : k < L.length) : L.take (k + 1) = L.take k ++ [L[k]] := by
  rw [List.take_add_one, List.getElem?_eq_getElem h]; rfl

end Go.Proofs.Ybulkehdq
