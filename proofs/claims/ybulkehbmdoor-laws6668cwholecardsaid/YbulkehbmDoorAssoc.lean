/-
  Plain: lists of entries (key, (count, last)), as the law's two slices hold them, and a map's datum tied to such a list. No Go in sight.
-/
import Derived.WalkKit
import Derived.Maps.OwnSet
namespace Go.Proofs.YbulkehbmDoor
open Go.RowKit Go.Maps

/-- One entry: the key, the count, the time. -/
abbrev Ent := Int × (Int × Int)

/-- What stands at a key. -/
def look (k : Int) : List Ent → Option (Int × Int)
  | [] => none
  | x :: xs => if x.1 = k then some x.2 else look k xs

/-- Set the entry at a key; where there is none, lay it at the end. -/
def upd (k : Int) (p : Int × Int) : List Ent → List Ent
  | [] => [(k, p)]
  | x :: xs => if x.1 = k then (k, p) :: xs else x :: upd k p xs

/-- No key twice. -/
def Once (L : List Ent) : Prop := L.Pairwise (fun x y => x.1 ≠ y.1)

theorem look_upd (k k' : Int) (p : Int × Int) : ∀ L : List Ent, look k' (upd k p L) = if k' = k then some p else look k' L
  | [] => by simp only [upd, look]; split <;> split <;> first | rfl | omega
  | x :: xs => by
    simp only [upd]
    split
    · rename_i h
      simp only [look]
      split <;> split <;> first | rfl | omega | (split <;> first | rfl | omega)
    · rename_i h
      simp only [look, look_upd k k' p xs]
      split <;> split <;> first | rfl | omega

theorem length_upd (k : Int) (p : Int × Int) : ∀ L : List Ent, (upd k p L).length = if (look k L).isSome then L.length else L.length + 1
  | [] => by simp [upd, look]
  | x :: xs => by
    simp only [upd, look]
    split
    · simp
    · simp only [List.length_cons, length_upd k p xs]
      split <;> rfl

theorem look_none_of {k : Int} : ∀ {L : List Ent}, (∀ x ∈ L, x.1 ≠ k) → look k L = none
  | [], _ => rfl
  | x :: xs, h => by
    simp only [look, if_neg (h x (List.mem_cons_self))]
    exact look_none_of (fun y hy => h y (List.mem_cons_of_mem _ hy))

theorem of_look_none {k : Int} : ∀ {L : List Ent}, look k L = none → ∀ x ∈ L, x.1 ≠ k
  | [], _ => by simp
  | x :: xs, h => by
    simp only [look] at h
    split at h
    · cases h
    · rename_i hne
      intro y hy
      rcases List.mem_cons.1 hy with rfl | hy
      · exact hne
      · exact of_look_none h y hy

theorem mem_upd {k : Int} {p : Int × Int} : ∀ {L : List Ent} {y : Ent}, y ∈ upd k p L → y.1 = k ∨ y ∈ L
  | [], y, h => by simp [upd] at h; left; rw [h]
  | x :: xs, y, h => by
    simp only [upd] at h
    split at h
    · rcases List.mem_cons.1 h with rfl | h
      · left; rfl
      · right; exact List.mem_cons_of_mem _ h
    · rcases List.mem_cons.1 h with rfl | h
      · right; exact List.mem_cons_self
      · rcases mem_upd h with h | h
        · left; exact h
        · right; exact List.mem_cons_of_mem _ h

theorem once_upd (k : Int) (p : Int × Int) : ∀ {L : List Ent}, Once L → Once (upd k p L)
  | [], _ => by simp [upd, Once]
  | x :: xs, h => by
    have h1 := (List.pairwise_cons.1 h).1
    have h2 := (List.pairwise_cons.1 h).2
    simp only [upd]
    split
    · rename_i e
      refine List.pairwise_cons.2 ⟨fun y hy => ?_, h2⟩
      have := h1 y hy
      simp only; omega
    · rename_i e
      refine List.pairwise_cons.2 ⟨fun y hy => ?_, once_upd k p h2⟩
      rcases mem_upd hy with hy | hy
      · omega
      · exact h1 y hy

theorem once_filter (f : Ent → Bool) {L : List Ent} (h : Once L) : Once (L.filter f) := List.Pairwise.sublist (List.filter_sublist) h

theorem look_filter (f : Ent → Bool) (k : Int) : ∀ {L : List Ent}, Once L → look k (L.filter f) = match look k L with | some p => if f (k, p) then some p else none | none => none
  | [], _ => rfl
  | x :: xs, h => by
    have h1 := (List.pairwise_cons.1 h).1
    have ih := look_filter f k (List.pairwise_cons.1 h).2
    rw [List.filter_cons]
    by_cases e : x.1 = k
    · have hx : x = (k, x.2) := by rw [← e]
      simp only [look, if_pos e]
      by_cases hf : f x = true
      · rw [if_pos hf]
        rw [hx] at hf
        simp only [look, if_pos e, hf, if_true]
      · rw [if_neg hf]
        rw [hx] at hf
        simp only [if_neg hf]
        exact look_none_of (fun y hy => by have := h1 y (List.mem_filter.1 hy).1; omega)
    · simp only [look, if_neg e]
      split
      · simp only [look, if_neg e]; exact ih
      · exact ih

/-- A MAP's DATUM TIED TO A LIST OF ENTRIES. -/
structure Tie (D : DataW (Int × Int)) (L : List Ent) : Prop where
  tidy : Tidy D
  here : ∀ k z, D.atKey (.int .u64 k) z = match look k L with | some p => .held p | none => z
  has : ∀ k, Maps.has D (.int .u64 k) = (look k L).isSome
  size : Maps.size D = L.length

theorem Tie.empty : Tie (.map []) [] := ⟨tidy_empty, fun _ _ => rfl, fun _ => rfl, rfl⟩

theorem Tie.congr {D : DataW (Int × Int)} {L L' : List Ent} (h : Tie D L) (hl : ∀ k, look k L = look k L') (hs : L.length = L'.length) : Tie D L' :=
  ⟨h.tidy, fun k z => by rw [← hl k]; exact h.here k z, fun k => by rw [← hl k]; exact h.has k, by rw [← hs]; exact h.size⟩

theorem lit_ne {k k' : Int} (h : k' ≠ k) : (Lit.int .u64 k') ≠ (Lit.int .u64 k) := fun e => h (by injection e)

theorem keyLit (k : Int) : WideAt.IsKeyLit (.int .u64 k) := trivial

theorem Tie.put {D : DataW (Int × Int)} {L : List Ent} (h : Tie D L) (k : Int) (p : Int × Int) : Tie (D.put (.int .u64 k) (.held p)) (upd k p L) where
  tidy := h.tidy.put (keyLit k) _
  here := fun k' z => by
    rw [look_upd]
    by_cases e : k' = k
    · subst e; rw [atKey_put_same h.tidy.isMap (keyLit _)]; simp
    · rw [atKey_put_other (lit_ne e), h.here, if_neg e]
  has := fun k' => by
    rw [look_upd]
    by_cases e : k' = k
    · subst e; rw [has_put_same h.tidy.isMap (keyLit _)]; simp
    · rw [has_put_other (lit_ne e), h.has, if_neg e]
  size := by rw [size_put h.tidy, h.has, h.size, length_upd]

/-! ### the sweep -/
/-- Is an entry still live at the time 'now'? -/
def live (now : Int) (p : Int × Int) : Bool := decide (wrap64 (now - p.2) < 60000000000)

/-- Live, and its turn has come. -/
def done (now : Int) (left : Lit → Bool) (x : Ent) : Bool := live now x.2 && !left (.int .u64 x.1)

/-- The key k has come. -/
abbrev strike (left : Lit → Bool) (k : Int) : Lit → Bool := fun z => left z && !z.sameKey (.int .u64 k)

theorem strike_same (left : Lit → Bool) (k : Int) : strike left k (.int .u64 k) = false := by
  simp only [strike, WideAt.sameKey_self (keyLit k)]; simp
theorem strike_other (left : Lit → Bool) {k k' : Int} (h : k' ≠ k) : strike left k (.int .u64 k') = left (.int .u64 k') := by
  simp only [strike, sameKey_ne (lit_ne h)]; simp

theorem look_mem {k : Int} {p : Int × Int} : ∀ {L : List Ent}, look k L = some p → (k, p) ∈ L
  | [], h => by cases h
  | x :: xs, h => by
    simp only [look] at h
    split at h
    · rename_i e; injection h with h; rw [← h, ← e]; exact List.mem_cons_self
    · exact List.mem_cons_of_mem _ (look_mem h)

theorem look_of_mem {k : Int} {p : Int × Int} : ∀ {L : List Ent}, Once L → (k, p) ∈ L → look k L = some p
  | [], _, h => by cases h
  | x :: xs, ho, h => by
    simp only [look]
    rcases List.mem_cons.1 h with e | h
    · rw [← e]; simp
    · have := (List.pairwise_cons.1 ho).1 _ h
      rw [if_neg this]
      exact look_of_mem (List.pairwise_cons.1 ho).2 h

theorem done_other (now : Int) (left : Lit → Bool) {k : Int} {x : Ent} (h : x.1 ≠ k) : done now (strike left k) x = done now left x := by
  simp only [done, strike_other left h]

theorem done_len (now : Int) (left : Lit → Bool) (k : Int) (p : Int × Int) (hl : left (.int .u64 k) = true) :
    ∀ {L : List Ent}, Once L → look k L = some p → (L.filter (done now (strike left k))).length = (L.filter (done now left)).length + if live now p then 1 else 0
  | [], _, h => by cases h
  | x :: xs, ho, h => by
    have h1 := (List.pairwise_cons.1 ho).1
    have h2 := (List.pairwise_cons.1 ho).2
    simp only [look] at h
    split at h
    · rename_i e
      injection h with h
      have hs : xs.filter (done now (strike left k)) = xs.filter (done now left) := List.filter_congr (fun y hy => done_other now left (by have := h1 y hy; omega))
      have hx1 : done now left x = false := by simp only [done, e, hl]; simp
      have hx2 : done now (strike left k) x = live now p := by simp only [done, e, strike_same, h]; simp
      rw [List.filter_cons, List.filter_cons, hx1, hx2, hs]
      cases live now p <;> simp
    · rename_i e
      have ih := done_len now left k p hl h2 h
      rw [List.filter_cons, List.filter_cons, done_other now left e]
      split
      · simp only [List.length_cons, ih]; omega
      · exact ih

theorem done_drop (now : Int) (left : Lit → Bool) (k : Int) (p : Int × Int) (hp : live now p = false) {L : List Ent} (ho : Once L) (h : look k L = some p) :
    L.filter (done now (strike left k)) = L.filter (done now left) := by
  refine List.filter_congr (fun y hy => ?_)
  by_cases e : y.1 = k
  · have : look k L = some y.2 := look_of_mem ho (by rw [← e]; exact hy)
    rw [h] at this
    injection this with this
    simp only [done, ← this, hp]; simp
  · exact done_other now left e

theorem done_start (now : Int) {D : DataW (Int × Int)} {L : List Ent} (hT : Tie D L) (ho : Once L) : L.filter (done now (Maps.has D)) = [] := by
  rw [List.filter_eq_nil_iff]
  intro x hx
  simp only [done, hT.has, look_of_mem ho (show (x.1, x.2) ∈ L from hx)]
  simp

theorem done_end (now : Int) {left : Lit → Bool} (hl : ∀ k, left k = false) (L : List Ent) : L.filter (done now left) = L.filter (fun x => live now x.2) :=
  List.filter_congr (fun x _ => by simp only [done, hl]; simp)

/-- The sweep's second loop: the entry that has come is live, and is laid into the new map. -/
theorem Tie.step {now : Int} {left : Lit → Bool} {k : Int} {p : Int × Int} {L : List Ent} {D : DataW (Int × Int)} (h : Tie D (L.filter (done now left))) (ho : Once L) (hk : look k L = some p) (hl : left (.int .u64 k) = true) (hp : live now p = true) :
    Tie (D.put (.int .u64 k) (.held p)) (L.filter (done now (strike left k))) := by
  refine (h.put k p).congr (fun k' => ?_) ?_
  · rw [look_upd, look_filter _ _ ho, look_filter _ _ ho]
    by_cases e : k' = k
    · subst e
      rw [hk]
      simp only [done, strike_same, hp]; simp
    · rw [if_neg e]
      split
      · rw [done_other now left (x := (k', _)) e]
      · rfl
  · rw [length_upd, look_filter _ _ ho, hk, done_len now left k p hl ho hk, hp]
    simp only [done, hl]; simp
end Go.Proofs.YbulkehbmDoor
