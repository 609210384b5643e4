/-
  What a Set holds, in a list of benchmarks.
-/
import Derived.Test.YbulkehdqLeaf
namespace Go.Proofs.Ybulkehdq
open Go.RowKit Go.Maps

/-- An element of the map reads as itself. -/
def ofVal (v : Value) : Option (DataW Value × List MemPlace) := some (.held v, [])
theorem law9 : Keyed Yba.prog 9 := string_keyed Yba.underlying9
abbrev nilS : Value := .slice none 0 0
def keyN (n : Nat) : Lit := .string (nS n).data.toList
theorem keyN_of (n : Nat) : keyOf Yba.prog 9 (.string (nS n)) = some (keyN n) := WideMaps.keyOf_string_mk Yba.underlying9 (by rw [nS_size]; decide)
theorem keyN_ne {a b : Nat} (ha : a < 3) (hb : b < 3) (h : a ≠ b) : keyN a ≠ keyN b := fun e => nS_data ha hb h (by injection e)
theorem zero37 (w : World) : (zeroValue 37).run Yba.prog w = .ok nilS w := by kernel_rfl

/-- The map of the names. -/
def MapAt (w : World) (base : Nat) (m : Option Nat) (V : Nat → Value) (cnt : Nat) : Prop :=
  match m with
  | none => ∀ n, V n = nilS
  | some B => base ≤ B ∧ ∃ D, w.ownsMap Yba.prog 9 ofVal B cnt D ∧ ∀ n, n < 3 → D.atKey (keyN n) (.held nilS) = .held (V n)

def ofName (n : Nat) (L : List Ent) : List Ent := L.filter (fun x => x.2.2 == n)

/-- Behind block F lies a Set whose benchmarks are L, its parts in blocks from base on. -/
def SetM (w : World) (base F : Nat) (L : List Ent) (m : Option Nat) : Prop :=
  ∃ (a : Option Addr) (c : Nat) (V : Nat → Value),
    w.heap[F]? = some (.cells #[.slice a L.length c, .map m] 40 (0, 0)) ∧ base ≤ F ∧
    w.ownsRow base 36 1 (.slice a L.length c) L.length (L.map ptrV) ∧
    (∀ n, n < 3 → w.ownsRow base 36 1 (V n) (ofName n L).length ((ofName n L).map ptrV)) ∧
    (∀ n, n < 3 → (V n).ownBlock = none ∨ (V n).ownBlock ≠ (Value.slice a L.length c).ownBlock) ∧
    (∀ n n', n < 3 → n' < 3 → n ≠ n' → (V n).ownBlock = none ∨ (V n).ownBlock ≠ (V n').ownBlock) ∧
    MapAt w base m V L.length ∧
    (∀ x ∈ L, x.2.1 < 3 ∧ x.2.2 < 3 ∧ base ≤ x.1 ∧ ∃ q, w.heap[x.1]? = some (.cells #[.string (pS x.2.1), .string (nS x.2.2), .slice none 0 0, .map q] 47 (0, 0))) ∧
    L.Pairwise (fun x y => ¬ (x.2.1 = y.2.1 ∧ x.2.2 = y.2.2))

/-- Blocks between: of those that are there from base on none has turned. -/
theorem row_same {w w' : World} {base e size n : Nat} {v : Value} {xs : List Value} (h : w.ownsRow base e size v n xs) (hb : ∀ k, base ≤ k → k < w.heap.size → w'.heap[k]? = w.heap[k]?) : w'.ownsRow base e size v n xs := by
  refine ⟨h.1, ?_⟩
  rcases h.2 with hn | ⟨g, cap, cur, rfl, hg, hgg, rest⟩
  · exact .inl hn
  · refine .inr ⟨g, cap, cur, rfl, hg, ?_, rest⟩
    rw [hb g hg (Array.getElem?_eq_some_iff.1 hgg).1]
    exact hgg
theorem MapAt.same {w w' : World} {base cnt : Nat} {m : Option Nat} {V : Nat → Value} (h : MapAt w base m V cnt) (hb : ∀ k, base ≤ k → k < w.heap.size → w'.heap[k]? = w.heap[k]?) : MapAt w' base m V cnt := by
  cases m with
  | none => exact h
  | some B =>
    obtain ⟨h1, D, h2, h3⟩ := h
    refine ⟨h1, D, ?_, h3⟩
    have hlt := h2.lt
    obtain ⟨es, clock, hh, rest⟩ := h2
    exact ⟨es, clock, (hb B h1 hlt).trans hh, rest⟩
theorem SetM.same {w w' : World} {base F : Nat} {L : List Ent} {m : Option Nat} (h : SetM w base F L m) (hb : ∀ k, base ≤ k → k < w.heap.size → w'.heap[k]? = w.heap[k]?) : SetM w' base F L m := by
  obtain ⟨a, c, V, h1, h2, h3, h4, h5, h6, h7, h8, h9⟩ := h
  refine ⟨a, c, V, (hb F h2 (Array.getElem?_eq_some_iff.1 h1).1).trans h1, h2, row_same h3 hb, fun n hn => row_same (h4 n hn) hb, h5, h6, h7.same hb, fun x hx => ?_, h9⟩
  obtain ⟨k1, k2, k3, q, k4⟩ := h8 x hx
  exact ⟨k1, k2, k3, q, (hb x.1 k3 (Array.getElem?_eq_some_iff.1 k4).1).trans k4⟩
theorem SetM.below {w w' : World} {base F : Nat} {L : List Ent} {m : Option Nat} (h : SetM w base F L m) (hb : Below w.heap.size w w') : SetM w' base F L m := h.same (fun k _ hk => hb.block k hk)

theorem ptrs_cell {w : World} {base g n c : Nat} {M : List Ent} (h : w.ownsRow base 36 1 (.slice (some ⟨g, 0, none⟩) n c) n (M.map ptrV)) {i : Nat} (hi : i < M.length) : w.cell? ⟨g, i, none⟩ = some (ptrV M[i]) := by
  have := h.cells (g := g) rfl i (ptrV M[i]) (by rw [List.getElem?_map, List.getElem?_eq_getElem hi]; rfl)
  simpa [Addr.add_lit] using this
theorem row_at {w : World} {base e size n c : Nat} {a : Option Addr} {xs : List Value} (h : w.ownsRow base e size (.slice a n c) n xs) (hn : 0 < n) : ∃ g, a = some ⟨g, 0, none⟩ := by
  rcases h.2 with ⟨_, h0⟩ | ⟨g, cap, cur, hv, _⟩
  · omega
  · injection hv with h1 h2 h3
    exact ⟨g, h1⟩
theorem row_shape {w : World} {base e size n : Nat} {v : Value} {xs : List Value} (h : w.ownsRow base e size v n xs) : ∃ a c, v = .slice a n c := by
  rcases h.2 with ⟨hv, h0⟩ | ⟨g, cap, cur, hv, _⟩
  · exact ⟨none, 0, by rw [hv, h0]⟩
  · exact ⟨_, _, hv⟩

/-- The look-up of a name. -/
theorem MapAt.look {w : World} {base cnt : Nat} {m : Option Nat} {V : Nat → Value} (h : MapAt w base m V cnt) {n : Nat} (hn : n < 3) : (Instr.lookup 38 (.map m) (.string (nS n)) false).run Yba.prog w = .ok (V n) w := by
  cases m with
  | none =>
    rw [h n]
    simpa using Maps.look_nil (w := w) false law9 Yba.underlying38 (zero37 w) (keyN_of n)
  | some B =>
    obtain ⟨h1, D, h2, h3⟩ := h
    obtain ⟨v, ps, hr, hv⟩ := h2.lookup law9 Yba.underlying38 (zero37 w) (zd := .held nilS) (zp := []) rfl (keyN_of n)
    rw [h3 n hn] at hv
    simp only [ofVal, Option.some.injEq, Prod.mk.injEq, DataW.held.injEq] at hv
    rw [hr, hv.1]

/-- The first benchmark of a name in a package. -/
def pick (L : List Ent) (p n : Nat) : Option Ent := (ofName n L).find? (fun x => x.2.1 == p)

theorem mem_ofName {n : Nat} {L : List Ent} {x : Ent} (h : x ∈ ofName n L) : x ∈ L ∧ x.2.2 = n := by
  have := List.mem_filter.1 h
  exact ⟨this.1, by simpa using this.2⟩
theorem ofName_le (n : Nat) (L : List Ent) : (ofName n L).length ≤ L.length := List.length_filter_le ..

/-- Set.Benchmark over a Set. -/
theorem bench_set (base F : Nat) (L : List Ent) (m : Option Nat) (p n : Nat) (w : World) (h : SetM w base F L m) (hp : p < 3) (hn : n < 3) (hL : L.length ≤ 100000) :
    Calls Yba.prog 21 #[.pointer (some ⟨F, 0, none⟩), .agg #[.string (pS p), .string (nS n)]] w fun e w' => e = .returned (ptrO (pick L p n)) ∧
      ∃ q, w' = (w.alloc (.cells #[.string (pS p), .string (nS n)] 43)).drewN q := by
  obtain ⟨a, c, V, h1, h2, h3, h4, h5, h6, h7, h8, h9⟩ := h
  obtain ⟨aV, cV, hV⟩ := row_shape (h4 n hn)
  have hrow := h4 n hn
  rw [hV] at hrow
  refine bench_any F m aV cV (ofName n L).length (ofName n L) p n w hp rfl (Nat.le_trans (ofName_le n L) hL) (by simp [World.cell?, h1]) (fun q => ?_) (fun hl => ?_) (fun x hx => ?_)
  · rw [← hV]
    exact (h7.same (fun k _ hk => by
      show ((w.alloc _).drewN q).heap[k]? = _
      exact Below.heap_alloc _ _ _ hk)).look hn
  · obtain ⟨g, rfl⟩ := row_at hrow hl
    exact ⟨g, rfl, fun i hi => ptrs_cell hrow hi⟩
  · obtain ⟨hx1, hx2⟩ := mem_ofName hx
    obtain ⟨k1, k2, k3, q, k4⟩ := h8 x hx1
    exact ⟨k1, by simp [World.cell?, k4]⟩
end Go.Proofs.Ybulkehdq
