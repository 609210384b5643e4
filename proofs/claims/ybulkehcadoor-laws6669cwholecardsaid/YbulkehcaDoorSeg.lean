/-
  The parts of LawS6669CWhole, said by blocks.
-/
import Derived.Test.YbulkehcaDoorBread
import Derived.Maps.AppendAt
import Derived.LaidEql
import Derived.Laws.Cover3
namespace Go.Proofs.YbulkehcaDoor
open Go.RowKit

theorem row_shape {w : World} {base e size n : Nat} {v : Value} {xs : List Value} (h : w.ownsRow base e size v n xs) : ∃ a c, v = .slice a n c := by
  rcases h.2 with ⟨hv, h0⟩ | ⟨g, cap, cur, hv, _⟩
  · exact ⟨none, 0, by rw [hv, h0]⟩
  · exact ⟨_, _, hv⟩
theorem row_at {w : World} {base e size n c : Nat} {a : Option Addr} {xs : List Value} (h : w.ownsRow base e size (.slice a n c) n xs) : (a = none ∧ n = 0) ∨ ∃ g cur, a = some ⟨g, 0, none⟩ ∧ w.heap[g]? = some (.cells cur e (0, 0)) ∧ base ≤ g ∧ g < w.heap.size := by
  rcases h.2 with ⟨hv, h0⟩ | ⟨g, cap, cur, hv, hbg, hg, _⟩
  · injection hv with h1 h2 h3
    exact Or.inl ⟨h1, h0⟩
  · injection hv with h1 h2 h3
    exact Or.inr ⟨g, cur, h1, hg, hbg, (Array.getElem?_eq_some_iff.1 hg).1⟩

/-- The bytes of a row that is owned. -/
theorem bytes_of_row {w : World} {base n c : Nat} {a : Option Addr} {xs : List Int} (h : w.ownsRow base 5 1 (.slice a n c) n (xs.map (Value.int .u8))) (hl : xs.length = n) (hr : ∀ x ∈ xs, 0 ≤ x ∧ x < 256) : BytesAt w a n xs := by
  refine ⟨hl, hr, fun e => ?_, fun b o sp e hn => ?_⟩
  · rcases row_at h with ⟨_, h0⟩ | ⟨g, _, h1, _⟩
    · exact h0
    · rw [e] at h1; cases h1
  · rcases row_at h with ⟨_, h0⟩ | ⟨g, _, h1, _⟩
    · omega
    · subst e
      injection h1 with h1
      injection h1 with e1 e2 e3
      subst e1 e2 e3
      refine ⟨rfl, fun i hi => ?_⟩
      have := h.cells (g := b) rfl i (.int .u8 (xs.getD i 0)) (by rw [List.getElem?_map, List.getD, List.getElem?_eq_getElem (by omega)]; rfl)
      simpa [Addr.add_lit] using this

theorem BytesAt.below {w w' : World} {B : Nat} {a : Option Addr} {n : Nat} {xs : List Int} (h : BytesAt w a n xs) (hb : Below B w w') (hB : w.heap.size ≤ B) : BytesAt w' a n xs := by
  obtain ⟨h1, h2, h3, h4⟩ := h
  refine ⟨h1, h2, h3, fun b o sp e hn => ?_⟩
  obtain ⟨e1, h5⟩ := h4 b o sp e hn
  refine ⟨e1, fun i hi => ?_⟩
  have h6 := h5 i hi
  rw [hb.cell (by have := World.block_lt_of_cell? w _ h6; simp at this ⊢; omega)]
  exact h6
theorem BytesAt.lt {w : World} {b o : Nat} {n : Nat} {xs : List Int} (h : BytesAt w (some ⟨b, o, none⟩) n xs) (hn : 0 < n) : b < w.heap.size := by
  obtain ⟨h1, h2, h3, h4⟩ := h
  have := World.block_lt_of_cell? w _ ((h4 b o none rfl hn).2 0 hn)
  simpa using this

theorem clone_any (a : Option Addr) (len cap : Nat) (xs : List Int) (w : World) (h : BytesAt w a len xs) (hnil : a = none → len = 0 ∧ cap = 0) (hn : len ≤ 1048576) :
    Calls Ybad.prog 8 #[.slice a len cap] w fun e w' => ∃ ao co, e = .returned (.slice ao len co) ∧ ao.isNone = a.isNone ∧ BytesAt w' ao len xs ∧ Below w.heap.size w w' := by
  cases a with
  | none =>
    obtain ⟨rfl, rfl⟩ := hnil rfl
    refine (clone_nil w).mono ?_
    rintro e w' ⟨rfl, rfl⟩
    exact ⟨none, 0, rfl, rfl, h, Below.refl _ _⟩
  | some x =>
    refine (clone_some x len cap xs w h hn).mono ?_
    rintro e w' ⟨g, cc, rfl, ho, hb⟩
    exact ⟨_, cc, rfl, rfl, bytes_of_row ho h.1 h.2.1, hb⟩

theorem heap_new (w : World) (o : Obj) : (w.alloc o).heap[w.heap.size]? = some o := by
  show (w.heap.push o)[w.heap.size]? = some o
  simp
theorem heap_at (w : World) (o : Obj) (k : Nat) (h : k = w.heap.size) : (w.alloc o).heap[k]? = some o := by
  subst h
  exact heap_new w o
theorem newMulti_rel (S : Addr) (bs : ByteArray) (D N : Nat) (w : World) (hb : bs.size ≤ 1048576) (hD : w.heap.size = D) (hN : N = bs.size + 4098) :
    Calls Ybad.prog 9 #[.iface 29 (.pointer (some S)), .string bs] w fun e w' => ∃ c1, e = .returned (.pointer (some ⟨D + 3, 0, none⟩)) ∧ w'.heap.size = D + 4 ∧ Below D w w' ∧ BytesAt w' (some ⟨D, 0, none⟩) (bs.size + 2) (delim bs) ∧
      w'.heap[D + 1]? = some (.cells #[.slice (some ⟨D + 2, 0, none⟩) N N, .iface 29 (.pointer (some S)), .int .i64 0, .int .i64 0, .nilIface, .int .i64 (-1), .int .i64 (-1)] 51 (0, 0)) ∧
      w'.heap[D + 2]? = some (.cells (madeCells #[.int .u8 0] N) 5 (0, 0)) ∧
      w'.heap[D + 3]? = some (.cells #[.pointer (some ⟨D + 1, 0, none⟩), .slice (some ⟨D, 0, none⟩) (bs.size + 2) c1, .bool false, .bool false, .bool false, .nilIface, .nilIface, .slice none 0 0, .slice none 0 0, .slice none 0 0, .bool false] 39 (0, 0)) := by
  subst hD hN
  refine (newMulti_any S bs w hb).mono ?_
  rintro e w' ⟨w1, c1, hs1, hb1, hby, rfl, rfl⟩
  have hbl : Below (w.heap.size + 1) w1 (((w1.alloc (.cells #[.slice (some ⟨w.heap.size + 2, 0, none⟩) (bs.size + 4098) (bs.size + 4098), .iface 29 (.pointer (some S)), .int .i64 0, .int .i64 0, .nilIface, .int .i64 (-1), .int .i64 (-1)] 51)).alloc (.cells (madeCells #[.int .u8 0] (bs.size + 4098)) 5)).alloc
        (.cells #[.pointer (some ⟨w.heap.size + 1, 0, none⟩), .slice (some ⟨w.heap.size, 0, none⟩) (bs.size + 2) c1, .bool false, .bool false, .bool false, .nilIface, .nilIface, .slice none 0 0, .slice none 0 0, .slice none 0 0, .bool false] 39)) :=
    (((Below.refl _ _).alloc (by omega) _).alloc (by simp; omega) _).alloc (by simp; omega) _
  refine ⟨c1, rfl, by simp [hs1], hb1.trans (hbl.mono (by omega)), hby.below hbl (by omega), ?_, ?_, ?_⟩
  · rw [Below.heap_alloc _ _ _ (by simp; omega), Below.heap_alloc _ _ _ (by simp; omega)]
    exact heap_at _ _ _ (by omega)
  · rw [Below.heap_alloc _ _ _ (by simp; omega)]
    exact heap_at _ _ _ (by simp; omega)
  · exact heap_at _ _ _ (by simp; omega)

theorem mk0 (c : Nat) (hc : c ≤ 2000000) (w : World) : (Instr.makeSlice 25 (.int .i64 0) (.int .i64 (c : Int))).run Ybad.prog w = .ok (.slice (some ⟨w.heap.size, 0, none⟩) 0 c) (w.alloc (.cells (madeCells #[.int .u8 0] c) 5)) := by
  obtain ⟨i5, hi, hz, hs, hb⟩ := info_parts info5
  have hr := run_make (P := Ybad.prog) w 25 5 i5 (.int .u8 0) Ybad.underlying25 hi hz .i64 .i64 0 c (Int.le_refl _) (by omega) (by rw [hb]; omega) (by omega)
  simp only [Int.toNat_zero, Int.toNat_natCast, hs, Nat.mul_one] at hr
  exact hr

theorem cell_new (w : World) (cs : Array Value) (t : TypeId) (j : Nat) : (w.alloc (.cells cs t)).cell? ((⟨w.heap.size, 0, none⟩ : Addr).add j) = cs[j]? := by
  rw [Addr.add_lit]
  have := heap_new w (.cells cs t)
  simp only [World.cell?, this]
  simp
theorem cell_one_new (w : World) (v : Value) (t : TypeId) : ∀ j u, [v][j]? = some u → (w.alloc (.cells #[v] t)).cell? ((⟨w.heap.size, 0, none⟩ : Addr).add j) = some u := by
  intro j u h
  rw [cell_new]
  simpa using h
theorem cell_two_new (w : World) (v v' : Value) (t : TypeId) : ∀ j u, [v, v'][j]? = some u → (w.alloc (.cells #[v, v'] t)).cell? ((⟨w.heap.size, 0, none⟩ : Addr).add j) = some u := by
  intro j u h
  rw [cell_new]
  simpa using h

theorem St.kept {w w' : World} {R S Bf Pb N len cap g : Nat} {a : Option Addr} {zs : List Int} (h : St w R S Bf Pb N a len cap zs g) (hR : w'.heap[R]? = w.heap[R]?) (hS : w'.heap[S]? = w.heap[S]?) (hB : w'.heap[Bf]? = w.heap[Bf]?) (hP : w'.heap[Pb]? = w.heap[Pb]?) : St w' R S Bf Pb N a len cap zs g := by
  obtain ⟨r, wv, kk, lb, lr, cur, pcur, h1, h2, h3, h4, rest⟩ := h
  exact ⟨r, wv, kk, lb, lr, cur, pcur, hR.trans h1, hS.trans h2, hB.trans h3, hP.trans h4, rest⟩
theorem row_turned {w w' : World} {base e size n : Nat} {v : Value} {xs : List Value} {bs : List Nat} (h : w.ownsRow base e size v n xs) (ht : Turned bs w w') (hne : ∀ k, k ∈ bs → v.ownBlock ≠ some k) : w'.ownsRow base e size v n xs := by
  refine ⟨h.1, ?_⟩
  rcases h.2 with hn | ⟨g, cap, cur, rfl, hb, hgg, rest⟩
  · exact .inl hn
  · refine .inr ⟨g, cap, cur, rfl, hb, ?_, rest⟩
    rw [ht.block g (fun hm => hne g hm rfl)]
    exact hgg
theorem neqNilS (w : World) (a : Option Addr) (n c : Nat) : Sem.run Ybad.prog (binOp BinOp.neq 25 (Value.slice a n c) (Value.slice none 0 0)) w = Result.ok (Value.bool (!a.isNone)) w :=
  run_neq_slice_nil w 25 5 a n c Ybad.underlying25
theorem info82 : ∃ i, Ybad.prog.info? 82 = some i ∧ i.comparable = true :=
  Option.map_eq_some_iff.1 (show (Ybad.prog.info? 82).map (·.comparable) = some true by kernel_rfl)
theorem info100 : ∃ i, Ybad.prog.info? 100 = some i := Option.isSome_iff_exists.1 (show (Ybad.prog.info? 100).isSome = true by kernel_rfl)
theorem eqlEof (z : Addr) (w : World) : Sem.run Ybad.prog (binOp BinOp.eql 36 (.iface 82 (.pointer (some z))) (.iface 82 (.pointer (some z)))) w = Result.ok (Value.bool true) w := by
  obtain ⟨i, hi, hc⟩ := info82
  obtain ⟨j, hj⟩ := info100
  exact run_eql_iface_ptr_same w z Ybad.underlying36 Ybad.underlying82 hi hc hj
theorem eqlNilEof (z : Addr) (w : World) : Sem.run Ybad.prog (binOp BinOp.eql 36 .nilIface (.iface 82 (.pointer (some z)))) w = Result.ok (Value.bool false) w :=
  run_eql_iface_nil_left w 82 _ Ybad.underlying36
end Go.Proofs.YbulkehcaDoor
