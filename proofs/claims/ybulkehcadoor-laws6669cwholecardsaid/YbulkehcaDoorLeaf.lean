/-
  The leaves of the road of LawS6669CWhole.
-/
import Derived.Test.YbulkehcaDoorProg
import Derived.WalkKit
import Derived.WalkSpells
import Derived.WalkSmall
import Derived.Outline
import Derived.Deep.QuietTactic
import Derived.BigQuiet
import Derived.Laws.BytesArg
import Derived.LaidEqlPtr
import Derived.Deep.OwnRows
import Derived.Lib.ConvBytes
namespace Go.Proofs.YbulkehcaDoor
open Go.RowKit

/-- The bytes of a slice that came in, or that the call made. -/
def BytesAt (w : World) (a : Option Addr) (n : Nat) (xs : List Int) : Prop :=
  xs.length = n ∧ (∀ x ∈ xs, 0 ≤ x ∧ x < 256) ∧ (a = none → n = 0) ∧ ∀ b o sp, a = some ⟨b, o, sp⟩ → 0 < n → sp = none ∧ ∀ i, i < n → w.cell? ⟨b, o + i, none⟩ = some (.int .u8 (xs.getD i 0))

set_option maxHeartbeats 400000 in
theorem size_any (R : Nat) (a : Option Addr) (n c : Nat) (w : World) (h : w.cell? ⟨R, 0, none⟩ = some (.slice a n c)) :
    Calls Ybad.prog 11 #[.pointer (some ⟨R, 0, none⟩)] w fun e w' => e = .returned (.int .i64 n) ∧ w' = w := by
  go_enter Ybad.func11, Ybad.ntmps11
  go_wp2
  go_ret
  exact ⟨rfl, rfl⟩

set_option maxHeartbeats 400000 in
theorem buffered_any (R : Nat) (r wv : Int) (w : World) (h2 : w.cell? ⟨R, 2, none⟩ = some (.int .i64 r)) (h3 : w.cell? ⟨R, 3, none⟩ = some (.int .i64 wv)) :
    Calls Ybad.prog 12 #[.pointer (some ⟨R, 0, none⟩)] w fun e w' => e = .returned (.int .i64 (wrap64 (wv - r))) ∧ ∃ n, w' = w.drewN n := by
  go_enter Ybad.func12, Ybad.ntmps12
  go_wp2
  go_quiet (fail)
  go_wp2
  go_ret
  exact ⟨rfl, _, rfl⟩

set_option maxHeartbeats 400000 in
theorem readErr_any (R : Nat) (v : Value) (w : World) (hv : v = .nilIface ∨ ∃ t x, v = .iface t x) (h4 : w.cell? ⟨R, 4, none⟩ = some v) (f4 : w.frozen? ⟨R, 4, none⟩ = false) :
    Calls Ybad.prog 17 #[.pointer (some ⟨R, 0, none⟩)] w fun e w' => e = .returned v ∧ w' = w.setCell ⟨R, 4, none⟩ .nilIface := by
  rcases hv with rfl | ⟨t, x, rfl⟩
  · go_enter Ybad.func17, Ybad.ntmps17
    go_wp2
    go_ret
    exact ⟨rfl, rfl⟩
  · go_enter Ybad.func17, Ybad.ntmps17
    go_wp2
    go_ret
    exact ⟨rfl, rfl⟩

theorem conv_any {w : World} {a : Option Addr} {n : Nat} {xs : List Int} (c : Nat) (h : BytesAt w a n xs) : (convert 25 9 (.slice a n c)).run Ybad.prog w = .ok (.string (strOfNums xs)) w := by
  obtain ⟨hl, _, hn, hc⟩ := h
  cases a with
  | none =>
    have h0 := hn rfl
    have : xs = [] := List.length_eq_zero_iff.1 (by omega)
    subst this
    exact run_convert_bytes_nil w 25 5 Ybad.underlying25 Ybad.underlying5 n c 9 Ybad.underlying9
  | some x =>
    obtain ⟨b, o, sp⟩ := x
    by_cases h0 : 0 < n
    · obtain ⟨rfl, hc'⟩ := hc b o sp rfl h0
      exact run_convert_bytes_arg w 25 5 Ybad.underlying25 Ybad.underlying5 b o n c xs hl hc' 9 Ybad.underlying9
    · have hn0 : n = 0 := by omega
      subst hn0
      have : xs = [] := List.length_eq_zero_iff.1 (by omega)
      subst this
      have hl0 : (loadCells ⟨b, o, sp⟩ 0).run Ybad.prog w = .ok (([] : List Int).map (Value.int .u8)).toArray w := by simpa using run_loadCells_list (P := Ybad.prog) w ⟨b, o, sp⟩ [] (by simp)
      rw [run_convert_bytes_string w 25 9 5 _ 0 c Ybad.underlying25 Ybad.underlying5 Ybad.underlying9, run_bytesToString w _ 0 c [] hl0]
      rfl

set_option maxHeartbeats 400000 in
theorem equal_same (a a' : Option Addr) (n c n' c' : Nat) (xs : List Int) (w : World) (h : BytesAt w a n xs) (h' : BytesAt w a' n' xs) :
    Calls Ybad.prog 10 #[.slice a n c, .slice a' n' c'] w fun e w' => e = .returned (.bool true) ∧ w' = w := by
  have q1 := conv_any c h
  have q2 := conv_any c' h'
  go_enter Ybad.func10, Ybad.ntmps10
  go_wp2
  go_ret
  exact ⟨rfl, rfl⟩

theorem info5 : (Ybad.prog.info? 5).map (fun i => (i.zero, i.size, i.bytes)) = some (some (.int .u8 0), 1, 1) := by kernel_rfl

theorem eqlNilS (w : World) (a : Option Addr) (n c : Nat) : Sem.run Ybad.prog (binOp BinOp.eql 25 (Value.slice a n c) (Value.slice none 0 0)) w = Result.ok (Value.bool a.isNone) w :=
  Lib.run_eql_slice_nil w 25 5 a n c 0 0 Ybad.underlying25

set_option maxHeartbeats 400000 in
theorem clone_nil (w : World) :
    Calls Ybad.prog 8 #[.slice none 0 0] w fun e w' => e = .returned (.slice none 0 0) ∧ w' = w := by
  have hq := eqlNilS
  go_enter Ybad.func8, Ybad.ntmps8
  go_wp2
  go_ret
  exact ⟨rfl, rfl⟩

set_option maxHeartbeats 400000 in
theorem clone_some (x : Addr) (n c : Nat) (xs : List Int) (w : World) (h : BytesAt w (some x) n xs) (hn : n ≤ 1048576) :
    Calls Ybad.prog 8 #[.slice (some x) n c] w fun e w' => ∃ g cc, e = .returned (.slice (some ⟨g, 0, none⟩) n cc) ∧ w'.ownsRow w.heap.size 5 1 (.slice (some ⟨g, 0, none⟩) n cc) n (xs.map (Value.int .u8)) ∧ Below w.heap.size w w' := by
  have hq := eqlNilS
  obtain ⟨i5, hi, hz, hs, hb⟩ := info_parts info5
  have hrow : (w.alloc (.cells #[] 5)).ownsRow w.heap.size 5 1 (.slice (some ⟨w.heap.size, 0, none⟩) 0 0) 0 [] := World.ownsRow_made w #[] 0 (Nat.le_refl _) (by unfold maxLen; omega) (by simp)
  obtain ⟨hl, _, _, hc⟩ := h
  have hcells : ∀ j u, (xs.map (Value.int .u8))[j]? = some u → (w.alloc (.cells #[] 5)).cell? (x.add j) = some u := fun j u hu => by
    have hj : j < n := by
      rcases Nat.lt_or_ge j n with h | h
      · exact h
      · rw [List.getElem?_eq_none (by simp; omega)] at hu; cases hu
    obtain ⟨b, o, sp⟩ := x
    obtain ⟨rfl, hc'⟩ := hc b o sp rfl (by omega)
    have h1 := hc' j hj
    rw [Addr.add_lit, World.cell?_alloc_past _ _ _ (World.block_lt_of_cell? w _ h1), h1]
    simp [List.getD, List.getElem?_eq_getElem (show j < xs.length by omega)] at hu ⊢
    exact hu
  go_enter Ybad.func8, Ybad.ntmps8
  go_wp2_with (first
    | (at_builtin; refine wpList_append_own _ rfl (.tmp 5) (.tmp 6) 25 rfl w.heap.size 5 i5 (.int .u8 0) 1 1 Ybad.underlying25 hi hz hs hb rfl (by decide) _ _ _ rfl hrow x n c (xs.map (Value.int .u8)) rfl (by simp [hl]) hcells (by simp [Value.oneCell']) (by unfold maxLen; omega) (by omega) (by simp) ?_; intro v' w1 hown1 hgrow1 hiff1)
    | go_in)
  obtain ⟨g, cc, hv⟩ : ∃ g cc, v' = .slice (some ⟨g, 0, none⟩) n cc := by
    rcases hown1.2 with ⟨h1, _⟩ | ⟨g, cap, cur, h1, _⟩
    · exact absurd (hiff1.1 h1).1 (by intro e; cases e)
    · exact ⟨g, cap, by simpa using h1⟩
  subst hv
  go_ret
  refine ⟨g, cc, rfl, ?_, ?_⟩
  · simpa using hown1
  · exact ((Below.refl _ _).alloc (Nat.le_refl _) _).grown hgrow1 (by simp) (fun j hj => by have hj' : w.heap.size = j := Option.some.inj hj; omega)

/-! ### bufio.NewReaderSize, newMultipartReader -/
theorem assertNo (S : Addr) (w : World) : Sem.run Ybad.prog (Instr.typeAssert (Value.iface 29 (Value.pointer (some S))) 48 34 true) w = .ok (.tuple #[.pointer none, .bool false]) w := by kernel_rfl

set_option maxHeartbeats 400000 in
theorem reset_any (a : Option Addr) (n c : Nat) (S : Addr) (o : Obj) (w : World) :
    Calls Ybad.prog 22 #[.pointer (some ⟨w.heap.size, 0, none⟩), .slice a n c, .iface 29 (.pointer (some S))] ((w.alloc (.cells #[.slice none 0 0, .nilIface, .int .i64 0, .int .i64 0, .nilIface, .int .i64 0, .int .i64 0] 51)).alloc o) fun e w' => e = .returned (.tuple #[]) ∧
      w' = (w.alloc (.cells #[.slice a n c, .iface 29 (.pointer (some S)), .int .i64 0, .int .i64 0, .nilIface, .int .i64 (-1), .int .i64 (-1)] 51)).alloc o := by
  go_enter Ybad.func22, Ybad.ntmps22
  go_wp2
  go_end0
  exact ⟨rfl, rfl⟩

set_option maxHeartbeats 400000 in
theorem newReader_any (S : Addr) (n : Nat) (w : World) (hn : n ≤ 2000000) (hn0 : 16 ≤ n) :
    Calls Ybad.prog 16 #[.iface 29 (.pointer (some S)), .int .i64 n] w fun e w' => e = .returned (.pointer (some ⟨w.heap.size, 0, none⟩)) ∧
      w' = (w.alloc (.cells #[.slice (some ⟨w.heap.size + 1, 0, none⟩) n n, .iface 29 (.pointer (some S)), .int .i64 0, .int .i64 0, .nilIface, .int .i64 (-1), .int .i64 (-1)] 51)).alloc (.cells (madeCells #[.int .u8 0] n) 5) := by
  have hta := assertNo
  have hmk := run_make_row' (P := Ybad.prog) 25 5 (.int .u8 0) 1 Ybad.underlying25 info5 rfl .i64 .i64 n (by omega) (by omega)
  go_enter Ybad.func16, Ybad.ntmps16
  go_wp2_with fail
  refine (reset_any (some ⟨w.heap.size + 1, 0, none⟩) n n S (.cells (madeCells #[.int .u8 0] n) 5) w).mono ?_
  rintro e w1 ⟨rfl, rfl⟩
  go_wp2_with fail
  go_ret
  exact ⟨rfl, rfl⟩

/-- The numbers of a string's bytes. -/
def nums (s : ByteArray) : List Int := s.data.toList.map (fun b => (b.toNat : Int))
/-- The delimiter. -/
def delim (bs : ByteArray) : List Int := 45 :: 45 :: nums bs

theorem delim_len (bs : ByteArray) : (delim bs).length = bs.size + 2 := by simp [delim, nums]
theorem nums_range (s : ByteArray) : ∀ x ∈ nums s, 0 ≤ x ∧ x < 256 := by
  intro x hx
  obtain ⟨b, _, rfl⟩ := List.mem_map.1 hx
  have := b.toNat_lt
  omega
theorem delim_range (bs : ByteArray) : ∀ x ∈ delim bs, 0 ≤ x ∧ x < 256 := by
  intro x hx
  simp only [delim, List.mem_cons] at hx
  rcases hx with rfl | rfl | hx
  · omega
  · omega
  · exact nums_range bs x hx

theorem nums_delim (bs : ByteArray) : nums ({ data := #[45, 45] } ++ bs) = delim bs := by
  unfold nums delim
  rw [show (({ data := #[45, 45] } : ByteArray) ++ bs).data = #[45, 45] ++ bs.data from ByteArray.data_append ..]
  simp [nums]

theorem conv_str (s : ByteArray) (w : World) : ∃ w1 c1, (convert 9 25 (.string s)).run Ybad.prog w = .ok (.slice (some ⟨w.heap.size, 0, none⟩) s.size c1) w1 ∧
    w1.heap.size = w.heap.size + 1 ∧ Below w.heap.size w w1 ∧ BytesAt w1 (some ⟨w.heap.size, 0, none⟩) s.size (nums s) := by
  have h1 := Lib.run_convert_string_bytes (P := Ybad.prog) w 9 25 5 s Ybad.underlying9 Ybad.underlying25 Ybad.underlying5
  have h2 := Lib.bytesWorld_size w 5 s
  have h3 : Below w.heap.size w (Lib.bytesWorld w 5 s) := ⟨rfl, rfl, rfl, by rw [h2]; omega, fun k hk => Lib.bytesWorld_at_old _ _ _ k hk⟩
  have h4 : ∀ i, i < s.size → (Lib.bytesWorld w 5 s).cell? ⟨w.heap.size, 0 + i, none⟩ = some (.int .u8 ((nums s).getD i 0)) := fun i hi => by
    rw [Nat.zero_add, Lib.bytesWorld_cell w 5 s i hi]
    simp [nums, List.getD, hi]
  generalize Lib.bytesWorld w 5 s = w1 at h1 h2 h3 h4
  refine ⟨w1, _, h1, h2, h3, by simp [nums], nums_range s, (fun h => by cases h), fun b o sp h _ => ?_⟩
  injection h with h
  injection h with e1 e2 e3
  subst e1 e2 e3
  exact ⟨rfl, h4⟩

theorem delim_conv (bs : ByteArray) (w : World) : ∃ w1 c1, (convert 9 25 (.string ({ data := #[45, 45] } ++ bs))).run Ybad.prog w = .ok (.slice (some ⟨w.heap.size, 0, none⟩) (bs.size + 2) c1) w1 ∧
    w1.heap.size = w.heap.size + 1 ∧ Below w.heap.size w w1 ∧ BytesAt w1 (some ⟨w.heap.size, 0, none⟩) (bs.size + 2) (delim bs) := by
  have hsz : (({ data := #[45, 45] } : ByteArray) ++ bs).size = bs.size + 2 := by rw [ByteArray.size_append]; show 2 + bs.size = _; omega
  obtain ⟨w1, c1, h1, h2, h3, h4⟩ := conv_str ({ data := #[45, 45] } ++ bs) w
  rw [hsz] at h1 h4
  rw [nums_delim] at h4
  exact ⟨w1, c1, h1, h2, h3, h4⟩

set_option maxHeartbeats 400000 in
theorem newMulti_any (S : Addr) (bs : ByteArray) (w : World) (hb : bs.size ≤ 1048576) :
    Calls Ybad.prog 9 #[.iface 29 (.pointer (some S)), .string bs] w fun e w' => ∃ w1 c1, w1.heap.size = w.heap.size + 1 ∧ Below w.heap.size w w1 ∧ BytesAt w1 (some ⟨w.heap.size, 0, none⟩) (bs.size + 2) (delim bs) ∧ e = .returned (.pointer (some ⟨w.heap.size + 3, 0, none⟩)) ∧
      w' = ((w1.alloc (.cells #[.slice (some ⟨w.heap.size + 2, 0, none⟩) (bs.size + 4098) (bs.size + 4098), .iface 29 (.pointer (some S)), .int .i64 0, .int .i64 0, .nilIface, .int .i64 (-1), .int .i64 (-1)] 51)).alloc (.cells (madeCells #[.int .u8 0] (bs.size + 4098)) 5)).alloc
        (.cells #[.pointer (some ⟨w.heap.size + 1, 0, none⟩), .slice (some ⟨w.heap.size, 0, none⟩) (bs.size + 2) c1, .bool false, .bool false, .bool false, .nilIface, .nilIface, .slice none 0 0, .slice none 0 0, .slice none 0 0, .bool false] 39) := by
  obtain ⟨w1, c1, hcv, hs1, hb1, hd1⟩ := delim_conv bs w
  have e1 : (4096 : Int) + ((bs.size : Int) + 2) = ((bs.size + 4098 : Nat) : Int) := by omega
  have hr := newReader_any S (bs.size + 4098) w1 (by omega) (by omega)
  rw [hs1] at hr
  go_enter Ybad.func9, Ybad.ntmps9
  go_wp2_with fail
  refine hr.mono ?_
  rintro e w2 ⟨rfl, rfl⟩
  go_wp2_with fail
  go_ret
  exact ⟨w1, c1, hs1, hb1, hd1, rfl, rfl⟩
end Go.Proofs.YbulkehcaDoor
