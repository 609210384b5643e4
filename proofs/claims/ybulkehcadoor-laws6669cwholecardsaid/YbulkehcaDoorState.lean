/-
  (*bufio.Reader).Read (function 13): the buffer is filled first; the state of the reader over the calls.
-/
import Derived.Test.YbulkehcaDoorEof
namespace Go.Proofs.YbulkehcaDoor
open Go.RowKit

/-- Of the blocks that are there none but these has turned. -/
structure Turned (bs : List Nat) (w w' : World) : Prop where
  os : w'.os = w.os
  tape : w'.tape = w.tape
  output : w'.output = w.output
  size : w'.heap.size = w.heap.size
  block : ∀ k, k ∉ bs → w'.heap[k]? = w.heap[k]?

theorem Turned.refl (bs : List Nat) (w : World) : Turned bs w w := ⟨rfl, rfl, rfl, rfl, fun _ _ => rfl⟩
theorem Turned.trans {bs : List Nat} {a b c : World} (h : Turned bs a b) (k : Turned bs b c) : Turned bs a c :=
  ⟨k.os.trans h.os, k.tape.trans h.tape, k.output.trans h.output, k.size.trans h.size, fun i hi => (k.block i hi).trans (h.block i hi)⟩
theorem Turned.mono {bs cs : List Nat} {w w' : World} (h : Turned bs w w') (hb : ∀ k, k ∈ bs → k ∈ cs) : Turned cs w w' := ⟨h.os, h.tape, h.output, h.size, fun k hk => h.block k (fun e => hk (hb k e))⟩
theorem Turned.setCell {bs : List Nat} {a w : World} (h : Turned bs a w) (p : Addr) (v : Value) (hp : p.block ∈ bs) : Turned bs a (w.setCell p v) :=
  h.trans ⟨rfl, rfl, rfl, by simp [World.setCell], fun k hk => heap_setCell_other _ _ _ _ (fun e => hk (e ▸ hp))⟩
theorem Turned.setRow {bs : List Nat} {a w : World} (h : Turned bs a w) (g : Nat) (cs : Array Value) (hp : g ∈ bs) : Turned bs a (w.setRow g cs) :=
  h.trans ⟨rfl, rfl, rfl, by simp, fun k hk => setRow_heap_other _ _ _ _ (fun e => hk (e ▸ hp))⟩
theorem Turned.drewN {bs : List Nat} {a w : World} (h : Turned bs a w) (n : Nat) : Turned bs a (w.drewN n) := ⟨h.os, h.tape, h.output, h.size, h.block⟩
theorem Turned.drew {bs : List Nat} {a w : World} (h : Turned bs a w) : Turned bs a w.drew := ⟨h.os, h.tape, h.output, h.size, h.block⟩
theorem Turned.below {bs : List Nat} {w w' : World} (h : Turned bs w w') (B : Nat) (hb : ∀ k, k ∈ bs → B ≤ k) : Below B w w' :=
  ⟨h.os, h.tape, h.output, by rw [h.size]; omega, fun k hk => h.block k (fun e => by have := hb k e; omega)⟩
theorem Turned.cell {bs : List Nat} {w w' : World} (h : Turned bs w w') {p : Addr} (hp : p.block ∉ bs) : w'.cell? p = w.cell? p := World.cell?_of_block (h.block _ hp)

theorem filled_size (zs : List Int) (kk m : Nat) (cur : Array Value) (h : m ≤ zs.length - kk) (h2 : m ≤ cur.size) : (filled zs kk m cur).size = cur.size := by
  simp [filled, List.length_take, List.length_drop]
  omega
theorem filled_at (zs : List Int) (kk m : Nat) (cur : Array Value) (i : Nat) (h : m ≤ zs.length - kk) (hi : i < m) : (filled zs kk m cur)[i]? = some (.int .u8 (zs.getD (kk + i) 0)) := by
  simp only [filled, List.getElem?_toArray]
  rw [List.getElem?_append_left (by simp [List.length_take, List.length_drop]; omega), List.getElem?_map, List.getElem?_take, if_pos hi, List.getElem?_drop, List.getD, List.getElem?_eq_getElem (by omega)]
  rfl

/-- The rest of the reader's Read (60), said by blocks. -/
theorem cread_blocks (S Bf b o len cap kk N m : Nat) (cur : Array Value) (zs : List Int) (w : World)
    (hS : w.heap[S]? = some (.cells #[.slice (some ⟨b, o, none⟩) len cap, .int .i64 kk] 31 (0, 0))) (hlc : len ≤ cap) (hlm : len ≤ 1048576) (hN : N ≤ 2000000) (hk : kk < len)
    (hB : w.heap[Bf]? = some (.cells cur 5 (0, 0))) (hBS : Bf ≠ S) (hcs : cur.size = N) (hm : m = min (len - kk) N) (hz : zs.length = len)
    (hc : ∀ i, i < len → w.cell? ⟨b, o + i, none⟩ = some (.int .u8 (zs.getD i 0))) :
    Calls Ybad.prog 60 #[.pointer (some ⟨S, 0, none⟩), .slice (some ⟨Bf, 0, none⟩) N N] w fun e w' => e = .returned (.tuple #[.int .i64 m, .nilIface]) ∧
      Turned [S, Bf] w w' ∧ w'.heap[Bf]? = some (.cells (filled zs kk m cur) 5 (0, 0)) ∧ w'.heap[S]? = some (.cells #[.slice (some ⟨b, o, none⟩) len cap, .int .i64 ((kk + m : Nat) : Int)] 31 (0, 0)) := by
  refine (cread_some S Bf b o len cap kk N m cur zs w (by simp [World.cell?, hS]) (by simp [World.cell?, hS]) (by simp [World.frozen?, hS]) hlc hlm hN hk hB hBS hcs hm hz hc).mono ?_
  rintro e w' ⟨rfl, n, rfl⟩
  refine ⟨rfl, (((Turned.refl _ _).setRow _ _ (by simp)).setCell _ _ (by simp)).drewN _, ?_, ?_⟩
  · show ((w.setRow Bf (filled zs kk m cur)).setCell ⟨S, 1, none⟩ _).heap[Bf]? = _
    rw [heap_setCell_other _ _ _ _ hBS]
    exact setRow_heap w Bf _ _ _ _ hB
  · show ((w.setRow Bf (filled zs kk m cur)).setCell ⟨S, 1, none⟩ _).heap[S]? = _
    rw [heap_setCell_same _ S 1 #[.slice (some ⟨b, o, none⟩) len cap, .int .i64 kk] 31 _ (by rw [setRow_heap_other _ _ _ _ (fun e => hBS e.symm)]; exact hS)]
    simp
end Go.Proofs.YbulkehcaDoor
