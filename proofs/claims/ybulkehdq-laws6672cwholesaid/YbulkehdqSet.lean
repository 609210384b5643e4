/-
  zzs6672cset (function 10): a Set out of a list of pairs.
-/
import Derived.Test.YbulkehdqAdd
import Derived.Deep.RegionHeld
namespace Go.Proofs.Ybulkehdq
open Go.RowKit Go.Maps

theorem set_new (w : World) : SetM (w.alloc (.cells #[.slice none 0 0, .map none] 40)) w.heap.size w.heap.size [] none := by
  refine ⟨none, 0, fun _ => nilS, heap_new _ _, Nat.le_refl _, World.ownsRow_nil _ _ _ _, fun n _ => World.ownsRow_nil _ _ _ _, fun _ _ => Or.inl rfl, fun _ _ _ _ _ => Or.inl rfl, (show ∀ n, nilS = nilS from fun _ => rfl), (fun x hx => by simp at hx), List.Pairwise.nil⟩

theorem cellOf {B : Nat} {W w1 : World} (h : Below B W w1) {b o : Nat} {v : Value} (hb : b < B) (hc : W.cell? ⟨b, o, none⟩ = some v) : w1.cell? ⟨b, o, none⟩ = some v := by
  rw [h.cell (p := ⟨b, o, none⟩) hb]; exact hc

/-- The pairs of a slice that came in. -/
def Pairs (w : World) (a : Option Addr) (len : Nat) : Prop :=
  ∀ i, i < len → ∃ b o x y, a = some ⟨b, o, none⟩ ∧ b < w.heap.size ∧ w.cell? ⟨b, o + i * 2, none⟩ = some (.int .u8 x) ∧ w.cell? ⟨b, o + i * 2 + 1, none⟩ = some (.int .u8 y) ∧ 0 ≤ x ∧ x < 256 ∧ 0 ≤ y ∧ y < 256

theorem copy_kept {wr w1 : World} {F : Nat} {x y : Int} (hk : ∀ (k : Nat) cs t, (wr.alloc (.cells #[.int .u8 x, .int .u8 y] 62)).drew.heap[k]? = some (.cells cs t (0, 0)) → t ≠ 36 → k ≠ F → w1.heap[k]? = (wr.alloc (.cells #[.int .u8 x, .int .u8 y] 62)).drew.heap[k]?) (hF : wr.heap.size ≠ F) :
    w1.cell? ⟨wr.heap.size, 0, none⟩ = some (.int .u8 x) ∧ w1.cell? ⟨wr.heap.size, 1, none⟩ = some (.int .u8 y) := by
  have h0 : (wr.alloc (.cells #[.int .u8 x, .int .u8 y] 62)).drew.heap[wr.heap.size]? = some (.cells #[.int .u8 x, .int .u8 y] 62 (0, 0)) := heap_new _ _
  have h1 := (hk wr.heap.size _ 62 h0 (by decide) hF).trans h0
  exact ⟨by simp [World.cell?, h1], by simp [World.cell?, h1]⟩

set_option maxRecDepth 4000 in
set_option maxHeartbeats 2000000 in
theorem set_any (a : Option Addr) (len cap : Nat) (w : World) (he : Pairs w a len) (hl : len ≤ 65536) :
    Calls Yba.prog 10 #[.slice a len cap] w fun e w' => ∃ L m, e = .returned (.pointer (some ⟨w.heap.size, 0, none⟩)) ∧ SetM w' w.heap.size w.heap.size L m ∧ L.length ≤ len ∧ Below w.heap.size w w' := by
  go_enter Yba.func10, Yba.ntmps10
  go_wp2_with fail
  go_loopw [5, 10] (fun _ t wx => ∃ (k : Nat) (L : List Ent) (m : Option Nat), k ≤ len ∧ t = .int .i64 k ∧ L.length ≤ k ∧ SetM wx w.heap.size w.heap.size L m ∧ Below w.heap.size w wx) (fun _ t _ => len - (intOf t).toNat)
  case atStart => exact ⟨0, [], none, Nat.zero_le _, rfl, Nat.le_refl _, set_new w, (Below.refl _ _).alloc (Nat.le_refl _) _⟩
  case round =>
    obtain ⟨k, L, m, hk, rfl, hLk, hS, hbx⟩ := hrel
    by_cases hlt : k < len
    · obtain ⟨b, o, x, y, rfl, hbl, c0, c1, hx0, hx1, hy0, hy1⟩ := he k hlt
      have hlt' : (k : Int) < len := by omega
      have e0 := cellOf hbx hbl c0
      have e1 := cellOf hbx hbl c1
      have hxs := hbx.size
      have hbr : b < wr.heap.size := by omega
      have hS1 : SetM (wr.alloc (.cells #[.int .u8 x, .int .u8 y] 62)) w.heap.size w.heap.size L m := hS.below ((Below.refl _ _).alloc (Nat.le_refl _) _)
      have hb1 : Below w.heap.size w (wr.alloc (.cells #[.int .u8 x, .int .u8 y] 62)) := hbx.alloc hxs _
      have HS1 : Hid (SetM (wr.alloc (.cells #[.int .u8 x, .int .u8 y] 62)).drew w.heap.size w.heap.size L m) := hS1
      have hp3 : (x % 3).toNat < 3 := by omega
      have hn3 : (y % 3).toNat < 3 := by omega
      have hL1 : L.length ≤ 100000 := by omega
      have hFr : wr.heap.size ≠ w.heap.size := by
        have := (SetM.cell1 hS).2.2.1
        omega
      have HB1 : Hid (Below w.heap.size w (wr.alloc (.cells #[.int .u8 x, .int .u8 y] 62)).drew) := hb1.drew
      have HS := show Hid _ from hS
      clear he hS hS1
      go_wp2_with fail
      go_region_held (fun w' => w'.cell? ⟨wr.heap.size, 0, none⟩ = some (.int .u8 x) ∧ w'.cell? ⟨wr.heap.size, 1, none⟩ = some (.int .u8 y)) (go_keep) (first
        | (go_at_call 11; refine (pkg_any x hx0 hx1 _).mono ?_; rintro e w1 ⟨rfl, rfl⟩)
        | (go_at_call 12; refine (name_any y hy0 hy1 _).mono ?_; rintro e w1 ⟨rfl, rfl⟩)
        | (go_at_call 20; refine (add_any w.heap.size w.heap.size L m (x % 3).toNat (y % 3).toNat (wr.alloc (.cells #[.int .u8 x, .int .u8 y] 62)).drew HS1.out hp3 hn3 hL1).mono ?_; rintro e w1 ⟨rfl, L', B, hS', hL', hb', hkp⟩; obtain ⟨s0, s1⟩ := copy_kept hkp hFr))
      all_goals
        go_wp2_with fail
        go_roundw
        case rel => exact ⟨k + 1, L', some B, by omega, rfl, by omega, hS', Below.trans HB1.out hb'⟩
        case measure => simp [intOf]; omega
    · have hke : k = len := by omega
      subst hke
      clear he
      go_wp2_with fail
      go_ret
      exact ⟨L, m, rfl, hS, hLk, hbx⟩
end Go.Proofs.Ybulkehdq
