/-
  (*bufio.Reader).Read (function 13): one contract over the reader's state.
-/
import Derived.Test.YbulkehcaDoorMore
namespace Go.Proofs.YbulkehcaDoor
open Go.RowKit

/-- The reader over 'zs': the first g bytes have been handed out. -/
def St (w : World) (R S Bf Pb N : Nat) (a : Option Addr) (len cap : Nat) (zs : List Int) (g : Nat) : Prop :=
  ∃ (r wv kk : Nat) (lb lr : Int) (cur pcur : Array Value),
    w.heap[R]? = some (.cells #[.slice (some ⟨Bf, 0, none⟩) N N, .iface 29 (.pointer (some ⟨S, 0, none⟩)), .int .i64 r, .int .i64 wv, .nilIface, .int .i64 lb, .int .i64 lr] 51 (0, 0)) ∧
    w.heap[S]? = some (.cells #[.slice a len cap, .int .i64 kk] 31 (0, 0)) ∧ w.heap[Bf]? = some (.cells cur 5 (0, 0)) ∧ w.heap[Pb]? = some (.cells pcur 5 (0, 0)) ∧
    cur.size = N ∧ pcur.size = 37 ∧ kk = g + (wv - r) ∧ r ≤ wv ∧ wv ≤ N ∧ kk ≤ len ∧ ∀ i, i < wv - r → cur[r + i]? = some (.int .u8 (zs.getD (g + i) 0))

theorem after_take {wx : World} {R Pb n : Nat} {x0 x1 x2 x3 x4 x5 x6 v2 v5 v6 : Value} {F pc : Array Value} (hR : wx.heap[R]? = some (.cells #[x0, x1, x2, x3, x4, x5, x6] 51 (0, 0))) (hP : wx.heap[Pb]? = some (.cells pc 5 (0, 0))) (hRP : R ≠ Pb) :
    (((((wx.setRow Pb F).setCell ⟨R, 2, none⟩ v2).setCell ⟨R, 5, none⟩ v5).setCell ⟨R, 6, none⟩ v6).drewN n).heap[R]? = some (.cells #[x0, x1, v2, x3, x4, v5, v6] 51 (0, 0)) ∧
    (((((wx.setRow Pb F).setCell ⟨R, 2, none⟩ v2).setCell ⟨R, 5, none⟩ v5).setCell ⟨R, 6, none⟩ v6).drewN n).heap[Pb]? = some (.cells F 5 (0, 0)) ∧
    Turned [R, Pb] wx (((((wx.setRow Pb F).setCell ⟨R, 2, none⟩ v2).setCell ⟨R, 5, none⟩ v5).setCell ⟨R, 6, none⟩ v6).drewN n) := by
  refine ⟨?_, ?_, ((((((Turned.refl _ _).setRow _ _ (by simp)).setCell _ _ (by simp)).setCell _ _ (by simp)).setCell _ _ (by simp)).drewN _)⟩
  · have y0 : (wx.setRow Pb F).heap[R]? = some (.cells #[x0, x1, x2, x3, x4, x5, x6] 51 (0, 0)) := (setRow_heap_other _ _ _ _ hRP).trans hR
    have y1 : ((wx.setRow Pb F).setCell ⟨R, 2, none⟩ v2).heap[R]? = some (.cells #[x0, x1, v2, x3, x4, x5, x6] 51 (0, 0)) := by rw [heap_setCell_same _ R 2 _ 51 v2 y0]; simp
    have y2 : (((wx.setRow Pb F).setCell ⟨R, 2, none⟩ v2).setCell ⟨R, 5, none⟩ v5).heap[R]? = some (.cells #[x0, x1, v2, x3, x4, v5, x6] 51 (0, 0)) := by rw [heap_setCell_same _ R 5 _ 51 v5 y1]; simp
    show ((((wx.setRow Pb F).setCell ⟨R, 2, none⟩ v2).setCell ⟨R, 5, none⟩ v5).setCell ⟨R, 6, none⟩ v6).heap[R]? = _
    rw [heap_setCell_same _ R 6 _ 51 v6 y2]
    simp
  · have hPR : Pb ≠ R := fun e => hRP e.symm
    show ((((wx.setRow Pb F).setCell ⟨R, 2, none⟩ v2).setCell ⟨R, 5, none⟩ v5).setCell ⟨R, 6, none⟩ v6).heap[Pb]? = _
    rw [heap_setCell_other _ _ _ _ hPR, heap_setCell_other _ _ _ _ hPR, heap_setCell_other _ _ _ _ hPR]
    exact setRow_heap _ _ _ _ _ _ hP

theorem bread (R S Bf Pb N len cap g : Nat) (a : Option Addr) (zs : List Int) (t : TypeId) (z : Addr) (w : World) (h : St w R S Bf Pb N a len cap zs g)
    (hRP : R ≠ Pb) (hRB : R ≠ Bf) (hPB : Pb ≠ Bf) (hRS : R ≠ S) (hBS : Bf ≠ S) (hPS : Pb ≠ S) (hR0 : R ≠ 0) (hg0 : w.cell? ⟨0, 0, none⟩ = some (.iface t (.pointer (some z))))
    (hab : ∀ b o sp, a = some ⟨b, o, sp⟩ → 0 < len → b ≠ R) (hby : BytesAt w a len zs) (hlc : len ≤ cap) (hlm : len ≤ 1048576) (hN : N ≤ 2000000) (hN37 : 37 < N) :
    Calls Ybad.prog 13 #[.pointer (some ⟨R, 0, none⟩), .slice (some ⟨Pb, 0, none⟩) 37 37] w fun e w' => Turned [R, S, Bf, Pb] w w' ∧
      ((g < len ∧ ∃ m, 0 < m ∧ m ≤ 37 ∧ g + m ≤ len ∧ e = .returned (.tuple #[.int .i64 (m : Nat), .nilIface]) ∧ St w' R S Bf Pb N a len cap zs (g + m) ∧ ∀ i, i < m → w'.cell? ⟨Pb, i, none⟩ = some (.int .u8 (zs.getD (g + i) 0))) ∨
       (g = len ∧ e = .returned (.tuple #[.int .i64 0, .iface t (.pointer (some z))]) ∧ St w' R S Bf Pb N a len cap zs g)) := by
  obtain ⟨r, wv, kk, lb, lr, cur, pcur, kR, kS, kB, kP, hcs, hps, hkk, hrw, hwN, hkl, hcur⟩ := h
  obtain ⟨hzl, hzr, han, hcell⟩ := hby
  by_cases hlt : r < wv
  · refine (bread_take R S Bf Pb r wv N g (min (wv - r) 37) pcur zs w lb lr kR kP hps hRP hRB hPB hlt hwN hN rfl (by omega) (fun i hi => by simp only [World.cell?, kB]; simpa using hcur i hi)).mono ?_
    rintro e w' ⟨rfl, n, lb', rfl⟩
    obtain ⟨y1, y2, y3⟩ := after_take (n := n) (v2 := .int .i64 ((r : Int) + (min (wv - r) 37 : Nat))) (v5 := .int .i64 lb') (v6 := .int .i64 (-1)) (F := filled zs g (min (wv - r) 37) pcur) kR kP hRP
    refine ⟨y3.mono (by simp), Or.inl ⟨by omega, min (wv - r) 37, by omega, by omega, by omega, rfl, ⟨r + min (wv - r) 37, wv, kk, lb', -1, cur, filled zs g (min (wv - r) 37) pcur, by rw [y1]; simp, ?_, ?_, y2, hcs, ?_, by omega, by omega, hwN, hkl, ?_⟩, ?_⟩⟩
    · rw [y3.block S (by simp; exact ⟨fun e => hRS e.symm, fun e => hPS e.symm⟩)]; exact kS
    · rw [y3.block Bf (by simp; exact ⟨fun e => hRB e.symm, fun e => hPB e.symm⟩)]; exact kB
    · rw [filled_size _ _ _ _ (by omega) (by omega)]; exact hps
    · intro i hi
      have := hcur (min (wv - r) 37 + i) (by omega)
      rw [← Nat.add_assoc, ← Nat.add_assoc] at this
      exact this
    · intro i hi
      have := filled_at zs g (min (wv - r) 37) pcur i (by omega) hi
      simp only [World.cell?, y2]
      simpa using this
  · have hrv : wv = r := by omega
    subst hrv
    have hkg : kk = g := by omega
    subst hkg
    by_cases hk : kk < len
    · obtain ⟨⟨b, o, sp⟩, rfl⟩ : ∃ x, a = some x := by
        cases a with
        | none => have := han rfl; omega
        | some x => exact ⟨x, rfl⟩
      obtain ⟨rfl, hc⟩ := hcell b o sp rfl (by omega)
      refine (bread_fill R S Bf Pb b o len cap kk wv N (min (len - kk) N) (min (min (len - kk) N) 37) cur pcur zs w lb lr kR kP hps kB hcs kS hRP hRB hPB hRS hBS hPS (hab _ _ _ rfl (by omega)) hlc hlm hN hN37 hk rfl rfl hzl hc).mono ?_
      rintro e w' ⟨rfl, wx, lb', n, hT, hRx, hBx, hSx, rfl⟩
      have hPx : wx.heap[Pb]? = some (.cells pcur 5 (0, 0)) := (hT.block Pb (by simp [hPB, hPS]; exact fun e => hRP e.symm)).trans kP
      obtain ⟨y1, y2, y3⟩ := after_take (n := n) (v2 := .int .i64 ((min (min (len - kk) N) 37 : Nat) : Int)) (v5 := .int .i64 lb') (v6 := .int .i64 (-1)) (F := filled zs kk (min (min (len - kk) N) 37) pcur) hRx hPx hRP
      refine ⟨(hT.mono (by simp)).trans (y3.mono (by simp)), Or.inl ⟨hk, min (min (len - kk) N) 37, by omega, by omega, by omega, rfl, ⟨min (min (len - kk) N) 37, min (len - kk) N, kk + min (len - kk) N, lb', -1, filled zs kk (min (len - kk) N) cur, filled zs kk (min (min (len - kk) N) 37) pcur, y1, ?_, ?_, y2, ?_, ?_, by omega, by omega, by omega, by omega, ?_⟩, ?_⟩⟩
      · rw [y3.block S (by simp; exact ⟨fun e => hRS e.symm, fun e => hPS e.symm⟩)]; exact hSx
      · rw [y3.block Bf (by simp; exact ⟨fun e => hRB e.symm, fun e => hPB e.symm⟩)]; exact hBx
      · rw [filled_size _ _ _ _ (by omega) (by omega)]; exact hcs
      · rw [filled_size _ _ _ _ (by omega) (by omega)]; exact hps
      · intro i hi
        have := filled_at zs kk (min (len - kk) N) cur (min (min (len - kk) N) 37 + i) (by omega) (by omega)
        rw [← Nat.add_assoc] at this
        exact this
      · intro i hi
        have := filled_at zs kk (min (min (len - kk) N) 37) pcur i (by omega) hi
        simp only [World.cell?, y2]
        simpa using this
    · have hkl' : kk = len := by omega
      refine (bread_eof R S Bf wv N kk len cap a (some ⟨Pb, 0, none⟩) t z w lb lr kR hg0 (by simp [World.cell?, kS]) (by simp [World.cell?, kS]) (by omega) hR0 hRS hN37).mono ?_
      rintro e w' ⟨rfl, n, rfl⟩
      have hT : Turned [R] w (((((w.setCell ⟨R, 2, none⟩ (.int .i64 0)).setCell ⟨R, 3, none⟩ (.int .i64 0)).setCell ⟨R, 4, none⟩ (.iface t (.pointer (some z)))).setCell ⟨R, 4, none⟩ .nilIface).drewN n) :=
        (((((Turned.refl _ _).setCell _ _ (by simp)).setCell _ _ (by simp)).setCell _ _ (by simp)).setCell _ _ (by simp)).drewN _
      refine ⟨hT.mono (by simp), Or.inr ⟨hkl', rfl, ⟨0, 0, kk, lb, lr, cur, pcur, ?_, ?_, ?_, ?_, hcs, hps, by omega, by omega, by omega, hkl, fun i hi => by omega⟩⟩⟩
      · have y1 : (w.setCell ⟨R, 2, none⟩ (.int .i64 0)).heap[R]? = _ := heap_setCell_same _ R 2 _ 51 _ kR
        have y2 : ((w.setCell ⟨R, 2, none⟩ (.int .i64 0)).setCell ⟨R, 3, none⟩ (.int .i64 0)).heap[R]? = _ := heap_setCell_same _ R 3 _ 51 _ y1
        have y3 : (((w.setCell ⟨R, 2, none⟩ (.int .i64 0)).setCell ⟨R, 3, none⟩ (.int .i64 0)).setCell ⟨R, 4, none⟩ (.iface t (.pointer (some z)))).heap[R]? = _ := heap_setCell_same _ R 4 _ 51 _ y2
        show ((((w.setCell ⟨R, 2, none⟩ (.int .i64 0)).setCell ⟨R, 3, none⟩ (.int .i64 0)).setCell ⟨R, 4, none⟩ (.iface t (.pointer (some z)))).setCell ⟨R, 4, none⟩ .nilIface).heap[R]? = _
        rw [heap_setCell_same _ R 4 _ 51 _ y3]
        simp
      · rw [hT.block S (by simp; exact fun e => hRS e.symm)]; exact kS
      · rw [hT.block Bf (by simp; exact fun e => hRB e.symm)]; exact kB
      · rw [hT.block Pb (by simp; exact fun e => hRP e.symm)]; exact kP
end Go.Proofs.YbulkehcaDoor
