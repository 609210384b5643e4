/-
  (*bufio.Reader).Read (function 13): the buffer is empty and is filled first.
-/
import Derived.Test.YbulkehcaDoorState
namespace Go.Proofs.YbulkehcaDoor
open Go.RowKit

theorem two_heap (w : World) (nq R : Nat) (u v : Value) (b : Nat) (h : b ≠ R) : (((w.drewN nq).setCell ⟨R, 2, none⟩ u).setCell ⟨R, 3, none⟩ v).heap[b]? = w.heap[b]? := by
  rw [heap_setCell_other _ _ _ _ h, heap_setCell_other _ _ _ _ h]
  rfl
theorem fill_facts {w w1 W0 : World} {R S Bf : Nat} {x0 x1 x2 x3 x4 x5 x6 u v : Value} (h : w.heap[R]? = some (.cells #[x0, x1, x2, x3, x4, x5, x6] 51 (0, 0))) (ht : Turned [S, Bf] W0 w1) (e : W0.heap = ((w.setCell ⟨R, 2, none⟩ u).setCell ⟨R, 3, none⟩ v).heap) (hRS : R ≠ S) (hRB : R ≠ Bf) :
    w1.heap[R]? = some (.cells #[x0, x1, u, v, x4, x5, x6] 51 (0, 0)) ∧ w1.cell? ⟨R, 3, none⟩ = some v ∧ w1.cell? ⟨R, 4, none⟩ = some x4 ∧ ∀ i, w1.frozen? ⟨R, i, none⟩ = false := by
  have k1 : w1.heap[R]? = some (.cells #[x0, x1, u, v, x4, x5, x6] 51 (0, 0)) := by
    rw [ht.block R (by simp [hRS, hRB]), e]
    rw [heap_setCell_same _ R 3 #[x0, x1, u, x3, x4, x5, x6] 51 v (by rw [heap_setCell_same w R 2 _ 51 u h]; simp)]
    simp
  exact ⟨k1, by simp [World.cell?, k1], by simp [World.cell?, k1], fun i => by simp [World.frozen?, k1]⟩

theorem fill_rel {w w1 W0 : World} {R S Bf : Nat} {x0 x1 x5 x6 u v v' : Value} {A B : Obj} (h0 : Turned [R, S, Bf] w W0) (ht : Turned [S, Bf] W0 w1) (hRS : R ≠ S) (hRB : R ≠ Bf)
    (k1 : w1.heap[R]? = some (.cells #[x0, x1, u, v, .nilIface, x5, x6] 51 (0, 0))) (hb : w1.heap[Bf]? = some A) (hs : w1.heap[S]? = some B) :
    Turned [R, S, Bf] w ((w1.setCell ⟨R, 4, none⟩ .nilIface).setCell ⟨R, 3, none⟩ v') ∧ ((w1.setCell ⟨R, 4, none⟩ .nilIface).setCell ⟨R, 3, none⟩ v').heap[R]? = some (.cells #[x0, x1, u, v', .nilIface, x5, x6] 51 (0, 0)) ∧
      ((w1.setCell ⟨R, 4, none⟩ .nilIface).setCell ⟨R, 3, none⟩ v').heap[Bf]? = some A ∧ ((w1.setCell ⟨R, 4, none⟩ .nilIface).setCell ⟨R, 3, none⟩ v').heap[S]? = some B := by
  refine ⟨((h0.trans (ht.mono (by simp))).setCell _ _ (by simp)).setCell _ _ (by simp), ?_, ?_, ?_⟩
  · rw [heap_setCell_same _ R 3 #[x0, x1, u, v, .nilIface, x5, x6] 51 v' (by rw [heap_setCell_same w1 R 4 _ 51 .nilIface k1]; simp)]
    simp
  · rw [heap_setCell_other _ _ _ _ (fun e => hRB e.symm), heap_setCell_other _ _ _ _ (fun e => hRB e.symm)]; exact hb
  · rw [heap_setCell_other _ _ _ _ (fun e => hRS e.symm), heap_setCell_other _ _ _ _ (fun e => hRS e.symm)]; exact hs

set_option maxRecDepth 4000 in
set_option maxHeartbeats 1600000 in
theorem bread_fill (R S Bf Pb b o len cap kk r N m1 m : Nat) (cur pcur : Array Value) (zs : List Int) (w : World)
    (lb lr : Int) (hR : w.heap[R]? = some (.cells #[.slice (some ⟨Bf, 0, none⟩) N N, .iface 29 (.pointer (some ⟨S, 0, none⟩)), .int .i64 r, .int .i64 r, .nilIface, .int .i64 lb, .int .i64 lr] 51 (0, 0)))
    (hP : w.heap[Pb]? = some (.cells pcur 5 (0, 0))) (hps : pcur.size = 37) (hB : w.heap[Bf]? = some (.cells cur 5 (0, 0))) (hcs : cur.size = N)
    (hS : w.heap[S]? = some (.cells #[.slice (some ⟨b, o, none⟩) len cap, .int .i64 kk] 31 (0, 0)))
    (hRP : R ≠ Pb) (hRB : R ≠ Bf) (hPB : Pb ≠ Bf) (hRS : R ≠ S) (hBS : Bf ≠ S) (hPS : Pb ≠ S) (hbR : b ≠ R)
    (hlc : len ≤ cap) (hlm : len ≤ 1048576) (hN : N ≤ 2000000) (hN37 : 37 < N) (hk : kk < len) (hm1 : m1 = min (len - kk) N) (hm : m = min m1 37) (hz : zs.length = len)
    (hc : ∀ i, i < len → w.cell? ⟨b, o + i, none⟩ = some (.int .u8 (zs.getD i 0))) :
    Calls Ybad.prog 13 #[.pointer (some ⟨R, 0, none⟩), .slice (some ⟨Pb, 0, none⟩) 37 37] w fun e w' => e = .returned (.tuple #[.int .i64 m, .nilIface]) ∧
      ∃ wx lb' n, Turned [R, S, Bf] w wx ∧ wx.heap[R]? = some (.cells #[.slice (some ⟨Bf, 0, none⟩) N N, .iface 29 (.pointer (some ⟨S, 0, none⟩)), .int .i64 0, .int .i64 m1, .nilIface, .int .i64 lb, .int .i64 lr] 51 (0, 0)) ∧
        wx.heap[Bf]? = some (.cells (filled zs kk m1 cur) 5 (0, 0)) ∧ wx.heap[S]? = some (.cells #[.slice (some ⟨b, o, none⟩) len cap, .int .i64 ((kk + m1 : Nat) : Int)] 31 (0, 0)) ∧
        w' = ((((wx.setRow Pb (filled zs kk m pcur)).setCell ⟨R, 2, none⟩ (.int .i64 m)).setCell ⟨R, 5, none⟩ (.int .i64 lb')).setCell ⟨R, 6, none⟩ (.int .i64 (-1))).drewN n := by
  have c0 : w.cell? ⟨R, 0, none⟩ = some (.slice (some ⟨Bf, 0, none⟩) N N) := by simp [World.cell?, hR]
  have c1 : w.cell? ⟨R, 1, none⟩ = some (.iface 29 (.pointer (some ⟨S, 0, none⟩))) := by simp [World.cell?, hR]
  have c2 : w.cell? ⟨R, 2, none⟩ = some (.int .i64 r) := by simp [World.cell?, hR]
  have c3 : w.cell? ⟨R, 3, none⟩ = some (.int .i64 r) := by simp [World.cell?, hR]
  have c4 : w.cell? ⟨R, 4, none⟩ = some .nilIface := by simp [World.cell?, hR]
  have ff : ∀ i, w.frozen? ⟨R, i, none⟩ = false := fun i => by simp [World.frozen?, hR]
  have hN' : ¬ (N : Int) ≤ 37 := by omega
  have hna := nil_ahead
  have hme := method_read
  have hm10 : ¬ m1 = 0 := by omega
  have hm1l : m1 ≤ 1048576 := by omega
  have hSR : S ≠ R := fun e => hRS e.symm
  have hBR : Bf ≠ R := fun e => hRB e.symm
  have HR := show Hid _ from hR
  have HP := show Hid _ from hP
  have HB := show Hid _ from hB
  have HS := show Hid _ from hS
  have HM1 := show Hid _ from hm1
  have HM := show Hid _ from hm
  have HC := show Hid _ from hc
  clear hR hP hB hS hm1 hm hc
  go_enter Ybad.func13, Ybad.ntmps13
  go_wp2_with fail
  go_quiet (fail)
  go_upto_if 23 with (fail)
  go_cut [4] from 24 (fun _ wx => Turned [R, S, Bf] w wx ∧ wx.heap[R]? = some (.cells #[.slice (some ⟨Bf, 0, none⟩) N N, .iface 29 (.pointer (some ⟨S, 0, none⟩)), .int .i64 0, .int .i64 m1, .nilIface, .int .i64 lb, .int .i64 lr] 51 (0, 0)) ∧
        wx.heap[Bf]? = some (.cells (filled zs kk m1 cur) 5 (0, 0)) ∧ wx.heap[S]? = some (.cells #[.slice (some ⟨b, o, none⟩) len cap, .int .i64 ((kk + m1 : Nat) : Int)] 31 (0, 0)))
  case first =>
    go_wp2_with fail
    go_region_with (go_at_call 60; refine (cread_blocks S Bf b o len cap kk N m1 cur zs _ (by exact (two_heap _ _ _ _ _ _ (by assumption)).trans HS.out) hlc hlm hN hk (by exact (two_heap _ _ _ _ _ _ (by assumption)).trans HB.out) hBS hcs HM1.out hz (by exact fun i hi => (two_other _ _ _ _ _ _ _ (by assumption)).trans (HC.out i hi))).mono ?_; rintro e w1 ⟨rfl, ht1, hb1, hs1⟩; obtain ⟨k1, k3, k4, kf⟩ := fill_facts HR.out ht1 rfl hRS hRB)
    all_goals
      go_wp2_with fail
      go_meet
      case rel =>
        refine fill_rel ?_ ht1 hRS hRB k1 hb1 hs1
        have A := fun n => (((Turned.refl [R, S, Bf] w).drewN n).setCell ⟨R, 2, none⟩ (.int .i64 0) (by simp)).setCell ⟨R, 3, none⟩ (.int .i64 0) (by simp)
        first | exact (A _).drew | exact (A _).drewN _ | exact A _
  case rest =>
    obtain ⟨hT, hRx, hBx, hSx⟩ := hcut
    have hPx : wc.heap[Pb]? = some (.cells pcur 5 (0, 0)) := (hT.block Pb (by simp [hPB, hPS]; exact fun e => hRP e.symm)).trans HP.out
    have d0 : wc.cell? ⟨R, 0, none⟩ = some (.slice (some ⟨Bf, 0, none⟩) N N) := by simp [World.cell?, hRx]
    have d2 : wc.cell? ⟨R, 2, none⟩ = some (.int .i64 0) := by simp [World.cell?, hRx]
    have d3 : wc.cell? ⟨R, 3, none⟩ = some (.int .i64 m1) := by simp [World.cell?, hRx]
    have d5 : wc.cell? ⟨R, 5, none⟩ = some (.int .i64 lb) := by simp [World.cell?, hRx]
    have d6 : wc.cell? ⟨R, 6, none⟩ = some (.int .i64 lr) := by simp [World.cell?, hRx]
    have df : ∀ i, wc.frozen? ⟨R, i, none⟩ = false := fun i => by simp [World.frozen?, hRx]
    have hM := HM.out
    have hM1 := HM1.out
    have hz1 : kk + m1 ≤ zs.length := by omega
    have hcx : ∀ i, i < m1 → wc.cell? ⟨Bf, 0 + i, none⟩ = some (.int .u8 (zs.getD (kk + i) 0)) := fun i hi => by
      have := filled_at zs kk m1 cur i (by omega) hi
      simp only [World.cell?, hBx, Nat.zero_add, this]
      simp
    have hcp := copyOut wc Pb Bf 0 m1 N kk m pcur zs hPx hps hM hz1 hcx
    simp only [Nat.sub_zero] at hcp
    have hcd := hcp 1
    rw [show wc.drewN 1 = wc.drew from rfl, show (wc.setRow Pb (filled zs kk m pcur)).drewN 1 = (wc.setRow Pb (filled zs kk m pcur)).drew from rfl] at hcd
    have hle2 : (m1 : Int) ≤ (N : Int) := by omega
    have hN0 : ¬ N = 0 := by omega
    have hm0 : 0 < m := by omega
    have hml : m ≤ N := by omega
    have x0 := (setRow_cell_other wc Pb (filled zs kk m pcur) R 0 hRP).trans d0
    have x2 := (setRow_cell_other wc Pb (filled zs kk m pcur) R 2 hRP).trans d2
    have x5 := (setRow_cell_other wc Pb (filled zs kk m pcur) R 5 hRP).trans d5
    have x6 := (setRow_cell_other wc Pb (filled zs kk m pcur) R 6 hRP).trans d6
    have xf : ∀ i, (wc.setRow Pb (filled zs kk m pcur)).frozen? ⟨R, i, none⟩ = false := fun i => (setRow_frozen_other wc Pb (filled zs kk m pcur) R i hRP).trans (df i)
    have e1 : ((m : Int) - 1).toNat = m - 1 := by omega
    have x7 : (wc.setRow Pb (filled zs kk m pcur)).cell? ⟨Bf, m - 1, none⟩ = some (.int .u8 (zs.getD (kk + (m - 1)) 0)) := by
      rw [setRow_cell_other _ _ _ _ _ (fun e => hPB e.symm)]
      have := hcx (m - 1) (by omega)
      rwa [Nat.zero_add] at this
    have e2 : 0 ≤ (m : Int) - 1 := by omega
    have e3 : (m : Int) - 1 < N := by omega
    have HRX := show Hid _ from hRx
    have HBX := show Hid _ from hBx
    have HSX := show Hid _ from hSx
    have HT := show Hid _ from hT
    clear hM hM1 hcx hRx hBx hSx hPx hT c0 c1 c2 c3 c4 ff HR HP HB HS HM HM1 HC
    go_wp2_with fail
    go_region
    go_wp2_with fail
    go_region
    go_wp2_with fail
    go_ret2
    first | exact ⟨rfl, wc, _, 2, HT.out, HRX.out, HBX.out, HSX.out, rfl⟩ | exact ⟨rfl, wc, _, _ + 1 + 1, HT.out, HRX.out, HBX.out, HSX.out, rfl⟩
end Go.Proofs.YbulkehcaDoor
