/-
  LawS6669CWhole (function 5).
-/
import Derived.Test.YbulkehcaDoorSeg
namespace Go.Proofs.YbulkehcaDoor
open Go.RowKit

theorem take_delim (bs : ByteArray) (k : Nat) (h : k < bs.size) : (delim bs).take (k + 3) = (delim bs).take (k + 2) ++ [(bs[k].toNat : Int)] := by
  rw [List.take_add_one, show (delim bs)[k + 2]? = some (bs[k].toNat : Int) by
    simp only [delim, List.getElem?_cons_succ, nums]
    rw [List.getElem?_map, Array.getElem?_toList, Array.getElem?_eq_getElem (by simpa using h)]
    rfl]
  rfl

set_option maxRecDepth 4000 in
set_option maxHeartbeats 2000000 in
theorem law_small (a : Option Addr) (len cap : Nat) (xs : List Int) (bs : ByteArray) (z : Addr) (w : World) (h : BytesAt w a len xs) (hlc : len ≤ cap) (hnil : a = none → len = 0 ∧ cap = 0)
    (hg : w.cell? ⟨0, 0, none⟩ = some (.iface 82 (.pointer (some z)))) (hs : len + bs.size ≤ 1048576) :
    Calls Ybad.prog 5 #[.slice a len cap, .string bs] w fun e w' => e = .returned (.bool true) ∧ Below w.heap.size w w' := by
  have hb1 : len ≤ 1048576 := by omega
  have hb2 : bs.size ≤ 1048576 := by omega
  have hsm : (len : Int) + (bs.size : Int) ≤ 1048576 := by omega
  go_enter Ybad.func5, Ybad.ntmps5
  go_wp2_with fail
  refine (clone_any a len cap xs w h hnil hb1).mono ?_
  rintro e w2 ⟨ao, co, rfl, hio, hbo, hB2⟩
  go_wp2_with fail
  obtain ⟨D, hD⟩ : ∃ D, Hid (D = w2.heap.size + 1) := ⟨_, rfl⟩
  refine (newMulti_rel ⟨w2.heap.size, 0, none⟩ bs D (bs.size + 4098) _ hb2 (by simp; exact hD.out.symm) rfl).mono ?_
  rintro e w4 ⟨c1, rfl, hs4, hB4, hdl, kR, kB, kM⟩
  have m0 : w4.cell? ⟨D + 3, 0, none⟩ = some (.pointer (some ⟨D + 1, 0, none⟩)) := by simp [World.cell?, kM]
  have hmk : ∀ w, (Instr.makeSlice 25 (.int .i64 0) (.int .i64 ((bs.size : Int) + 2))).run Ybad.prog w = .ok (.slice (some ⟨w.heap.size, 0, none⟩) 0 (bs.size + 2)) (w.alloc (.cells (madeCells #[.int .u8 0] (bs.size + 2)) 5)) := by
    have := mk0 (bs.size + 2) (by omega)
    rwa [Int.natCast_add] at this
  have hown0 : (w4.alloc (.cells (madeCells #[.int .u8 0] (bs.size + 2)) 5)).ownsRow (D + 4) 5 1 (.slice (some ⟨D + 4, 0, none⟩) 0 (bs.size + 2)) 0 [] := by
    have := World.ownsRow_made (base := D + 4) (size := 1) (e := 5) w4 (madeCells #[.int .u8 0] (bs.size + 2)) (bs.size + 2) (by omega) (by unfold maxLen; omega) (by rw [size_madeCells]; omega)
    rwa [hs4] at this
  obtain ⟨i5, hi, hz, hsz, hby⟩ := info_parts info5
  have HKR := show Hid _ from kR
  have HKB := show Hid _ from kB
  have HKM := show Hid _ from kM
  clear kR kB kM
  go_wp2_with (first
    | (at_builtin; refine wpList_append_own _ rfl (.tmp 44) (.tmp 45) 25 rfl (D + 4) 5 i5 (.int .u8 0) 1 1 Ybad.underlying25 hi hz hsz hby rfl (by decide) _ _ _ rfl (hown0.alloc _) ⟨D + 5, 0, none⟩ 2 2 [.int .u8 45, .int .u8 45] rfl rfl (by have := cell_two_new (w4.alloc (.cells (madeCells #[.int .u8 0] (bs.size + 2)) 5)) (.int .u8 45) (.int .u8 45) 5; simpa [hs4] using this) (by simp [Value.oneCell']) (by unfold maxLen; omega) (by omega) (by simp; omega) ?_; intro v1 w5 hown1 hgrow1 hiff1; obtain ⟨a1, c2, rfl⟩ := row_shape hown1)
    | go_in)
  have hBw5 : Below (D + 4) w4 w5 := (((Below.refl (D + 4) w4).alloc (by omega) _).alloc (by simp; omega) _).grown hgrow1 (by simp; omega) (fun j hj => by have hj' : D + 4 = j := Option.some.inj hj; omega)
  have hz5 := hBw5.size
  go_loopw [8, 9] (fun t8 t9 wr => ∃ (k c8 : Nat) (a8 : Option Addr), k ≤ bs.size ∧ t9 = .int .i64 k ∧ t8 = .slice a8 (k + 2) c8 ∧ Below (D + 4) w4 wr ∧ wr.ownsRow (D + 4) 5 1 (.slice a8 (k + 2) c8) (k + 2) (((delim bs).take (k + 2)).map (Value.int .u8))) (fun _ t9 _ => bs.size - (intOf t9).toNat)
  case atStart => exact ⟨0, c2, a1, Nat.zero_le _, rfl, rfl, hBw5, hown1⟩
  case round =>
    obtain ⟨k, c8, a8, hk, rfl, rfl, hbx, hr8⟩ := hrel
    have hxs := hbx.size
    by_cases hlt : k < bs.size
    · have hlt' : (k : Int) < bs.size := by omega
      go_wp2_with (first
        | (at_builtin; refine wpList_append_own _ rfl (.tmp 53) (.tmp 57) 25 rfl (D + 4) 5 i5 (.int .u8 0) 1 1 Ybad.underlying25 hi hz hsz hby rfl (by decide) _ _ _ rfl (hr8.alloc _) ⟨wr.heap.size, 0, none⟩ 1 1 [.int .u8 (bs[k].toNat : Int)] rfl rfl (cell_one_new _ _ _) (by simp [Value.oneCell']) (by unfold maxLen; omega) (by omega) (by simp; omega) ?_; intro v3 w6 hown3 hgrow3 hiff3; obtain ⟨a3, c3, rfl⟩ := row_shape hown3)
        | go_in)
      go_roundw
      case rel =>
        refine ⟨k + 1, c3, a3, by omega, rfl, rfl, ((hbx.alloc (by omega) _).grown hgrow3 (by simp; omega) (fun j hj => (hr8.lt _ hj).1)), ?_⟩
        rw [take_delim bs k hlt, List.map_append]
        exact hown3
      case measure => simp [intOf]; omega
    · have hke : k = bs.size := by omega
      subst hke
      have kM := (hbx.block (D + 3) (by omega)).trans HKM.out
      have kR := (hbx.block (D + 1) (by omega)).trans HKR.out
      have kB := (hbx.block (D + 2) (by omega)).trans HKB.out
      have kS : wr.heap[w2.heap.size]? = some (.cells #[.slice a len cap, .int .i64 0] 31 (0, 0)) := by
        rw [hbx.block _ (by have := hD.out; omega), hB4.block _ (by have := hD.out; omega)]
        exact heap_new _ _
      have r0 : wr.cell? ⟨D + 3, 0, none⟩ = some (.pointer (some ⟨D + 1, 0, none⟩)) := by simp [World.cell?, kM]
      have r1 : wr.cell? ⟨D + 3, 1, none⟩ = some (.slice (some ⟨D, 0, none⟩) (bs.size + 2) c1) := by simp [World.cell?, kM]
      have r2 : wr.cell? ⟨D + 3, 2, none⟩ = some (.bool false) := by simp [World.cell?, kM]
      have r3 : wr.cell? ⟨D + 3, 3, none⟩ = some (.bool false) := by simp [World.cell?, kM]
      have r4 : wr.cell? ⟨D + 3, 4, none⟩ = some (.bool false) := by simp [World.cell?, kM]
      have r5 : wr.cell? ⟨D + 3, 5, none⟩ = some .nilIface := by simp [World.cell?, kM]
      have r6 : wr.cell? ⟨D + 3, 6, none⟩ = some .nilIface := by simp [World.cell?, kM]
      have r7 : wr.cell? ⟨D + 3, 7, none⟩ = some (.slice none 0 0) := by simp [World.cell?, kM]
      have r8 : wr.cell? ⟨D + 3, 8, none⟩ = some (.slice none 0 0) := by simp [World.cell?, kM]
      have r9 : wr.cell? ⟨D + 3, 9, none⟩ = some (.slice none 0 0) := by simp [World.cell?, kM]
      have r10 : wr.cell? ⟨D + 3, 10, none⟩ = some (.bool false) := by simp [World.cell?, kM]
      have s1 : wr.cell? ⟨w2.heap.size, 1, none⟩ = some (.int .i64 0) := by simp [World.cell?, kS]
      have q0 : wr.cell? ⟨D + 1, 0, none⟩ = some (.slice (some ⟨D + 2, 0, none⟩) (bs.size + 4098) (bs.size + 4098)) := by simp [World.cell?, kR]
      have q2 : wr.cell? ⟨D + 1, 2, none⟩ = some (.int .i64 0) := by simp [World.cell?, kR]
      have q3 : wr.cell? ⟨D + 1, 3, none⟩ = some (.int .i64 0) := by simp [World.cell?, kR]
      have hdl' : BytesAt wr (some ⟨D, 0, none⟩) (bs.size + 2) (delim bs) := hdl.below hbx (by omega)
      have hwn : BytesAt wr a8 (bs.size + 2) (delim bs) := by
        rw [List.take_of_length_le (by rw [delim_len]; omega)] at hr8
        exact bytes_of_row hr8 (delim_len bs) (delim_range bs)
      have esz : (4096 : Int) + ((bs.size : Int) + 2) = ((bs.size + 4098 : Nat) : Int) := by omega
      have HKR' := show Hid _ from kR
      have HKB' := show Hid _ from kB
      have HKM' := show Hid _ from kM
      have HKS' := show Hid _ from kS
      clear kR kB kM kS m0 hr8 hown1 hown0 hgrow1 hiff1
      go_wp2_with fail
      refine (equal_same (some ⟨D, 0, none⟩) a8 _ _ _ _ (delim bs) wr hdl' hwn).mono ?_
      rintro e w6 ⟨rfl, rfl⟩
      go_wp2_with fail
      refine (size_any (D + 1) _ _ _ _ q0).mono ?_
      rintro e w7 ⟨rfl, rfl⟩
      have hnq := neqNilS
      go_wp2_with fail
      refine (buffered_any (D + 1) 0 0 _ q2 q3).mono ?_
      rintro e w8 ⟨rfl, n8, rfl⟩
      have hw0 : wrap64 (0 : Int) = 0 := by first | rfl | decide +kernel | simp [wrap64]
      have hw1 : wrap64 ((0 : Int) - 0) = 0 := hw0
      have hmk2 := mk0 len (by omega)
      have hmk3 : ∀ w, (Instr.makeSlice 25 (.int .i64 37) (.int .i64 37)).run Ybad.prog w = .ok (.slice (some ⟨w.heap.size, 0, none⟩) 37 37) (w.alloc (.cells (madeCells #[.int .u8 0] 37) 5)) := run_make_row' (P := Ybad.prog) 25 5 (.int .u8 0) 1 Ybad.underlying25 info5 rfl .i64 .i64 37 (by omega) (by omega)
      go_wp2_with fail
      have hx7 := hbx.size
      have hDD := hD.out
      obtain ⟨G, hG⟩ : ∃ G, Hid (w7.heap.size = G) := ⟨_, rfl⟩
      obtain ⟨W0, hW0⟩ : ∃ W0, Hid (W0 = ((w7.drewN n8).alloc (.cells (madeCells #[.int .u8 0] len) 5)).alloc (.cells (madeCells #[.int .u8 0] 37) 5)) := ⟨_, rfl⟩
      have hbW : Below (w7.heap.size) w7 W0 := by
        rw [hW0.out]
        exact ((show Below w7.heap.size w7 (w7.drewN n8) from ⟨rfl, rfl, rfl, Nat.le_refl _, fun _ _ => rfl⟩).alloc (Nat.le_refl _) _).alloc (by simp) _
      have hsW : W0.heap.size = w7.heap.size + 2 := by rw [hW0.out]; simp
      have hB24 : Below w2.heap.size w2 w4 := ((Below.refl w2.heap.size w2).alloc (Nat.le_refl _) _).trans (hB4.mono (by omega))
      have hB2W : Below w2.heap.size w2 W0 := (hB24.trans (hbx.mono (by omega))).trans (hbW.mono (by omega))
      have hSt0 : St W0 (D + 1) w2.heap.size (D + 2) (w7.heap.size + 1) (bs.size + 4098) a len cap xs 0 := by
        refine ⟨0, 0, 0, -1, -1, madeCells #[.int .u8 0] (bs.size + 4098), madeCells #[.int .u8 0] 37, (hbW.block _ (by omega)).trans HKR'.out, (hbW.block _ (by omega)).trans HKS'.out, (hbW.block _ (by omega)).trans HKB'.out, ?_, size_madeCells _ _, size_madeCells _ _, by omega, by omega, by omega, by omega, fun i hi => by omega⟩
        rw [hW0.out]
        exact heap_at _ _ _ (by simp)
      have hrow0 : W0.ownsRow w7.heap.size 5 1 (.slice (some ⟨w7.heap.size, 0, none⟩) 0 len) 0 [] := by
        rw [hW0.out]
        exact (World.ownsRow_made (base := w7.heap.size) (size := 1) (e := 5) (w7.drewN n8) (madeCells #[.int .u8 0] len) len (Nat.le_refl _) (by unfold maxLen; omega) (by rw [size_madeCells]; omega)).alloc _
      have hM0 : W0.heap[D + 3]? = w7.heap[D + 3]? := hbW.block _ (by omega)
      have hw0' := hW0.out
      clear HKR' HKB' HKS' hmk hmk2 hmk3 r1 r2 r3 r4 r5 r6 r7 r8 r9 r10 s1 q0 q2 q3 hdl' hwn esz hnq hw0 hw1
      rw [← hw0']
      clear hw0' hW0
      go_loopw [10, 12, 13, 14, 15] (fun t10 t12 t13 _ _ wx => ∃ (i g cg : Nat) (ag : Option Addr), i ≤ g ∧ g ≤ len ∧ t13 = .int .i64 i ∧ t10 = .slice ag g cg ∧ t12 = .bool false ∧ Below w2.heap.size w2 wx ∧ Hid (wx.heap[D + 3]? = w7.heap[D + 3]?) ∧ St wx (D + 1) w2.heap.size (D + 2) (w7.heap.size + 1) (bs.size + 4098) a len cap xs g ∧
          wx.ownsRow w7.heap.size 5 1 (.slice ag g cg) g ((xs.take g).map (Value.int .u8)) ∧ Hid ((Value.slice ag g cg).ownBlock ≠ some (w7.heap.size + 1)) ∧ Hid (w7.heap.size + 2 ≤ wx.heap.size)) (fun _ _ t13 _ _ _ => len + 1 - (intOf t13).toNat)
      case atStart => exact ⟨0, 0, len, _, Nat.le_refl _, Nat.zero_le _, rfl, rfl, rfl, hB2W, hM0, hSt0, hrow0, (by intro e; simp [Value.ownBlock] at e), (by show _ ≤ _; omega)⟩
      case round =>
        obtain ⟨i, g, cg, ag, hig, hgl, rfl, rfl, rfl, hBr, HM3, hSt, hr10, Hne, Hsz⟩ := hrel
        have hby' : BytesAt wr a len xs := (h.below hB2 (Nat.le_refl _)).below hBr (Nat.le_refl _)
        have hz0 : 0 < w.heap.size := by have := World.block_lt_of_cell? w _ hg; simpa using this
        have hz2 := hB2.size
        have hgr : wr.cell? ⟨0, 0, none⟩ = some (.iface 82 (.pointer (some z))) := by
          rw [hBr.cell (by show 0 < _; omega), hB2.cell (by show 0 < _; omega)]; exact hg
        have k0 : wr.cell? ⟨D + 3, 0, none⟩ = some (.pointer (some ⟨D + 1, 0, none⟩)) := by
          have := HM3.out.trans HKM'.out
          simp [World.cell?, this]
        have hszr := Hsz.out
        have hi2 : (i : Int) ≤ (len : Int) + 2 := by omega
        have hbr := bread (D + 1) w2.heap.size (D + 2) (w7.heap.size + 1) (bs.size + 4098) len cap g a xs 82 z wr hSt (by omega) (by omega) (by omega) (by omega) (by omega) (by omega) (by omega) hgr
          (fun b o sp e hl => by
            have h1 := (h.2.2.2 b o sp e hl).2 0 hl
            have := World.block_lt_of_cell? w _ h1
            simp at this
            omega) hby' hlc hb1 (by omega) (by omega)
        have HBR := show Hid _ from hbr
        clear hbr hSt hDD
        have hq1 := eqlEof z
        have hq2 := eqlNilEof z
        go_wp2_with fail
        refine Calls.mono HBR.out ?_
        rintro e w9 ⟨hT, ⟨hlt, m, hm0, hm37, hgm, rfl, hSt, hcl⟩ | ⟨hgl2, rfl, hSt⟩⟩
        · have hm' : (m : Int) ≤ 37 := by omega
          have hT9 := hT.size
          have g9 : w9.cell? ⟨0, 0, none⟩ = some (.iface 82 (.pointer (some z))) := (hT.cell (by have := hD.out; simp; omega)).trans hgr
          have hr10' := row_turned hr10 hT (by
            intro k hk e
            have h1 := (hr10.lt _ e).1
            have := hD.out
            simp at hk
            rcases hk with rfl | rfl | rfl | rfl
            · omega
            · omega
            · omega
            · exact Hne.out e)
          have hnew : ∀ j u, (((xs.drop g).take m).map (Value.int .u8))[j]? = some u → w9.cell? ((⟨w7.heap.size + 1, 0, none⟩ : Addr).add j) = some u := by
            intro j u hj
            have hjm : j < m := by
              have := (List.getElem?_eq_some_iff.1 hj).1
              simp at this
              omega
            rw [Addr.add_lit, Nat.zero_add, hcl j hjm]
            rw [List.getElem?_map, List.getElem?_take, if_pos hjm, List.getElem?_drop] at hj
            rw [List.getD]
            have hxl := h.1
            rw [List.getElem?_eq_getElem (by omega)] at hj ⊢
            exact hj
          have hln : (((xs.drop g).take m).map (Value.int .u8)).length = m * 1 := by
            have hxl := h.1
            rw [List.length_map, List.length_take, List.length_drop]
            omega
          have hmx : g + m ≤ maxLen := by unfold maxLen; omega
          have hmb : (g + m) * 1 ≤ 140737488355328 := by omega
          have h79 : w7.heap.size ≤ w9.heap.size := by omega
          have h0n : some (⟨0, 0, none⟩ : Addr).block ≠ (Value.slice ag g cg).ownBlock := fun e => by
            have h1 : w7.heap.size ≤ 0 := (hr10.lt _ e.symm).1
            have := hD.out
            omega
          have hone : ∀ u ∈ ((xs.drop g).take m).map (Value.int .u8), u.oneCell' = true := fun v hv => by
            obtain ⟨x, _, rfl⟩ := List.mem_map.1 hv
            rfl
          clear hcl
          go_wp2_with (first
            | (at_builtin; refine wpList_append_own_at _ rfl (.tmp 163) (.tmp 166) 25 rfl w7.heap.size 5 i5 (.int .u8 0) 1 1 Ybad.underlying25 hi hz hsz hby rfl (by decide) _ _ _ rfl hr10' ⟨w7.heap.size + 1, 0, none⟩ m 37 (((xs.drop g).take m).map (Value.int .u8)) rfl hln hnew hone hmx hmb h79 ?_; intro v11 w11 hown11 hgrow11 hiff11 hat11; obtain ⟨a11, c11, rfl⟩ := row_shape hown11; have g11 : w11.cell? ⟨0, 0, none⟩ = some (.iface 82 (.pointer (some z))) := hgrow11.cell g9 h0n)
            | go_in)
          go_roundw
          case rel =>
            have hDD := hD.out
            have hPn : some (w7.heap.size + 1) ≠ (Value.slice ag g cg).ownBlock := fun e => Hne.out e.symm
            have hlow : ∀ k, k < w7.heap.size → some k ≠ (Value.slice ag g cg).ownBlock := fun k hk e => by
              have := (hr10.lt _ e.symm).1
              omega
            refine ⟨i + 1, g + m, c11, a11, by omega, hgm, rfl, rfl, rfl, ?_, ?_, ?_, ?_, ?_, ?_⟩
            · exact (hBr.trans (hT.below _ (by intro k hk; simp at hk; omega))).grown hgrow11 (by omega) (fun k e => by have := (hr10.lt _ e).1; omega)
            · show w11.heap[D + 3]? = w7.heap[D + 3]?
              rw [hgrow11.block _ (by omega) (hlow _ (by omega)), hT.block _ (by simp; omega)]
              exact HM3.out
            · exact hSt.kept (hgrow11.block _ (by omega) (hlow _ (by omega))) (hgrow11.block _ (by omega) (hlow _ (by omega))) (hgrow11.block _ (by omega) (hlow _ (by omega))) (hgrow11.block _ (by omega) hPn)
            · rw [List.take_add, List.map_append]
              exact hown11
            · intro e
              rcases hat11 with e1 | e1
              · exact Hne.out (e1.symm.trans e)
              · rw [e1] at e
                injection e with e
                omega
            · show _ ≤ _
              have := hgrow11.size
              omega
          case measure => simp [intOf]; omega
        · subst hgl2
          have hT9 := hT.size
          have g9 : w9.cell? ⟨0, 0, none⟩ = some (.iface 82 (.pointer (some z))) := (hT.cell (by have := hD.out; simp; omega)).trans hgr
          have hr10' := row_turned hr10 hT (by
            intro k hk e
            have h1 := (hr10.lt _ e).1
            have := hD.out
            simp at hk
            rcases hk with rfl | rfl | rfl | rfl
            · omega
            · omega
            · omega
            · exact Hne.out e)
          have hnew : ∀ j u, ([] : List Value)[j]? = some u → w9.cell? ((⟨w7.heap.size + 1, 0, none⟩ : Addr).add j) = some u := by
            intro j u hj
            simp at hj
          have hmx : g + 0 ≤ maxLen := by unfold maxLen; omega
          have hmb : (g + 0) * 1 ≤ 140737488355328 := by omega
          have h79 : w7.heap.size ≤ w9.heap.size := by omega
          have h0n : some (⟨0, 0, none⟩ : Addr).block ≠ (Value.slice ag g cg).ownBlock := fun e => by
            have h1 : w7.heap.size ≤ 0 := (hr10.lt _ e.symm).1
            have := hD.out
            omega
          go_wp2_with (first
            | (at_builtin; refine wpList_append_own_at _ rfl (.tmp 163) (.tmp 166) 25 rfl w7.heap.size 5 i5 (.int .u8 0) 1 1 Ybad.underlying25 hi hz hsz hby rfl (by decide) _ _ _ rfl hr10' ⟨w7.heap.size + 1, 0, none⟩ 0 37 [] rfl rfl hnew (by simp) hmx hmb h79 ?_; intro v11 w11 hown11 hgrow11 hiff11 hat11; obtain ⟨a11, c11, rfl⟩ := row_shape hown11; have g11 : w11.cell? ⟨0, 0, none⟩ = some (.iface 82 (.pointer (some z))) := hgrow11.cell g9 h0n)
            | fail)
          have hB11 : Below w2.heap.size w2 w11 := (hBr.trans (hT.below _ (by have hDD := hD.out; intro k hk; simp at hk; omega))).grown hgrow11 (by have hDD := hD.out; omega) (fun k e => by have hDD := hD.out; have := (hr10.lt _ e).1; omega)
          have hbd : BytesAt w11 a g xs := (h.below hB2 (Nat.le_refl _)).below hB11 (Nat.le_refl _)
          have hbo' : BytesAt w11 ao g xs := hbo.below hB11 (Nat.le_refl _)
          have hbg : BytesAt w11 a11 g xs := by
            rw [List.append_nil, List.take_of_length_le (by have := h.1; omega)] at hown11
            exact bytes_of_row hown11 h.1 h.2.1
          refine (equal_same a11 a _ _ _ _ xs w11 hbg hbd).mono ?_
          rintro e w12 ⟨rfl, rfl⟩
          go_wp2_with fail
          refine (equal_same a ao _ _ _ _ xs _ hbd hbo').mono ?_
          rintro e w13 ⟨rfl, rfl⟩
          have hqs := eqlNilS
          go_wp2_with fail
          go_ret
          exact ⟨by simp, hB2.trans (hB11.mono hz2)⟩

set_option maxRecDepth 4000 in
set_option maxHeartbeats 400000 in
theorem law_big (a : Option Addr) (len cap : Nat) (bs : ByteArray) (w : World) (h1 : len ≤ 281474976710656) (h2 : bs.size ≤ 281474976710656) (hs : 1048576 < len + bs.size) :
    Calls Ybad.prog 5 #[.slice a len cap, .string bs] w fun e w' => e = .returned (.bool true) ∧ Below w.heap.size w w' := by
  have hsm : (1048576 : Int) < (len : Int) + (bs.size : Int) := by omega
  go_enter Ybad.func5, Ybad.ntmps5
  go_wp2_with fail
  go_ret
  exact ⟨rfl, Below.refl _ _⟩

theorem law_any (a : Option Addr) (len cap : Nat) (xs : List Int) (bs : ByteArray) (z : Addr) (w : World) (h : BytesAt w a len xs) (hlc : len ≤ cap) (hnil : a = none → len = 0 ∧ cap = 0)
    (hg : w.cell? ⟨0, 0, none⟩ = some (.iface 82 (.pointer (some z)))) (h1 : len ≤ 281474976710656) (h2 : bs.size ≤ 281474976710656) :
    Calls Ybad.prog 5 #[.slice a len cap, .string bs] w fun e w' => e = .returned (.bool true) ∧ Below w.heap.size w w' := by
  by_cases hs : len + bs.size ≤ 1048576
  · exact law_small a len cap xs bs z w h hlc hnil hg hs
  · exact law_big a len cap bs w h1 h2 (by omega)
end Go.Proofs.YbulkehcaDoor
