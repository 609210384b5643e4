/-
  LawS6668CWhole, its first part: the map and the law's own lists are filled (regions 11 to 32).
-/
import Derived.Test.YbulkehbmDoorSegB
import Derived.Test.YbulkehbmDoorLists2
import Derived.OneCell
namespace Go.Proofs.YbulkehbmDoor
open Go.RowKit Go.Maps

/-- The map and the two rows, as the loop over the entries leaves them: base: the first block of the call's own. -/
structure Filled (base : Nat) (w : World) (m : Option Nat) (n : Nat) (v20 v21 : Value) (L : List Ent) : Prop where
  len : L.length = n
  at_ : MapAt w m L
  once : Once L
  wf : ∀ x ∈ L, (Lit.int .u64 x.1).wf = true
  row1 : w.ownsRow base 25 1 v20 n (keysOf L)
  row2 : w.ownsRow base 51 2 v21 n (valsOf L)

set_option maxHeartbeats 1000000 in
set_option maxRecDepth 1000000 in
theorem seg1 (a0 : Option Addr) (len cap Nw Nt : Nat) (nm : Bool) (kp wl ex a b c d p : Int) (z : Addr) {s3 s4 s5 s6 s7 s8 s9 s10 s11 s12 s13 s14 s17 s20 s21 s22 s23 s24 s25 s26 s27 s28 s29 s30 s31 s32 s33 s34 s35 s36 s37 s38 s39 s40 s41 s42 s43 s44 s45 s46 s47 s48 s49 s50 s51 s52 s53 s54 s55 s56 s57 s58 s59 s60 s61 s62 s63 s64 s65 s66 s67 s68 s69 s70 s71 s72 s73 s74 s75 s76 s77 s78 s79 s80 s81 s82 s83 s84 s85 s86 s87 s88 s89 s90 s91 s92 s93 s94 s95 s96 s97 s98 s99 s100 s101 s102 s103 s104 s105 s106 s107 s108 s109 s110 s111 s112 s113 s114 s115 s116 s117 s118 s119 s120 s121 s122 s123 s124 s125 s126 s127 s128 s129 s130 s131 s132 s133 s134 s135 s136 s137 s138 s139 s140 s141 s142 s143 s144 s145 s146 s147 s148 s149 s150 s151 s152 s153 s154 s155 s156 s157 s158 s159 s160 s161 s162 s163 s164 s165 s166 s167 s168 s169 s170 s171 s172 s173 s174 s175 s176 s177 s178 s179 s180 s181 s182 s183 s184 s185 s186 s187 s188 s189 s190 s191 s192 s193 s194 s195 s196 s197 s198 s199 s200 s201 s202 s203 s204 s205 s206 s207 s208 s209 s210 s211 s212 s213 s214 s215 s216 s217 s218 s219 s220 s221 s222 s223 s224 s225 s226 s227 s228 s229 s230 s231 s232 s233 s234 s235 s236 s237 s238 s239 s240 s241 s242 s243 s244 s245 s246 s247 s248 s249 s250 s251 s252 s253 s254 s255 s256 s257 s258 s259 s260 s261 s262 s263 s264 s265 s266 s267 s268 s269 s270 s271 s272 s273 s274 s275 s276 s277 s278 s279 : Value} (W w : World)
    (hbel : Below W.heap.size W w) (hlen : len ≤ 4096)
    (hent : ∀ k, k < len → ∃ eb eo x y z, a0 = some ⟨eb, eo, none⟩ ∧ eb < W.heap.size ∧ W.cell? ⟨eb, eo + k * 3, none⟩ = some (.int .u64 x) ∧ W.cell? ⟨eb, eo + k * 3 + 1, none⟩ = some (.int .i64 y) ∧ W.cell? ⟨eb, eo + k * 3 + 2, none⟩ = some (.int .i64 z) ∧ (Lit.int .u64 x).wf = true)
    (ha : Byte a) (hb : Byte b) (hc : Byte c) (hd : Byte d) (hp : 0 ≤ p ∧ p < 65536) (h0 : 0 ≤ wl) (h1 : wl < 1073741824)
    (hg : w.cell? ⟨0, 0, none⟩ = some (.pointer (some z)))
    (hw0 : w.cell? ⟨Nw, 0, none⟩ = some (.int .u64 wl)) (hw1 : w.cell? ⟨Nw, 1, none⟩ = some (.int .i64 ex)) (hw2 : w.cell? ⟨Nw, 2, none⟩ = some (.pointer none))
    (ht0 : w.cell? ⟨Nt, 0, none⟩ = some (.int .u64 0)) (ht1 : w.cell? ⟨Nt, 1, none⟩ = some (.int .u64 (loSum a b c d))) (ht2 : w.cell? ⟨Nt, 2, none⟩ = some (.pointer (some z))) (ht3 : w.cell? ⟨Nt, 3, none⟩ = some (.int .u16 p)) :
    Code.wp Ybad.prog ((Ybad.f3.body.bind (suffixAt 11)).getD .skip) (bodyPost Ybad.prog Ybad.f3 fun e w' => e = .returned (.bool true) ∧ Below W.heap.size W w') ⟨List.toArray (.slice a0 len cap :: .bool nm :: .int .i64 kp :: s3 :: s4 :: s5 :: s6 :: s7 :: s8 :: s9 :: s10 :: s11 :: s12 :: s13 :: s14 :: .pointer (some ⟨Nw, 0, none⟩) :: .int .i64 (nanoOf wl ex) :: s17 :: .pointer (some ⟨Nt, 0, none⟩) :: .int .u64 (keySum a b c d p) :: s20 :: s21 :: s22 :: s23 :: s24 :: s25 :: s26 :: s27 :: s28 :: s29 :: s30 :: s31 :: s32 :: s33 :: s34 :: s35 :: s36 :: s37 :: s38 :: s39 :: s40 :: s41 :: s42 :: s43 :: s44 :: s45 :: s46 :: s47 :: s48 :: s49 :: s50 :: s51 :: s52 :: s53 :: s54 :: s55 :: s56 :: s57 :: s58 :: s59 :: s60 :: s61 :: s62 :: s63 :: s64 :: s65 :: s66 :: s67 :: s68 :: s69 :: s70 :: s71 :: s72 :: s73 :: s74 :: s75 :: s76 :: s77 :: s78 :: s79 :: s80 :: s81 :: s82 :: s83 :: s84 :: s85 :: s86 :: s87 :: s88 :: s89 :: s90 :: s91 :: s92 :: s93 :: s94 :: s95 :: s96 :: s97 :: s98 :: s99 :: s100 :: s101 :: s102 :: s103 :: s104 :: s105 :: s106 :: s107 :: s108 :: s109 :: s110 :: s111 :: s112 :: s113 :: s114 :: s115 :: s116 :: s117 :: s118 :: s119 :: s120 :: s121 :: s122 :: s123 :: s124 :: s125 :: s126 :: s127 :: s128 :: s129 :: s130 :: s131 :: s132 :: s133 :: s134 :: s135 :: s136 :: s137 :: s138 :: s139 :: s140 :: s141 :: s142 :: s143 :: s144 :: s145 :: s146 :: s147 :: s148 :: s149 :: s150 :: s151 :: s152 :: s153 :: s154 :: s155 :: s156 :: s157 :: s158 :: s159 :: s160 :: s161 :: s162 :: s163 :: s164 :: s165 :: s166 :: s167 :: s168 :: s169 :: s170 :: s171 :: s172 :: s173 :: s174 :: s175 :: s176 :: s177 :: s178 :: s179 :: s180 :: s181 :: s182 :: s183 :: s184 :: s185 :: s186 :: s187 :: s188 :: s189 :: s190 :: s191 :: s192 :: s193 :: s194 :: s195 :: s196 :: s197 :: s198 :: s199 :: s200 :: s201 :: s202 :: s203 :: s204 :: s205 :: s206 :: s207 :: s208 :: s209 :: s210 :: s211 :: s212 :: s213 :: s214 :: s215 :: s216 :: s217 :: s218 :: s219 :: s220 :: s221 :: s222 :: s223 :: s224 :: s225 :: s226 :: s227 :: s228 :: s229 :: s230 :: s231 :: s232 :: s233 :: s234 :: s235 :: s236 :: s237 :: s238 :: s239 :: s240 :: s241 :: s242 :: s243 :: s244 :: s245 :: s246 :: s247 :: s248 :: s249 :: s250 :: s251 :: s252 :: s253 :: s254 :: s255 :: s256 :: s257 :: s258 :: s259 :: s260 :: s261 :: s262 :: s263 :: s264 :: s265 :: s266 :: s267 :: s268 :: s269 :: s270 :: s271 :: s272 :: s273 :: s274 :: s275 :: s276 :: s277 :: s278 :: s279 :: []), []⟩ w := by
  obtain ⟨i25, hi1, hz1, hs1, hb1⟩ := info_parts info25
  obtain ⟨i51, hi2, hz2, hs2, hb2⟩ := info_parts info51
  have hmm := @run_makeMap Ybad.prog
  have hWw : W.heap.size ≤ w.heap.size := hbel.size
  conv => arg 2; whnf
  go_upto_if 88 with fail
  go_cut [20, 21, 22] from 39 (fun t20 t21 t22 wx => ∃ (n : Nat) (a20 a21 : Option Addr) (c20 c21 : Nat) (m : Option Nat) (L : List Ent), t20 = .slice a20 n c20 ∧ t21 = .slice a21 n c21 ∧ t22 = .map m ∧ n ≤ 4200 ∧ Hid (m.isNone = nm) ∧ Hid (∀ B, m = some B → w.heap.size ≤ B) ∧ Below w.heap.size w wx ∧ Filled w.heap.size wx m n (.slice a20 n c20) (.slice a21 n c21) L)
  case first =>
    cases nm with
    | true =>
      go_wp2_with fail
      go_meet
      case rel => exact ⟨0, none, none, 0, 0, none, [], rfl, rfl, rfl, by omega, rfl, fun B hB => (by cases hB), Below.refl _ _, rfl, rfl, List.Pairwise.nil, by simp, World.ownsRow_nil _ _ _ _, World.ownsRow_nil _ _ _ _⟩
    | false =>
      go_wp2_with fail
      go_loopw [20, 21, 92] (fun t20 t21 t wx => ∃ (k n : Nat) (a20 a21 : Option Addr) (c20 c21 : Nat) (L : List Ent) (D : DataW (Int × Int)), k ≤ len ∧ t = .int .i64 k ∧ n ≤ k ∧ t20 = .slice a20 n c20 ∧ t21 = .slice a21 n c21 ∧ Hid (L.length = n) ∧ wx.ownsMap Ybad.prog 25 ofOwed w.heap.size k D ∧ Tie D L ∧ Once L ∧
          (∀ x ∈ L, (Lit.int .u64 x.1).wf = true) ∧ wx.ownsRow (w.heap.size + 1) 25 1 (.slice a20 n c20) n (keysOf L) ∧ wx.ownsRow (w.heap.size + 1) 51 2 (.slice a21 n c21) n (valsOf L) ∧ Below w.heap.size w wx)
        (fun _ _ t _ => len - (intOf t).toNat)
      case atStart => exact ⟨0, 0, none, none, 0, 0, [], .map [], Nat.zero_le _, rfl, Nat.le_refl _, rfl, rfl, rfl, World.ownsMap_made _ _ _ _, Tie.empty, List.Pairwise.nil, by simp, World.ownsRow_nil _ _ _ _, World.ownsRow_nil _ _ _ _, (Below.refl _ _).alloc (Nat.le_refl _) _⟩
      case round =>
        obtain ⟨k, n, a20, a21, c20, c21, L, D, hk, rfl, hnk, rfl, rfl, HN, hown, hT, ho, hwf, hr1, hr2, hbr⟩ := hrel
        by_cases hlt : k < len
        · obtain ⟨eb, eo, x, y, zz, rfl, hel, e1, e2, e3, hwx⟩ := hent k hlt
          have hbW : Below W.heap.size W wr := hbel.trans (hbr.mono hWw)
          have q1 := cellIn hbW hel e1
          have q2 := cellIn hbW hel e2
          have q3 := cellIn hbW hel e3
          obtain ⟨N, hN⟩ : ∃ N, wr.heap.size = N := ⟨_, rfl⟩
          have hBN : w.heap.size < N := hN ▸ hown.lt
          have hebN : eb < N := by omega
          obtain ⟨lv, hlv⟩ : ∃ lv, wrap64 (nanoOf wl ex - wrap64 (zz * 10000000000)) = lv := ⟨_, rfl⟩
          go_wp2_with (first
            | (at_mapUpdate; refine wpList_mapUpdate_own _ rfl _ _ _ 49 rfl 25 51 law25 Ybad.underlying49 _ w.heap.size k D rfl ((hown.alloc _).alloc _) (by unfold maxLen; omega) _ _ _ rfl rfl (keyOf_int_mk Ybad.underlying25 hwx) _ [] (ofOwed_mk _ _) ?_; intro w2 hown2 hg2)
            | go_in)
          have hgA := ((World.grownBy_alloc wr (.cells #[.int .u64 x, .int .i64 y, .int .i64 zz] 33) (some w.heap.size)).trans (World.grownBy_alloc _ (.cells #[.int .i64 y, .int .i64 lv] 51) (some w.heap.size))).trans hg2
          have hsz2 : N + 2 ≤ w2.heap.size := by have := hg2.size; simp [hN] at this; exact this
          have p0 : w2.cell? ⟨N, 0, none⟩ = some (.int .u64 x) := hg2.cell (a := ⟨N, 0, none⟩) (by subst hN; simp) (fun e => by have := Option.some.inj e; simp at this; omega)
          have p1 : w2.cell? ⟨N + 1, 0, none⟩ = some (.int .i64 y) := hg2.cell (a := ⟨N + 1, 0, none⟩) (by subst hN; simp) (fun e => by have := Option.some.inj e; simp at this; omega)
          have p2 : w2.cell? ⟨N + 1, 1, none⟩ = some (.int .i64 lv) := hg2.cell (a := ⟨N + 1, 1, none⟩) (by subst hN; simp) (fun e => by have := Option.some.inj e; simp at this; omega)
          have hr1' := hr1.kept hgA (Or.inr (fun e => row_map_apart hr1 hown e.symm))
          have hr2' := hr2.kept hgA (Or.inr (fun e => row_map_apart hr2 hown e.symm))
          have hbw2 : Below w.heap.size w w2 := hbr.grown hgA hbr.size (fun j hj => by cases hj; exact Nat.le_refl _)
          have hT2 := hT.put x (y, lv)
          have ho2 := once_upd x (y, lv) ho
          have hwf2 : ∀ e ∈ upd x (y, lv) L, (Lit.int .u64 e.1).wf = true := fun e he => by
            rcases mem_upd he with h | h
            · rw [h]; exact hwx
            · exact hwf e h
          have hl1 : ∀ g, (Value.slice a20 n c20).ownBlock = some g → g < N := fun g hg => hN ▸ (hr1.lt g hg).2
          have hl2 : ∀ g, (Value.slice a21 n c21).ownBlock = some g → g < N := fun g hg => hN ▸ (hr2.lt g hg).2
          clear hg2 hgA hr1 hr2 hown hT hbr hbW q1 q2 q3 hN hwf hlv
          go_loopw [26, 27, 110] (fun t26 _ t wx => ∃ (j q : Nat), j ≤ n ∧ t = .int .i64 j ∧ t26 = .bool false ∧ (∀ i, i < j → (L.getD i E0).1 ≠ x) ∧ wx = w2.drewN q) (fun _ _ t _ => n - (intOf t).toNat)
          case atStart => exact ⟨0, 0, Nat.zero_le _, rfl, rfl, fun i hi => absurd hi (Nat.not_lt_zero _), rfl⟩
          case round =>
            obtain ⟨j, q, hj, rfl, rfl, hmiss, rfl⟩ := hrel
            by_cases hjn : j < n
            · obtain ⟨g1, cur1, rfl, hg1, hW1⟩ := row_some hr1' (by omega)
              have r1 := keys_cells hr1' HN.out.symm hjn
              have hG1 : g1 < w2.heap.size := (Array.getElem?_eq_some_iff.1 hg1).1
              obtain ⟨kk, hkk⟩ : ∃ kk, (L.getD j E0).1 = kk := ⟨_, rfl⟩
              rw [hkk] at r1
              have HK : Hid ((L.getD j E0).1 = kk) := hkk
              clear hkk
              by_cases hit : kk = x
              · subst hit
                obtain ⟨g2, cur2, rfl, hg2, hW2⟩ := row_some hr2' (by omega)
                obtain ⟨r2, r3⟩ := vals_cells hr2' HN.out.symm hjn
                have f2 := row_frozen hg2 (j * 2)
                have f3 := row_frozen hg2 (j * 2 + 1)
                obtain ⟨ck, hck⟩ : ∃ ck, (L.getD j E0).2.1 = ck := ⟨_, rfl⟩
                obtain ⟨lk, hlk⟩ : ∃ lk, (L.getD j E0).2.2 = lk := ⟨_, rfl⟩
                rw [hck] at r2
                rw [hlk] at r3
                clear hck hlk
                go_wp2_with fail
                go_quiet (fail)
                go_wp2_with fail
                go_roundw
                case rel =>
                  obtain ⟨_, hu2⟩ := upd_hit (by rw [HN.out]; exact hjn) hmiss HK.out
                  have hu := hu2 (y, lv)
                  rw [hu] at hT2 ho2 hwf2
                  have hB2 : w.heap.size ≠ g2 := by omega
                  have h12 : ∀ o, (Value.slice (some ⟨g1, 0, none⟩) n c20).ownBlock ≠ some (⟨g2, o, none⟩ : Addr).block := fun o e => by
                    rcases rows_apart hr1' hr2' (by decide) with h | h
                    · cases h
                    · exact h e
                  have hx2 := row_store (row_store hr2' (j * 2) (.int .i64 y)) (j * 2 + 1) (.int .i64 lv)
                  rw [valsOf_set kk y lv (by rw [HN.out]; exact hjn)] at hx2
                  have hx1 := ownsRow_setCell_other (ownsRow_setCell_other hr1' (h12 (j * 2)) (.int .i64 y)) (h12 (j * 2 + 1)) (.int .i64 lv)
                  rw [← keysOf_set (y, lv) (by rw [HN.out]; exact hjn) HK.out] at hx1
                  have hxm := (hown2.setCell (a := ⟨g2, j * 2, none⟩) hB2 (.int .i64 y)).setCell (a := ⟨g2, j * 2 + 1, none⟩) hB2 (.int .i64 lv)
                  have hxb := (hbw2.setCell (p := ⟨g2, j * 2, none⟩) (by simp; omega) (.int .i64 y)).setCell (p := ⟨g2, j * 2 + 1, none⟩) (by simp; omega) (.int .i64 lv)
                  first
                    | exact ⟨k + 1, n, some ⟨g1, 0, none⟩, some ⟨g2, 0, none⟩, c20, c21, L.set j (kk, (y, lv)), D.put (.int .u64 kk) (.held (y, lv)), by omega, by go_num, by omega, rfl, rfl, by show _ = _; rw [List.length_set]; exact HN.out, hxm, hT2, ho2, hwf2, hx1, hx2, below_drewN hxb _⟩
                    | ((repeat apply Exists.intro); exact ⟨⟨k + 1, n, some ⟨g1, 0, none⟩, some ⟨g2, 0, none⟩, c20, c21, L.set j (kk, (y, lv)), D.put (.int .u64 kk) (.held (y, lv)), by omega, by go_num, by omega, rfl, rfl, by show _ = _; rw [List.length_set]; exact HN.out, hxm, hT2, ho2, hwf2, hx1, hx2, below_drewN hxb _⟩, rfl⟩)
                case measure => simp [intOf]; omega
              · go_wp2_with fail
                go_quiet (fail)
                go_wp2_with fail
                go_roundw
                case rel =>
                  refine ⟨j + 1, _, by omega, by go_num, rfl, fun i hi => ?_, rfl⟩
                  by_cases e : i = j
                  · subst e; rw [HK.out]; exact hit
                  · exact hmiss i (by omega)
                case measure => simp [intOf]; omega
            · obtain ⟨_, hu2⟩ := upd_miss (k := x) (L := L) (fun i hi => hmiss i (by have := HN.out; omega))
              have hu := hu2 (y, lv)
              rw [hu] at hT2 ho2 hwf2
              clear hu hu2 hmiss
              go_wp2_with (first
                | (at_builtin; refine wpList_append_own _ rfl (.tmp 127) (.tmp 130) 47 rfl (w.heap.size + 1) 25 i25 (.int .u64 0) 1 8 Ybad.underlying47 hi1 hz1 hs1 hb1 rfl (by decide) (.slice a20 n c20) n (keysOf L) rfl (World.ownsRow.alloc (show (w2.drewN _).ownsRow (w.heap.size + 1) 25 1 (.slice a20 n c20) n (keysOf L) from hr1') _) ⟨w2.heap.size, 0, none⟩ 1 1 [.int .u64 x] rfl rfl (cell_one_new _ _ _) (by simp [Value.oneCell']) (by unfold maxLen; omega) (by omega) (by simp; omega) ?_; intro v1 w3 hown3 hgrow3 hiff3; obtain ⟨a1, c1, rfl⟩ := row_shape hown3; have hz3 : w2.heap.size + 1 ≤ w3.heap.size := (by have := hgrow3.size; simpa using this); have pp1 := hgrow3.cell (a := ⟨N + 1, 0, none⟩) ((World.cell?_alloc_past _ _ _ (by show N + 1 < w2.heap.size; omega)).trans p1) (fun e => by have := hl1 _ e.symm; simp at this; omega); have pp2 := hgrow3.cell (a := ⟨N + 1, 1, none⟩) ((World.cell?_alloc_past _ _ _ (by show N + 1 < w2.heap.size; omega)).trans p2) (fun e => by have := hl1 _ e.symm; simp at this; omega); have hr3 := World.ownsRow.kept (World.ownsRow.alloc (show (w2.drewN q).ownsRow (w.heap.size + 1) 51 2 (.slice a21 n c21) n (valsOf L) from hr2') (.cells #[.int .u64 x] 25)) hgrow3 (rows_apart hr2' hr1' (by decide)))
                | (at_builtin; refine wpList_append_own _ rfl (.tmp 132) (.tmp 134) 48 rfl (w.heap.size + 1) 51 i51 (.agg #[.int .i64 0, .int .i64 0]) 2 16 Ybad.underlying48 hi2 hz2 hs2 hb2 rfl (by decide) (.slice a21 n c21) n (valsOf L) rfl (hr3.alloc _) ⟨w3.heap.size, 0, none⟩ 1 1 [.int .i64 y, .int .i64 lv] rfl rfl (cell_two_new _ _ _ _) (by simp [Value.oneCell']) (by unfold maxLen; omega) (by omega) (by simp; omega) ?_; intro v2 w4 hown4 hgrow4 hiff4; obtain ⟨a2, c2, rfl⟩ := row_shape hown4)
                | go_in)
              go_roundw
              case rel =>
                have hgw3 := (World.grownBy_alloc (w2.drewN q) (.cells #[.int .u64 x] 25) (Value.slice a20 n c20).ownBlock).trans hgrow3
                have hgw4 := (World.grownBy_alloc w3 (.cells #[.int .i64 y, .int .i64 lv] 51) (Value.slice a21 n c21).ownBlock).trans hgrow4
                have hom3 := World.ownsMap.kept (show (w2.drewN q).ownsMap Ybad.prog 25 ofOwed w.heap.size (k + 1) _ from hown2) hgw3 (row_map_apart hr1' hown2)
                have hom4 := hom3.kept hgw4 (row_map_apart hr3 hom3)
                have hx1 := hown3.kept hgw4 (rows_apart hown3 hr3 (by decide))
                rw [← keysOf_snoc L (x, (y, lv))] at hx1
                have hx2 := hown4
                rw [← valsOf_snoc L (x, (y, lv))] at hx2
                have hxb := ((below_drewN hbw2 q).grown hgw3 (by show w.heap.size ≤ w2.heap.size; omega) (fun j hj => by have := (hr1'.lt j hj).1; omega)).grown hgw4 (by omega) (fun j hj => by have := (hr3.lt j hj).1; omega)
                first
                  | exact ⟨k + 1, n + 1, a1, a2, c1, c2, L ++ [(x, (y, lv))], D.put (.int .u64 x) (.held (y, lv)), by omega, by go_num, by omega, rfl, rfl, by show _ = _; simp [HN.out], hom4, hT2, ho2, hwf2, hx1, hx2, hxb⟩
                  | ((repeat apply Exists.intro); exact ⟨⟨k + 1, n + 1, a1, a2, c1, c2, L ++ [(x, (y, lv))], D.put (.int .u64 x) (.held (y, lv)), by omega, by go_num, by omega, rfl, rfl, by show _ = _; simp [HN.out], hom4, hT2, ho2, hwf2, hx1, hx2, hxb⟩, rfl⟩)
              case measure => simp [intOf]; omega
        · go_wp2_with fail
          go_meet
          case rel =>
            exact ⟨n, a20, a21, c20, c21, some w.heap.size, L, rfl, rfl, rfl, by omega, rfl, fun B hB => by cases hB; exact Nat.le_refl _, hbr, HN.out, ⟨k, D, by omega, hown, hT⟩, ho, hwf, row_lower hr1 (by omega), row_lower hr2 (by omega)⟩
  case rest =>
    obtain ⟨n, a20, a21, c20, c21, m, L, rfl, rfl, rfl, hn, hnm, hmW, hbx, hfl⟩ := hcut
    rename_i hK
    refine hK _ _ ?_
    have hNw : Nw < w.heap.size := World.block_lt_of_cell? w _ hw0
    have hNt : Nt < w.heap.size := World.block_lt_of_cell? w _ ht0
    have h0w : 0 < w.heap.size := World.block_lt_of_cell? w _ hg
    exact seg2 a0 len cap n Nw Nt nm kp wl ex a b c d p z a20 a21 c20 c21 m L W _ (hbel.trans (hbx.mono hWw)) (by omega) hn hfl.len (fun k hk => by
        obtain ⟨eb, eo, x, y, z, h1, h2, h3, h4, h5, _⟩ := hent k hk
        exact ⟨eb, eo, x, y, z, h1, h2, h3, h4, h5⟩)
      ha hb hc hd hp h0 h1 (cellIn hbx h0w hg) (cellIn hbx hNw hw0) (cellIn hbx hNw hw1) (cellIn hbx hNw hw2) (cellIn hbx hNt ht0) (cellIn hbx hNt ht1) (cellIn hbx hNt ht2) (cellIn hbx hNt ht3)
      hfl.at_ hnm.out (fun B hB => Nat.le_trans hWw (hmW.out B hB)) hfl.once hfl.wf (row_lower hfl.row1 hWw) (row_lower hfl.row2 hWw)
end Go.Proofs.YbulkehbmDoor

