/-
  LawS6668CWhole, its third part: the entry that is looked for in the law's own lists (regions 50 to 60).
-/
import Derived.Test.YbulkehbmDoorSegD
import Derived.Test.YbulkehbmDoorLists
namespace Go.Proofs.YbulkehbmDoor
open Go.RowKit Go.Maps

theorem info25 : (Ybad.prog.info? 25).map (fun i => (i.zero, i.size, i.bytes)) = some (some (.int .u64 0), 1, 8) := by kernel_rfl
theorem info51 : (Ybad.prog.info? 51).map (fun i => (i.zero, i.size, i.bytes)) = some (some (.agg #[.int .i64 0, .int .i64 0]), 2, 16) := by kernel_rfl

theorem one64 : wrap64 (((0, 0) : Int × Int).1 + 1) = 1 := by
  show wrap64 (0 + 1) = 1
  unfold wrap64
  decide

set_option maxHeartbeats 1000000 in
set_option maxRecDepth 1000000 in
theorem seg3 (a0 : Option Addr) (len cap F n B m : Nat) (a30 a31 : Option Addr) (c30 c31 : Nat) (kp1 key now : Int) (L1 : List Ent) (D : DataW (Int × Int)) {s1 s2 s3 s4 s5 s6 s7 s8 s9 s10 s11 s12 s13 s14 s15 s17 s18 s20 s21 s22 s23 s24 s25 s26 s27 s32 s33 s34 s35 s36 s37 s38 s39 s40 s41 s42 s43 s44 s45 s46 s47 s48 s49 s50 s51 s52 s53 s54 s55 s56 s57 s58 s59 s60 s61 s62 s63 s64 s65 s66 s67 s68 s69 s70 s71 s72 s73 s74 s75 s76 s77 s78 s79 s80 s81 s82 s83 s84 s85 s86 s87 s88 s89 s90 s91 s92 s93 s94 s95 s96 s97 s98 s99 s100 s101 s102 s103 s104 s105 s106 s107 s108 s109 s110 s111 s112 s113 s114 s115 s116 s117 s118 s119 s120 s121 s122 s123 s124 s125 s126 s127 s128 s129 s130 s131 s132 s133 s134 s135 s136 s137 s138 s139 s140 s141 s142 s143 s144 s145 s146 s147 s148 s149 s150 s151 s152 s153 s154 s155 s156 s157 s158 s159 s160 s161 s162 s163 s164 s165 s166 s167 s168 s169 s170 s171 s172 s173 s174 s175 s176 s177 s178 s179 s180 s181 s182 s183 s184 s185 s186 s187 s188 s189 s190 s191 s192 s193 s194 s195 s196 s197 s198 s199 s200 s201 s202 s203 s204 s205 s206 s207 s208 s209 s210 s211 s212 s213 s214 s215 s216 s217 s218 s219 s220 s221 s222 s223 s224 s225 s226 s227 s228 s229 s230 s231 s232 s233 s234 s235 s236 s237 s238 s239 s240 s241 s242 s243 s244 s245 s246 s247 s248 s249 s250 s251 s252 s253 s254 s255 s256 s257 s258 s259 s260 s261 s262 s263 s264 s265 s266 s267 s268 s269 s270 s271 s272 s273 s274 s275 s276 s277 s278 s279 : Value} (W w : World)
    (hbel : Below W.heap.size W w) (hlen : len ≤ 5000) (hn : n ≤ 4500) (hnL : L1.length = n)
    (hent : ∀ k, k < len → ∃ eb eo x y z, a0 = some ⟨eb, eo, none⟩ ∧ eb < W.heap.size ∧ W.cell? ⟨eb, eo + k * 3, none⟩ = some (.int .u64 x) ∧ W.cell? ⟨eb, eo + k * 3 + 1, none⟩ = some (.int .i64 y) ∧ W.cell? ⟨eb, eo + k * 3 + 2, none⟩ = some (.int .i64 z))
    (hF0 : w.cell? ⟨F, 0, none⟩ = some (.map (some B))) (hF1 : w.cell? ⟨F, 1, none⟩ = some (.int .i64 kp1))
    (hown : w.ownsMap Ybad.prog 25 ofOwed B m D) (hT : Tie D (upd key (wrap64 (((look key L1).getD (0, 0)).1 + 1), now) L1)) (ho : Once L1)
    (hwf : ∀ x ∈ L1, (Lit.int .u64 x.1).wf = true) (hkw : (Lit.int .u64 key).wf = true)
    (hr1 : w.ownsRow W.heap.size 25 1 (.slice a30 n c30) n (keysOf L1)) (hr2 : w.ownsRow W.heap.size 51 2 (.slice a31 n c31) n (valsOf L1))
    (hf1 : some F ≠ (Value.slice a30 n c30).ownBlock) (hf2 : some F ≠ (Value.slice a31 n c31).ownBlock) :
    Code.wp Ybad.prog ((Ybad.f3.body.bind (suffixAt 50)).getD .skip) (bodyPost Ybad.prog Ybad.f3 fun e w' => e = .returned (.bool true) ∧ Below W.heap.size W w') ⟨List.toArray (.slice a0 len cap :: s1 :: s2 :: s3 :: s4 :: s5 :: s6 :: s7 :: s8 :: s9 :: s10 :: s11 :: s12 :: s13 :: s14 :: s15 :: .int .i64 now :: s17 :: s18 :: .int .u64 key :: s20 :: s21 :: s22 :: s23 :: s24 :: s25 :: s26 :: s27 :: .pointer (some ⟨F, 0, none⟩) :: .int .i64 kp1 :: .slice a30 n c30 :: .slice a31 n c31 :: s32 :: s33 :: s34 :: s35 :: s36 :: s37 :: s38 :: s39 :: s40 :: s41 :: s42 :: s43 :: s44 :: s45 :: s46 :: s47 :: s48 :: s49 :: s50 :: s51 :: s52 :: s53 :: s54 :: s55 :: s56 :: s57 :: s58 :: s59 :: s60 :: s61 :: s62 :: s63 :: s64 :: s65 :: s66 :: s67 :: s68 :: s69 :: s70 :: s71 :: s72 :: s73 :: s74 :: s75 :: s76 :: s77 :: s78 :: s79 :: s80 :: s81 :: s82 :: s83 :: s84 :: s85 :: s86 :: s87 :: s88 :: s89 :: s90 :: s91 :: s92 :: s93 :: s94 :: s95 :: s96 :: s97 :: s98 :: s99 :: s100 :: s101 :: s102 :: s103 :: s104 :: s105 :: s106 :: s107 :: s108 :: s109 :: s110 :: s111 :: s112 :: s113 :: s114 :: s115 :: s116 :: s117 :: s118 :: s119 :: s120 :: s121 :: s122 :: s123 :: s124 :: s125 :: s126 :: s127 :: s128 :: s129 :: s130 :: s131 :: s132 :: s133 :: s134 :: s135 :: s136 :: s137 :: s138 :: s139 :: s140 :: s141 :: s142 :: s143 :: s144 :: s145 :: s146 :: s147 :: s148 :: s149 :: s150 :: s151 :: s152 :: s153 :: s154 :: s155 :: s156 :: s157 :: s158 :: s159 :: s160 :: s161 :: s162 :: s163 :: s164 :: s165 :: s166 :: s167 :: s168 :: s169 :: s170 :: s171 :: s172 :: s173 :: s174 :: s175 :: s176 :: s177 :: s178 :: s179 :: s180 :: s181 :: s182 :: s183 :: s184 :: s185 :: s186 :: s187 :: s188 :: s189 :: s190 :: s191 :: s192 :: s193 :: s194 :: s195 :: s196 :: s197 :: s198 :: s199 :: s200 :: s201 :: s202 :: s203 :: s204 :: s205 :: s206 :: s207 :: s208 :: s209 :: s210 :: s211 :: s212 :: s213 :: s214 :: s215 :: s216 :: s217 :: s218 :: s219 :: s220 :: s221 :: s222 :: s223 :: s224 :: s225 :: s226 :: s227 :: s228 :: s229 :: s230 :: s231 :: s232 :: s233 :: s234 :: s235 :: s236 :: s237 :: s238 :: s239 :: s240 :: s241 :: s242 :: s243 :: s244 :: s245 :: s246 :: s247 :: s248 :: s249 :: s250 :: s251 :: s252 :: s253 :: s254 :: s255 :: s256 :: s257 :: s258 :: s259 :: s260 :: s261 :: s262 :: s263 :: s264 :: s265 :: s266 :: s267 :: s268 :: s269 :: s270 :: s271 :: s272 :: s273 :: s274 :: s275 :: s276 :: s277 :: s278 :: s279 :: []), []⟩ w := by
  obtain ⟨i25, hi1, hz1, hs1, hb1⟩ := info_parts info25
  obtain ⟨i51, hi2, hz2, hs2, hb2⟩ := info_parts info51
  have hFl : F < w.heap.size := World.block_lt_of_cell? w _ hF0
  conv => arg 2; whnf
  go_wp2_with fail
  go_loopw [33, 34, 188] (fun t33 _ t wx => ∃ k : Nat, k ≤ n ∧ t = .int .i64 k ∧ t33 = .int .i64 (-1) ∧ (∀ j, j < k → (L1.getD j E0).1 ≠ key) ∧ wx = w) (fun _ _ t _ => n - (intOf t).toNat)
  case atStart => exact ⟨0, Nat.zero_le _, rfl, rfl, fun j hj => absurd hj (Nat.not_lt_zero _), rfl⟩
  case round =>
    obtain ⟨k, hk, rfl, rfl, hmiss, rfl⟩ := hrel
    by_cases hlt : k < n
    · obtain ⟨g1, cur1, rfl, hg1, _⟩ := row_some hr1 (by omega)
      have r1 := keys_cells hr1 hnL.symm hlt
      obtain ⟨kk, hkk⟩ : ∃ kk, (L1.getD k E0).1 = kk := ⟨_, rfl⟩
      rw [hkk] at r1
      by_cases hit : kk = key
      · subst hit
        obtain ⟨g2, cur2, rfl, hg2, hW2⟩ := row_some hr2 (by omega)
        obtain ⟨r2, r3⟩ := vals_cells hr2 hnL.symm hlt
        have f2 := row_frozen hg2 (k * 2)
        have f3 := row_frozen hg2 (k * 2 + 1)
        obtain ⟨ck, hck⟩ : ∃ ck, (L1.getD k E0).2.1 = ck := ⟨_, rfl⟩
        obtain ⟨lk, hlk⟩ : ∃ lk, (L1.getD k E0).2.2 = lk := ⟨_, rfl⟩
        rw [hck] at r2
        rw [hlk] at r3
        have HK : Hid ((L1.getD k E0).1 = kk) := hkk
        have HC : Hid ((L1.getD k E0).2.1 = ck) := hck
        clear hkk hck hlk
        go_upto_if 200 with fail
        go_cut [30, 31] from 39 (fun t30 t31 wx => t30 = .slice (some ⟨g1, 0, none⟩) n c30 ∧ t31 = .slice (some ⟨g2, 0, none⟩) n c31 ∧ wx = (wr.setCell ⟨g2, k * 2, none⟩ (.int .i64 (wrap64 (ck + 1)))).setCell ⟨g2, k * 2 + 1, none⟩ (.int .i64 now))
        case first =>
          go_wp2_with fail
          go_meet
          case rel => exact ⟨rfl, rfl, rfl⟩
        case rest =>
          obtain ⟨rfl, rfl, rfl⟩ := hcut
          rename_i hK
          refine hK _ _ ?_
          obtain ⟨hu1, hu2⟩ := upd_hit (by omega) hmiss HK.out
          have hT' : Tie D (L1.set k (kk, (wrap64 (ck + 1), now))) := by
            have h := hT
            rw [hu2, hu1, Option.getD_some, HC.out] at h
            exact h
          have ho' : Once (L1.set k (kk, (wrap64 (ck + 1), now))) := by rw [← hu2]; exact once_upd _ _ ho
          have hw' : ∀ x ∈ L1.set k (kk, (wrap64 (ck + 1), now)), (Lit.int .u64 x.1).wf = true := by
            rw [← hu2]
            intro x hx
            rcases mem_upd hx with h | h
            · rw [h]; exact hkw
            · exact hwf x h
          have hF2 : F ≠ g2 := fun e => hf2 (by rw [e]; rfl)
          have h12 : g1 ≠ g2 := fun e => by
            rcases rows_apart hr1 hr2 (by decide) with h | h
            · cases h
            · exact h (by rw [e]; rfl)
          have hB2 : B ≠ g2 := fun e => row_map_apart hr2 hown (by rw [e]; rfl)
          have hlen2 : (L1.set k (kk, (wrap64 (ck + 1), now))).length = n := by rw [List.length_set]; exact hnL
          refine seg4 a0 len cap F g1 g2 n c30 c31 B m kp1 (fun i => ((L1.set k (kk, (wrap64 (ck + 1), now))).getD i E0).1) (fun i => ((L1.set k (kk, (wrap64 (ck + 1), now))).getD i E0).2.1) (fun i => ((L1.set k (kk, (wrap64 (ck + 1), now))).getD i E0).2.2) D W _
            ((hbel.setCell (p := ⟨g2, k * 2, none⟩) hW2 _).setCell (p := ⟨g2, k * 2 + 1, none⟩) hW2 _) hlen (by omega) hent ?_ ?_ ((hown.setCell (a := ⟨g2, k * 2, none⟩) hB2 _).setCell (a := ⟨g2, k * 2 + 1, none⟩) hB2 _) ?_ ?_ ?_ ?_ ?_
          · exact (World.cell?_setCell_other _ _ _ _ (by simp <;> omega)).trans ((World.cell?_setCell_other _ _ _ _ (by simp <;> omega)).trans hF0)
          · exact (World.cell?_setCell_other _ _ _ _ (by simp <;> omega)).trans ((World.cell?_setCell_other _ _ _ _ (by simp <;> omega)).trans hF1)
          · rw [hT'.size]; exact hlen2
          · intro i hi
            exact hmap_of hT' ho' hw' (by omega)
          · intro i hi
            refine (World.cell?_setCell_other _ _ _ _ (by simp <;> omega)).trans ((World.cell?_setCell_other _ _ _ _ (by simp <;> omega)).trans ?_)
            rw [keys_cells hr1 hnL.symm hi]
            by_cases e : i = k
            · subst e; rw [getD_set_same (by omega), HK.out]
            · rw [getD_set_other (by omega)]
          · intro i hi
            refine (World.cell?_setCell_other _ _ _ _ (by simp <;> omega)).trans ?_
            by_cases e : i = k
            · subst e; rw [World.cell?_setCell_same _ _ _ r2, getD_set_same (by omega)]
            · rw [World.cell?_setCell_other _ _ _ _ (by simp <;> omega), (vals_cells hr2 hnL.symm hi).1, getD_set_other (by omega)]
          · intro i hi
            by_cases e : i = k
            · subst e; rw [World.cell?_setCell_same _ _ _ ((World.cell?_setCell_other _ _ _ _ (by simp)).trans r3), getD_set_same (by omega)]
            · rw [World.cell?_setCell_other _ _ _ _ (by simp <;> omega), World.cell?_setCell_other _ _ _ _ (by simp <;> omega), (vals_cells hr2 hnL.symm hi).2, getD_set_other (by omega)]
      · have HK : Hid ((L1.getD k E0).1 = kk) := hkk
        clear hkk
        go_wp2_with fail
        go_roundw
        case rel =>
          refine ⟨k + 1, by omega, by go_num, rfl, fun j hj => ?_, ?_⟩
          · by_cases e : j = k
            · subst e; rw [HK.out]; exact hit
            · exact hmiss j (by omega)
          · first | rfl | trivial
        case measure => simp [intOf]; omega
    · obtain ⟨hu1, hu2⟩ := upd_miss (k := key) (L := L1) (fun j hj => hmiss j (by omega))
      have HT : Hid (Tie D (L1 ++ [(key, (1, now))])) := by
        have h := hT
        rw [hu2, hu1, Option.getD_none, one64] at h
        exact h
      have HO : Hid (Once (L1 ++ [(key, (1, now))])) := by
        have h := once_upd key (1, now) ho
        rw [hu2] at h
        exact h
      have hWw : W.heap.size ≤ wr.heap.size := hbel.size
      clear hu1 hu2 hmiss hT
      go_upto_if 200 with fail
      go_cut [30, 31] from 39 (fun t30 t31 wx => ∃ g1 g2 c1 c2, t30 = .slice (some ⟨g1, 0, none⟩) (n + 1) c1 ∧ t31 = .slice (some ⟨g2, 0, none⟩) (n + 1) c2 ∧
        wx.ownsRow W.heap.size 25 1 (.slice (some ⟨g1, 0, none⟩) (n + 1) c1) (n + 1) (keysOf L1 ++ [.int .u64 key]) ∧ wx.ownsRow W.heap.size 51 2 (.slice (some ⟨g2, 0, none⟩) (n + 1) c2) (n + 1) (valsOf L1 ++ [.int .i64 1, .int .i64 now]) ∧
        wx.ownsMap Ybad.prog 25 ofOwed B m D ∧ Below W.heap.size W wx ∧ wx.cell? ⟨F, 0, none⟩ = some (.map (some B)) ∧ wx.cell? ⟨F, 1, none⟩ = some (.int .i64 kp1))
      case first =>
        go_wp2_with (first
          | (at_builtin; refine wpList_append_own _ rfl (.tmp 212) (.tmp 214) 47 rfl W.heap.size 25 i25 (.int .u64 0) 1 8 Ybad.underlying47 hi1 hz1 hs1 hb1 rfl (by decide) _ _ _ rfl (hr1.alloc _) ⟨wr.heap.size, 0, none⟩ 1 1 [.int .u64 key] rfl rfl (cell_one_new _ _ _) (by simp [Value.oneCell']) (by unfold maxLen; omega) (by omega) (by simp; omega) ?_; intro v1 w1 hown1 hgrow1 hiff1; obtain ⟨a1, c1, rfl⟩ := row_shape hown1)
          | (at_builtin; refine wpList_append_own _ rfl (.tmp 216) (.tmp 219) 48 rfl W.heap.size 51 i51 (.agg #[.int .i64 0, .int .i64 0]) 2 16 Ybad.underlying48 hi2 hz2 hs2 hb2 rfl (by decide) _ _ _ rfl (((hr2.alloc _).kept hgrow1 (rows_apart hr2 hr1 (by decide))).alloc _) ⟨w1.heap.size, 0, none⟩ 1 1 [.int .i64 1, .int .i64 now] rfl rfl (cell_two_new _ _ _ _) (by simp [Value.oneCell']) (by unfold maxLen; omega) (by omega) (by have := hgrow1.size; simp at this ⊢; omega) ?_; intro v2 w2 hown2 hgrow2 hiff2; obtain ⟨a2, c2, rfl⟩ := row_shape hown2)
          | go_in)
        go_meet
        case rel =>
          obtain ⟨g1, cur1, rfl, hg1, hWg1⟩ := row_some hown1 (by omega)
          obtain ⟨g2, cur2, rfl, hg2, hWg2⟩ := row_some hown2 (by omega)
          have hgw1 := (World.grownBy_alloc wr (.cells #[.int .u64 key] 25) (Value.slice a30 n c30).ownBlock).trans hgrow1
          have hgw2 := (World.grownBy_alloc w1 (.cells #[.int .i64 1, .int .i64 now] 51) (Value.slice a31 n c31).ownBlock).trans hgrow2
          have hr2' := hr2.kept hgw1 (rows_apart hr2 hr1 (by decide))
          have hown' := hown.kept hgw1 (row_map_apart hr1 hown)
          have hF0' := hgw1.cell hF0 hf1
          have hF1' := hgw1.cell hF1 hf1
          refine ⟨g1, g2, c1, c2, rfl, rfl, hown1.kept hgw2 (rows_apart hown1 hr2' (by decide)), hown2, hown'.kept hgw2 (row_map_apart hr2' hown'), ?_, hgw2.cell hF0' hf2, hgw2.cell hF1' hf2⟩
          exact (hbel.grown hgw1 hbel.size (fun j hj => (hr1.lt j hj).1)).grown hgw2 (Nat.le_trans hbel.size hgw1.size) (fun j hj => (hr2'.lt j hj).1)
      case rest =>
        obtain ⟨g1, g2, c1, c2, rfl, rfl, hown1, hown2, hown', hbel', hF0', hF1'⟩ := hcut
        rename_i hK
        refine hK _ _ ?_
        have e1 : keysOf (L1 ++ [(key, (1, now))]) = keysOf L1 ++ [.int .u64 key] := keysOf_snoc L1 _
        have e2 : valsOf (L1 ++ [(key, (1, now))]) = valsOf L1 ++ [.int .i64 1, .int .i64 now] := valsOf_snoc L1 _
        rw [← e1] at hown1
        rw [← e2] at hown2
        have hl2 : n + 1 = (L1 ++ [(key, (1, now))]).length := by simp [hnL]
        have hw' : ∀ x ∈ L1 ++ [(key, (1, now))], (Lit.int .u64 x.1).wf = true := by
          intro x hx
          rcases List.mem_append.1 hx with h | h
          · exact hwf x h
          · have : x = (key, (1, now)) := by simpa using h
            rw [this]; exact hkw
        exact seg4 a0 len cap F g1 g2 (n + 1) c1 c2 B m kp1 (fun i => ((L1 ++ [(key, (1, now))]).getD i E0).1) (fun i => ((L1 ++ [(key, (1, now))]).getD i E0).2.1) (fun i => ((L1 ++ [(key, (1, now))]).getD i E0).2.2) D W _
          hbel' hlen (by omega) hent hF0' hF1' hown' (by rw [HT.out.size]; exact hl2.symm) (fun i hi => hmap_of HT.out HO.out hw' (by omega)) (fun i hi => keys_cells hown1 hl2 hi) (fun i hi => (vals_cells hown2 hl2 hi).1) (fun i hi => (vals_cells hown2 hl2 hi).2)
end Go.Proofs.YbulkehbmDoor

