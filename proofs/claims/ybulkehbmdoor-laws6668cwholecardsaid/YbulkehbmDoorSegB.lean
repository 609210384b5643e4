/-
  LawS6668CWhole, its second part: the call of 'sent', and the law's own lists behind it (regions 33 to 49).
-/
import Derived.Test.YbulkehbmDoorSegC
namespace Go.Proofs.YbulkehbmDoor
open Go.RowKit Go.Maps

theorem row_lower {w : World} {base base' e size n : Nat} {v : Value} {xs : List Value} (h : w.ownsRow base' e size v n xs) (hb : base ≤ base') : w.ownsRow base e size v n xs := by
  refine ⟨h.1, ?_⟩
  rcases h.2 with h | ⟨g, cap, cur, hv, hbg, rest⟩
  · exact .inl h
  · exact .inr ⟨g, cap, cur, hv, Nat.le_trans hb hbg, rest⟩

theorem row_outside {w w1 : World} {F : Nat} {m : Option Nat} {base e size n : Nat} {v : Value} {xs : List Value} (h : w.ownsRow base e size v n xs) (ho : Outside F m w w1) (hF : some F ≠ v.ownBlock) (hm : v.ownBlock = none ∨ m ≠ v.ownBlock) : w1.ownsRow base e size v n xs := by
  refine ⟨h.1, ?_⟩
  rcases h.2 with h2 | ⟨g, cap, cur, rfl, hb, hgg, rest⟩
  · exact .inl h2
  · refine .inr ⟨g, cap, cur, rfl, hb, ?_, rest⟩
    rw [ho.block g (Array.getElem?_eq_some_iff.1 hgg).1 (fun e => hF (by rw [e]; rfl)) (by simpa [Value.ownBlock] using hm)]
    exact hgg

theorem row_below {w w1 : World} {B base e size n : Nat} {v : Value} {xs : List Value} (h : w.ownsRow base e size v n xs) (hb : Below B w w1) (hB : w.heap.size ≤ B) : w1.ownsRow base e size v n xs :=
  h.kept (row := none) ⟨hb.os, hb.tape, hb.output, hb.size, fun k hk _ => hb.block k (by omega)⟩ (by cases hv : v.ownBlock <;> simp)

theorem swept_sub {isNil : Bool} {now lim kp kp1 : Int} {L L1 : List Ent} (h : (L1, kp1) = swept isNil now lim kp L) : ∀ x ∈ L1, x ∈ L := by
  intro x hx
  unfold swept at h
  split at h
  · injection h with h _
    rw [h] at hx; cases hx
  · split at h
    · injection h with h _
      rw [← h]; exact hx
    · injection h with h _
      rw [h] at hx
      exact (List.mem_filter.1 hx).1

theorem swept_once {isNil : Bool} {now lim kp kp1 : Int} {L L1 : List Ent} (h : (L1, kp1) = swept isNil now lim kp L) (ho : Once L) : Once L1 := by
  unfold swept at h
  split at h
  · injection h with h _
    rw [h]; exact List.Pairwise.nil
  · split at h
    · injection h with h _
      rw [h]; exact ho
    · injection h with h _
      rw [h]
      exact once_filter _ ho

theorem filter_step (f : Ent → Bool) {L : List Ent} {k : Nat} (h : k < L.length) : (L.take (k + 1)).filter f = (L.take k).filter f ++ (if f (L.getD k E0) then [L.getD k E0] else []) := by
  have e : L.getD k E0 = L[k] := by simp [List.getD, h]
  rw [List.take_succ_eq_append_getElem h, List.filter_append, e]
  congr 1
  by_cases hf : f L[k] <;> simp [hf]

set_option maxHeartbeats 1000000 in
set_option maxRecDepth 1000000 in
theorem seg2 (a0 : Option Addr) (len cap n Nw Nt : Nat) (nm : Bool) (kp wl ex a b c d p : Int) (z : Addr) (a20 a21 : Option Addr) (c20 c21 : Nat) (m : Option Nat) (L : List Ent) {s3 s4 s5 s6 s7 s8 s9 s10 s11 s12 s13 s14 s17 s23 s24 s25 s26 s27 s28 s29 s30 s31 s32 s33 s34 s35 s36 s37 s38 s39 s40 s41 s42 s43 s44 s45 s46 s47 s48 s49 s50 s51 s52 s53 s54 s55 s56 s57 s58 s59 s60 s61 s62 s63 s64 s65 s66 s67 s68 s69 s70 s71 s72 s73 s74 s75 s76 s77 s78 s79 s80 s81 s82 s83 s84 s85 s86 s87 s88 s89 s90 s91 s92 s93 s94 s95 s96 s97 s98 s99 s100 s101 s102 s103 s104 s105 s106 s107 s108 s109 s110 s111 s112 s113 s114 s115 s116 s117 s118 s119 s120 s121 s122 s123 s124 s125 s126 s127 s128 s129 s130 s131 s132 s133 s134 s135 s136 s137 s138 s139 s140 s141 s142 s143 s144 s145 s146 s147 s148 s149 s150 s151 s152 s153 s154 s155 s156 s157 s158 s159 s160 s161 s162 s163 s164 s165 s166 s167 s168 s169 s170 s171 s172 s173 s174 s175 s176 s177 s178 s179 s180 s181 s182 s183 s184 s185 s186 s187 s188 s189 s190 s191 s192 s193 s194 s195 s196 s197 s198 s199 s200 s201 s202 s203 s204 s205 s206 s207 s208 s209 s210 s211 s212 s213 s214 s215 s216 s217 s218 s219 s220 s221 s222 s223 s224 s225 s226 s227 s228 s229 s230 s231 s232 s233 s234 s235 s236 s237 s238 s239 s240 s241 s242 s243 s244 s245 s246 s247 s248 s249 s250 s251 s252 s253 s254 s255 s256 s257 s258 s259 s260 s261 s262 s263 s264 s265 s266 s267 s268 s269 s270 s271 s272 s273 s274 s275 s276 s277 s278 s279 : Value} (W w : World)
    (hbel : Below W.heap.size W w) (hlen : len ≤ 5000) (hn : n ≤ 4200) (hnL : L.length = n)
    (hent : ∀ k, k < len → ∃ eb eo x y z, a0 = some ⟨eb, eo, none⟩ ∧ eb < W.heap.size ∧ W.cell? ⟨eb, eo + k * 3, none⟩ = some (.int .u64 x) ∧ W.cell? ⟨eb, eo + k * 3 + 1, none⟩ = some (.int .i64 y) ∧ W.cell? ⟨eb, eo + k * 3 + 2, none⟩ = some (.int .i64 z))
    (ha : Byte a) (hb : Byte b) (hc : Byte c) (hd : Byte d) (hp : 0 ≤ p ∧ p < 65536) (h0 : 0 ≤ wl) (h1 : wl < 1073741824)
    (hg : w.cell? ⟨0, 0, none⟩ = some (.pointer (some z)))
    (hw0 : w.cell? ⟨Nw, 0, none⟩ = some (.int .u64 wl)) (hw1 : w.cell? ⟨Nw, 1, none⟩ = some (.int .i64 ex)) (hw2 : w.cell? ⟨Nw, 2, none⟩ = some (.pointer none))
    (ht0 : w.cell? ⟨Nt, 0, none⟩ = some (.int .u64 0)) (ht1 : w.cell? ⟨Nt, 1, none⟩ = some (.int .u64 (loSum a b c d))) (ht2 : w.cell? ⟨Nt, 2, none⟩ = some (.pointer (some z))) (ht3 : w.cell? ⟨Nt, 3, none⟩ = some (.int .u16 p))
    (hm : MapAt w m L) (hnm : m.isNone = nm) (hmW : ∀ B, m = some B → W.heap.size ≤ B) (ho : Once L) (hwf : ∀ x ∈ L, (Lit.int .u64 x.1).wf = true)
    (hr1 : w.ownsRow W.heap.size 25 1 (.slice a20 n c20) n (keysOf L)) (hr2 : w.ownsRow W.heap.size 51 2 (.slice a21 n c21) n (valsOf L)) :
    Code.wp Ybad.prog ((Ybad.f3.body.bind (suffixAt 33)).getD .skip) (bodyPost Ybad.prog Ybad.f3 fun e w' => e = .returned (.bool true) ∧ Below W.heap.size W w') ⟨List.toArray (.slice a0 len cap :: .bool nm :: .int .i64 kp :: s3 :: s4 :: s5 :: s6 :: s7 :: s8 :: s9 :: s10 :: s11 :: s12 :: s13 :: s14 :: .pointer (some ⟨Nw, 0, none⟩) :: .int .i64 (nanoOf wl ex) :: s17 :: .pointer (some ⟨Nt, 0, none⟩) :: .int .u64 (keySum a b c d p) :: .slice a20 n c20 :: .slice a21 n c21 :: .map m :: s23 :: s24 :: s25 :: s26 :: s27 :: s28 :: s29 :: s30 :: s31 :: s32 :: s33 :: s34 :: s35 :: s36 :: s37 :: s38 :: s39 :: s40 :: s41 :: s42 :: s43 :: s44 :: s45 :: s46 :: s47 :: s48 :: s49 :: s50 :: s51 :: s52 :: s53 :: s54 :: s55 :: s56 :: s57 :: s58 :: s59 :: s60 :: s61 :: s62 :: s63 :: s64 :: s65 :: s66 :: s67 :: s68 :: s69 :: s70 :: s71 :: s72 :: s73 :: s74 :: s75 :: s76 :: s77 :: s78 :: s79 :: s80 :: s81 :: s82 :: s83 :: s84 :: s85 :: s86 :: s87 :: s88 :: s89 :: s90 :: s91 :: s92 :: s93 :: s94 :: s95 :: s96 :: s97 :: s98 :: s99 :: s100 :: s101 :: s102 :: s103 :: s104 :: s105 :: s106 :: s107 :: s108 :: s109 :: s110 :: s111 :: s112 :: s113 :: s114 :: s115 :: s116 :: s117 :: s118 :: s119 :: s120 :: s121 :: s122 :: s123 :: s124 :: s125 :: s126 :: s127 :: s128 :: s129 :: s130 :: s131 :: s132 :: s133 :: s134 :: s135 :: s136 :: s137 :: s138 :: s139 :: s140 :: s141 :: s142 :: s143 :: s144 :: s145 :: s146 :: s147 :: s148 :: s149 :: s150 :: s151 :: s152 :: s153 :: s154 :: s155 :: s156 :: s157 :: s158 :: s159 :: s160 :: s161 :: s162 :: s163 :: s164 :: s165 :: s166 :: s167 :: s168 :: s169 :: s170 :: s171 :: s172 :: s173 :: s174 :: s175 :: s176 :: s177 :: s178 :: s179 :: s180 :: s181 :: s182 :: s183 :: s184 :: s185 :: s186 :: s187 :: s188 :: s189 :: s190 :: s191 :: s192 :: s193 :: s194 :: s195 :: s196 :: s197 :: s198 :: s199 :: s200 :: s201 :: s202 :: s203 :: s204 :: s205 :: s206 :: s207 :: s208 :: s209 :: s210 :: s211 :: s212 :: s213 :: s214 :: s215 :: s216 :: s217 :: s218 :: s219 :: s220 :: s221 :: s222 :: s223 :: s224 :: s225 :: s226 :: s227 :: s228 :: s229 :: s230 :: s231 :: s232 :: s233 :: s234 :: s235 :: s236 :: s237 :: s238 :: s239 :: s240 :: s241 :: s242 :: s243 :: s244 :: s245 :: s246 :: s247 :: s248 :: s249 :: s250 :: s251 :: s252 :: s253 :: s254 :: s255 :: s256 :: s257 :: s258 :: s259 :: s260 :: s261 :: s262 :: s263 :: s264 :: s265 :: s266 :: s267 :: s268 :: s269 :: s270 :: s271 :: s272 :: s273 :: s274 :: s275 :: s276 :: s277 :: s278 :: s279 :: []), []⟩ w := by
  obtain ⟨i25, hi1, hz1, hs1, hb1⟩ := info_parts info25
  obtain ⟨i51, hi2, hz2, hs2, hb2⟩ := info_parts info51
  have hNw : Nw < w.heap.size := World.block_lt_of_cell? w _ hw0
  have hNt : Nt < w.heap.size := World.block_lt_of_cell? w _ ht0
  have h0w : 0 < w.heap.size := World.block_lt_of_cell? w _ hg
  have hmA := hm.belowO ((Below.refl w.heap.size w).alloc (Nat.le_refl _) (.cells #[.map m, .int .i64 kp] 54))
  have HN : Hid (L.length = n) := hnL
  have HM : Hid (m.isNone = nm) := hnm
  clear hnL hnm
  conv => arg 2; whnf
  go_wp2_with fail
  refine (sent_any w.heap.size m L kp wl ex a b c d p z (w.alloc (.cells #[.map m, .int .i64 kp] 54)) ha hb hc hd hp h0 h1 hmA ho (by rw [HN.out]; exact hn) (by rw [World.cell?_alloc_past _ _ _ h0w]; exact hg) (by simp) (by simp) (by simp) (by simp)).mono ?_
  rintro e w1 ⟨rfl, B', L1, kp1, nD, D, hsw, hown, hT, hd0, hd1, hout, hne, hor⟩
  have hFW : W.heap.size ≤ w.heap.size := hbel.size
  have hsz1 : w.heap.size + 1 ≤ w1.heap.size := by have := hout.size; simpa using this
  have hoN : (Value.slice a20 n c20).ownBlock = none ∨ m ≠ (Value.slice a20 n c20).ownBlock := by
    cases m with
    | none => cases hv : (Value.slice a20 n c20).ownBlock <;> simp
    | some B => obtain ⟨n', D', _, ho', _⟩ := hm; exact Or.inr (row_map_apart hr1 ho')
  have hoM : (Value.slice a21 n c21).ownBlock = none ∨ m ≠ (Value.slice a21 n c21).ownBlock := by
    cases m with
    | none => cases hv : (Value.slice a21 n c21).ownBlock <;> simp
    | some B => obtain ⟨n', D', _, ho', _⟩ := hm; exact Or.inr (row_map_apart hr2 ho')
  have hF20 : some w.heap.size ≠ (Value.slice a20 n c20).ownBlock := fun e => by have := (hr1.lt _ e.symm).2; omega
  have hF21 : some w.heap.size ≠ (Value.slice a21 n c21).ownBlock := fun e => by have := (hr2.lt _ e.symm).2; omega
  have hr1' := row_outside (hr1.alloc (.cells #[.map m, .int .i64 kp] 54)) hout hF20 hoN
  have hr2' := row_outside (hr2.alloc (.cells #[.map m, .int .i64 kp] 54)) hout hF21 hoM
  have hbel1 : Below W.heap.size W w1 := by
    refine (hbel.alloc hFW (.cells #[.map m, .int .i64 kp] 54)).trans ⟨hout.os, hout.tape, hout.output, hout.size, fun k hk => hout.block k (by simp; omega) (by omega) (fun e => ?_)⟩
    have := hmW k e
    omega
  clear hoN hoM hr1 hr2 hmA hm hout hmW hg hw0 hw1 hw2 ht0 ht1 ht2 ht3 hor hbel
  go_upto_if 147 with fail
  go_cut [29, 30, 31] from 39 (fun t29 t30 t31 wx => ∃ (n1 : Nat) (a30 a31 : Option Addr) (c30 c31 : Nat), t29 = .int .i64 kp1 ∧ t30 = .slice a30 n1 c30 ∧ t31 = .slice a31 n1 c31 ∧ Hid (L1.length = n1) ∧ n1 ≤ 4500 ∧ Below w1.heap.size w1 wx ∧
    wx.ownsRow W.heap.size 25 1 (.slice a30 n1 c30) n1 (keysOf L1) ∧ wx.ownsRow W.heap.size 51 2 (.slice a31 n1 c31) n1 (valsOf L1) ∧ some w.heap.size ≠ (Value.slice a30 n1 c30).ownBlock ∧ some w.heap.size ≠ (Value.slice a31 n1 c31).ownBlock)
  case first =>
    have hsw' : (L1, kp1) = swept nm (nanoOf wl ex) (wrap64 (wrap64 (2 * kp) + 64)) kp L := by
      have h := hsw.out
      rw [HM.out, wrapEq, wrapEq] at h
      exact h
    clear hT hd0 hd1 hown hsw HM
    cases nm with
    | true =>
      obtain ⟨rfl, rfl⟩ : L1 = [] ∧ kp1 = kp := by
        injection hsw' with h1 h2
        exact ⟨h1, h2⟩
      clear hsw'
      go_wp2_with fail
      go_meet
      case rel => exact ⟨0, none, none, 0, 0, rfl, rfl, rfl, rfl, by omega, Below.refl _ _, World.ownsRow_nil _ _ _ _, World.ownsRow_nil _ _ _ _, by simp [Value.ownBlock], by simp [Value.ownBlock]⟩
    | false =>
      by_cases hlim : (n : Int) < wrap64 (wrap64 (2 * kp) + 64)
      · obtain ⟨rfl, rfl⟩ : L1 = L ∧ kp1 = kp := by
          have e : swept false (nanoOf wl ex) (wrap64 (wrap64 (2 * kp) + 64)) kp L = (L, kp) := by simp [swept, HN.out, hlim]
          rw [e] at hsw'
          injection hsw' with h1 h2
          exact ⟨h1, h2⟩
        clear hsw'
        go_wp2_with fail
        go_meet
        case rel => exact ⟨n, a20, a21, c20, c21, rfl, rfl, rfl, HN, by omega, Below.refl _ _, hr1', hr2', hF20, hF21⟩
      · obtain ⟨hL1, hkp1⟩ : L1 = L.filter (fun x => live (nanoOf wl ex) x.2) ∧ kp1 = ((L.filter (fun x => live (nanoOf wl ex) x.2)).length : Int) := by
          have e : swept false (nanoOf wl ex) (wrap64 (wrap64 (2 * kp) + 64)) kp L = (L.filter (fun x => live (nanoOf wl ex) x.2), ((L.filter (fun x => live (nanoOf wl ex) x.2)).length : Int)) := by simp [swept, HN.out, hlim]
          rw [e] at hsw'
          injection hsw' with h1 h2
          exact ⟨h1, h2⟩
        have HL : Hid (L1 = L.filter (fun x => live (nanoOf wl ex) x.2)) := hL1
        have HK : Hid (kp1 = ((L.filter (fun x => live (nanoOf wl ex) x.2)).length : Int)) := hkp1
        clear hsw' hL1 hkp1
        go_wp2_with fail
        go_loopw [29, 30, 31, 32, 158] (fun t29 t30 t31 _ t wx => ∃ (k n1 : Nat) (a30 a31 : Option Addr) (c30 c31 : Nat), k ≤ n ∧ t = .int .i64 k ∧ n1 ≤ k ∧ Hid (((L.take k).filter (fun x => live (nanoOf wl ex) x.2)).length = n1) ∧ t29 = .int .i64 n1 ∧ t30 = .slice a30 n1 c30 ∧ t31 = .slice a31 n1 c31 ∧ Below w1.heap.size w1 wx ∧
            wx.ownsRow w1.heap.size 25 1 (.slice a30 n1 c30) n1 (keysOf ((L.take k).filter (fun x => live (nanoOf wl ex) x.2))) ∧ wx.ownsRow w1.heap.size 51 2 (.slice a31 n1 c31) n1 (valsOf ((L.take k).filter (fun x => live (nanoOf wl ex) x.2))))
          (fun _ _ _ _ t _ => n - (intOf t).toNat)
        case atStart => exact ⟨0, 0, none, none, 0, 0, Nat.zero_le _, rfl, Nat.le_refl _, rfl, rfl, rfl, rfl, Below.refl _ _, World.ownsRow_nil _ _ _ _, World.ownsRow_nil _ _ _ _⟩
        case round =>
          obtain ⟨k, n1, a30, a31, c30, c31, hk, rfl, hn1k, HN1, rfl, rfl, rfl, hbx, hr30, hr31⟩ := hrel
          by_cases hlt : k < n
          · obtain ⟨g1, cur1, rfl, hg1, hW1⟩ := row_some hr1' (by omega)
            obtain ⟨g2, cur2, rfl, hg2, hW2⟩ := row_some hr2' (by omega)
            have hG1 : g1 < w1.heap.size := (Array.getElem?_eq_some_iff.1 hg1).1
            have hG2 : g2 < w1.heap.size := (Array.getElem?_eq_some_iff.1 hg2).1
            have r1 := cellIn hbx hG1 (keys_cells hr1' HN.out.symm hlt)
            have r2 := cellIn hbx hG2 (vals_cells hr2' HN.out.symm hlt).1
            have r3 := cellIn hbx hG2 (vals_cells hr2' HN.out.symm hlt).2
            have hfs := filter_step (fun x => live (nanoOf wl ex) x.2) (L := L) (k := k) (by rw [HN.out]; exact hlt)
            obtain ⟨⟨kk, ck, lk⟩, hx⟩ : ∃ x, L.getD k E0 = x := ⟨_, rfl⟩
            rw [hx] at r1 r2 r3 hfs
            have HFS : Hid ((L.take (k + 1)).filter (fun x => live (nanoOf wl ex) x.2) = (L.take k).filter (fun x => live (nanoOf wl ex) x.2) ++ if live (nanoOf wl ex) (ck, lk) then [(kk, ck, lk)] else []) := hfs
            have hgx1 : g1 < wr.heap.size := Nat.lt_of_lt_of_le hG1 hbx.size
            have hgx2 : g2 < wr.heap.size := Nat.lt_of_lt_of_le hG2 hbx.size
            have hxs := hbx.size
            clear hx hfs hg1 hg2
            by_cases hp : live (nanoOf wl ex) (ck, lk) = true
            · have hq : wrap64 (nanoOf wl ex - lk) < 60000000000 := by simpa [live] using hp
              rw [hp] at HFS
              clear hp
              go_wp2_with (first
                | (at_builtin; refine wpList_append_own _ rfl (.tmp 171) (.tmp 176) 47 rfl w1.heap.size 25 i25 (.int .u64 0) 1 8 Ybad.underlying47 hi1 hz1 hs1 hb1 rfl (by decide) _ _ _ rfl (hr30.alloc _) ⟨wr.heap.size, 0, none⟩ 1 1 [.int .u64 kk] rfl rfl (cell_one_new _ _ _) (by simp [Value.oneCell']) (by unfold maxLen; omega) (by omega) (by simp; omega) ?_; intro v1 w2 hown1 hgrow1 hiff1; obtain ⟨a1, c1, rfl⟩ := row_shape hown1; have hz2' := hgrow1.size; have rr2 := hgrow1.cell (a := ⟨g2, k * 2, none⟩) ((World.cell?_alloc_past _ _ _ hgx2).trans r2) (fun e => by have := (hr30.lt _ e.symm).1; simp at this; omega); have rr3 := hgrow1.cell (a := ⟨g2, k * 2 + 1, none⟩) ((World.cell?_alloc_past _ _ _ hgx2).trans r3) (fun e => by have := (hr30.lt _ e.symm).1; simp at this; omega))
                | (at_builtin; refine wpList_append_own _ rfl (.tmp 178) (.tmp 183) 48 rfl w1.heap.size 51 i51 (.agg #[.int .i64 0, .int .i64 0]) 2 16 Ybad.underlying48 hi2 hz2 hs2 hb2 rfl (by decide) _ _ _ rfl (((hr31.alloc _).kept hgrow1 (rows_apart hr31 hr30 (by decide))).alloc _) ⟨w2.heap.size, 0, none⟩ 1 1 [.int .i64 ck, .int .i64 lk] rfl rfl (cell_two_new _ _ _ _) (by simp [Value.oneCell']) (by unfold maxLen; omega) (by omega) (by simp at hz2' ⊢; omega) ?_; intro v2 w3 hown2 hgrow2 hiff2; obtain ⟨a2, c2, rfl⟩ := row_shape hown2)
                | go_in)
              go_roundw
              case rel =>
                have hgw1 := (World.grownBy_alloc wr (.cells #[.int .u64 kk] 25) (Value.slice a30 n1 c30).ownBlock).trans hgrow1
                have hgw2 := (World.grownBy_alloc w2 (.cells #[.int .i64 ck, .int .i64 lk] 51) (Value.slice a31 n1 c31).ownBlock).trans hgrow2
                have hr31' := hr31.kept hgw1 (rows_apart hr31 hr30 (by decide))
                refine ⟨k + 1, n1 + 1, a1, a2, c1, c2, by omega, by go_num, by omega, ?_, by go_num, rfl, rfl, (hbx.grown hgw1 hbx.size (fun j hj => (hr30.lt j hj).1)).grown hgw2 (Nat.le_trans hbx.size hgw1.size) (fun j hj => (hr31'.lt j hj).1), ?_, ?_⟩
                · show _ = _
                  rw [HFS.out]; simp [HN1.out]
                · rw [HFS.out]
                  have e1 := keysOf_snoc ((L.take k).filter (fun x => live (nanoOf wl ex) x.2)) (kk, ck, lk)
                  rw [if_pos rfl, e1]
                  exact hown1.kept hgw2 (rows_apart hown1 hr31' (by decide))
                · rw [HFS.out]
                  have e2 := valsOf_snoc ((L.take k).filter (fun x => live (nanoOf wl ex) x.2)) (kk, ck, lk)
                  rw [if_pos rfl, e2]
                  exact hown2
              case measure => simp [intOf]; omega
            · have hq : ¬ wrap64 (nanoOf wl ex - lk) < 60000000000 := by simpa [live] using hp
              have hp' : live (nanoOf wl ex) (ck, lk) = false := by simpa using hp
              rw [hp'] at HFS
              clear hp hp'
              go_wp2_with fail
              go_roundw
              case rel =>
                refine ⟨k + 1, n1, a30, a31, c30, c31, by omega, by go_num, by omega, ?_, rfl, rfl, rfl, hbx, ?_, ?_⟩
                · show _ = _
                  rw [HFS.out]; simp [HN1.out]
                · rw [HFS.out]; simpa using hr30
                · rw [HFS.out]; simpa using hr31
              case measure => simp [intOf]; omega
          · have hkn : k = n := by omega
            go_wp2_with fail
            go_meet
            case rel =>
              subst hkn
              have e : L.take k = L := List.take_of_length_le (by rw [HN.out]; omega)
              rw [e] at HN1 hr30 hr31
              refine ⟨n1, a30, a31, c30, c31, by rw [HK.out, HN1.out], rfl, rfl, by rw [HL.out]; exact HN1, by omega, hbx, ?_, ?_, ?_, ?_⟩
              · rw [HL.out]; exact row_lower hr30 (Nat.le_trans hFW (by omega))
              · rw [HL.out]; exact row_lower hr31 (Nat.le_trans hFW (by omega))
              · intro e1; have := (hr30.lt _ e1.symm).1; omega
              · intro e1; have := (hr31.lt _ e1.symm).1; omega
  case rest =>
    obtain ⟨n1, a30, a31, c30, c31, rfl, rfl, rfl, hn1, hn1b, hbx, hr30, hr31, hf30, hf31⟩ := hcut
    rename_i hK
    refine hK _ _ ?_
    have hFl1 : w.heap.size < w1.heap.size := by omega
    have hownx : _ := hown.kept (row := none) ⟨hbx.os, hbx.tape, hbx.output, hbx.size, fun j hj _ => hbx.block j hj⟩ (by simp)
    have hsub : ∀ x ∈ L1, x ∈ L := swept_sub hsw.out
    exact seg3 a0 len cap w.heap.size n1 B' nD a30 a31 c30 c31 kp1 (keySum a b c d p) (nanoOf wl ex) L1 D W _ (hbel1.trans (hbx.mono hbel1.size)) hlen hn1b hn1.out hent
      (cellIn hbx hFl1 hd0) (cellIn hbx hFl1 hd1) hownx hT (swept_once hsw.out ho) (fun x hx => hwf x (hsub x hx)) (keySum_wf a b c d p ha hb hc hd hp) hr30 hr31 hf30 hf31
end Go.Proofs.YbulkehbmDoor

