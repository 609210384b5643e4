/-
  LawS6672CWhole, its middle part: the law's own count of a name (regions 19 to 37).
-/
import Derived.Test.YbulkehdqSegC
import Derived.Test.YbulkehdqPlain
import Derived.Deep.CutBlock
namespace Go.Proofs.Ybulkehdq
open Go.RowKit Go.Maps

theorem counterV_one {L L' : List Ent} {p n : Nat} {z : Option Ent} (h : pick L' p n = none) (h1 : (ofName n L').length = 1) (h2 : (ofName n L).length = 1) (hz : (ofName n L').getLast? = z) : counterV L L' p n = ptrO z := by
  unfold counterV
  rw [h]
  simp only [h1, h2, and_self, if_true]
  obtain ⟨x, hx⟩ := List.length_eq_one_iff.1 h1
  rw [hx] at hz ⊢
  rw [← hz]
  rfl
theorem counterV_not {L L' : List Ent} {p n : Nat} (h : pick L' p n = none) (h1 : ¬ ((ofName n L').length = 1 ∧ (ofName n L).length = 1)) : counterV L L' p n = .pointer none := by
  unfold counterV
  rw [h]
  simp only [if_neg h1]

set_option maxHeartbeats 4000000 in
set_option maxRecDepth 1000000 in
theorem seg2 (W w : World) (base F base' G b d B1 B2 : Nat) (L L' : List Ent) (m m' : Option Nat) (p n : Nat) (a4 a5 : Option Addr) (c4 c5 : Nat) {s0 s1 s2 s3 s4 s5 s6 s7 s8 s9 s10 s11 s20 s21 s22 s23 s24 s25 s26 s27 s28 s29 s30 s31 s32 s33 s34 s35 s36 s37 s38 s39 s40 s41 s42 s43 s44 s45 s46 s47 s48 s49 s50 s51 s52 s53 s54 s55 s56 s57 s58 s59 s60 s61 s62 s63 s64 s65 s66 s67 s68 s69 s70 s71 s72 s73 s74 s75 s76 s77 s78 s79 s80 s81 s82 s83 s84 s85 s86 s87 s88 s89 s90 s91 s92 s93 s94 s95 s96 s97 s98 s99 s100 s101 s102 s103 s104 s105 s106 s107 s108 s109 s110 s111 s112 s113 s114 s115 s116 s117 s118 s119 s120 s121 s122 s123 s124 s125 s126 s127 s128 s129 s130 s131 s132 s133 s134 s135 s136 s137 s138 s139 s140 s141 s142 s143 s144 s145 s146 s147 s148 s149 s150 s151 s152 s153 s154 s155 s156 s157 s158 s159 s160 s161 s162 s163 s164 s165 s166 s167 s168 : Value}
    (hS : SetM w base F L m) (hS' : SetM w base' G L' m') (hp : p < 3) (hn : n < 3) (hL : L.length ≤ 65536) (hL' : L'.length ≤ 65536)
    (e0 : w.cell? ⟨b, 0, none⟩ = some (.string (pS p))) (e1 : w.cell? ⟨b, 1, none⟩ = some (.string (nS n))) (f0 : w.cell? ⟨d, 0, none⟩ = some (.string (pS p))) (f1 : w.cell? ⟨d, 1, none⟩ = some (.string (nS n)))
    (hR : w.ownsRow B1 43 2 (.slice a4 L.length c4) L.length (idCells L)) (hR' : w.ownsRow B2 43 2 (.slice a5 L'.length c5) L'.length (idCells L')) (hbel : Below W.heap.size W w) :
    Code.wp Yba.prog ((Yba.f4.body.bind (suffixAt 19)).getD .skip) (bodyPost Yba.prog Yba.f4 fun e w' => e = .returned (.bool true) ∧ Below W.heap.size W w') ⟨List.toArray (s0 :: s1 :: s2 :: s3 :: s4 :: s5 :: s6 :: s7 :: s8 :: s9 :: s10 :: s11 :: .bool false :: .pointer (some ⟨F, 0, none⟩) :: .pointer (some ⟨G, 0, none⟩) :: .pointer (some ⟨b, 0, none⟩) :: .pointer (some ⟨d, 0, none⟩) :: .slice a4 L.length c4 :: .slice a5 L'.length c5 :: ptrO (pick L' p n) :: s20 :: s21 :: s22 :: s23 :: s24 :: s25 :: s26 :: s27 :: s28 :: s29 :: s30 :: s31 :: s32 :: s33 :: s34 :: s35 :: s36 :: s37 :: s38 :: s39 :: s40 :: s41 :: s42 :: s43 :: s44 :: s45 :: s46 :: s47 :: s48 :: s49 :: s50 :: s51 :: s52 :: s53 :: s54 :: s55 :: s56 :: s57 :: s58 :: s59 :: s60 :: s61 :: s62 :: s63 :: s64 :: s65 :: s66 :: s67 :: s68 :: s69 :: s70 :: s71 :: s72 :: s73 :: s74 :: s75 :: s76 :: s77 :: s78 :: s79 :: s80 :: s81 :: s82 :: s83 :: s84 :: s85 :: s86 :: s87 :: s88 :: s89 :: s90 :: s91 :: s92 :: s93 :: s94 :: s95 :: s96 :: s97 :: s98 :: s99 :: s100 :: s101 :: s102 :: s103 :: s104 :: s105 :: s106 :: s107 :: s108 :: s109 :: s110 :: s111 :: s112 :: s113 :: s114 :: s115 :: s116 :: s117 :: s118 :: s119 :: s120 :: s121 :: s122 :: s123 :: s124 :: s125 :: s126 :: s127 :: s128 :: s129 :: s130 :: s131 :: s132 :: s133 :: s134 :: s135 :: s136 :: s137 :: s138 :: s139 :: s140 :: s141 :: s142 :: s143 :: s144 :: s145 :: s146 :: s147 :: s148 :: s149 :: s150 :: s151 :: s152 :: s153 :: s154 :: s155 :: s156 :: s157 :: s158 :: s159 :: s160 :: s161 :: s162 :: s163 :: s164 :: s165 :: s166 :: s167 :: s168 :: []), []⟩ w := by
  obtain ⟨aM, cM, hG, hGl, hrdM⟩ := SetM.reads hS'
  obtain ⟨aL, cL, hF, hFl, hrdL⟩ := SetM.reads hS
  have HRM := show Hid _ from hrdM
  have HRD := show Hid _ from hrdL
  have HS := show Hid _ from hS
  have HS' := show Hid _ from hS'
  have HR := show Hid _ from hR
  have HR' := show Hid _ from hR'
  have HB := show Hid _ from hbel
  have HE0 := show Hid _ from e0
  have HE1 := show Hid _ from e1
  have HF0 := show Hid _ from f0
  have hdw : d < w.heap.size := World.block_lt_of_cell? w _ f0
  obtain ⟨v4, hv4⟩ : ∃ v, Hid (v = Value.slice a4 L.length c4) := ⟨_, rfl⟩
  obtain ⟨v5, hv5⟩ : ∃ v, Hid (v = Value.slice a5 L'.length c5) := ⟨_, rfl⟩
  rw [← hv4.out, ← hv5.out]
  have HLL := show Hid _ from hL
  have HLL' := show Hid _ from hL'
  obtain ⟨l', hl'⟩ : ∃ l', Hid (L'.length = l') := ⟨_, rfl⟩
  obtain ⟨l, hl⟩ : ∃ l, Hid (L.length = l) := ⟨_, rfl⟩
  rw [hl'.out] at hG hL'
  rw [hl.out] at hF hL
  clear hS hS' hR hR' hbel hrdM hrdL e0 e1 f0
  obtain ⟨o, ho⟩ : ∃ o, Hid (pick L' p n = o) := ⟨_, rfl⟩
  rw [ho.out]
  conv => arg 2; whnf
  go_upto_region 19 with (fail)
  go_cut [97] from 96 (fun t97 wx => t97 = .bool o.isNone ∧ wx = w)
  case first =>
    cases o with
    | none =>
      simp only [ptrO]
      go_wp2_with fail
      go_meet
      case rel => exact ⟨rfl, rfl⟩
    | some x =>
      simp only [ptrO, ptrV]
      go_wp2_with fail
      go_meet
      case rel => exact ⟨rfl, rfl⟩
  case rest =>
    obtain ⟨rfl, rfl⟩ := hcut
    go_upto_if 97 with (fail)
    rename_i hK
    go_cut [19, 22, 23, 25, 26, 28] from 96 (fun t19 _ _ _ _ _ wx => t19 = counterV L L' p n ∧ ∃ q, wx = wc.drewN q)
    case first =>
      cases o with
      | some x =>
        have hv : counterV L L' p n = ptrV x := by simp [counterV, ho.out]
        have HV := show Hid _ from hv
        clear hv
        simp only [Option.isNone_some]
        go_wp2_with fail
        go_meet
        case rel => exact ⟨by rw [HV.out]; rfl, 0, rfl⟩
      | none =>
        simp only [Option.isNone_none, ptrO]
        go_upto_block 2 with (fail)
        go_cut [22, 23, 25] from 98 (fun t22 t23 _ wx => ∃ (c : Nat) (z : Option Ent) (q : Nat), t22 = .int .i64 c ∧ t23 = ptrO z ∧ wx = wc.drewN q ∧ Hid ((ofName n L').length = c) ∧ Hid ((ofName n L').getLast? = z))
        case first =>
          go_wp2_with fail
          go_loopw [22, 23, 25, 103] (fun t22 t23 _ t wx => ∃ (k q c : Nat) (z : Option Ent), k ≤ l' ∧ t = .int .i64 k ∧ t22 = .int .i64 c ∧ t23 = ptrO z ∧ wx = wc.drewN q ∧ c ≤ k ∧ Hid ((ofName n (L'.take k)).length = c) ∧ Hid ((ofName n (L'.take k)).getLast? = z)) (fun _ _ _ t _ => l' - (intOf t).toNat)
          case atStart => exact ⟨0, 0, 0, none, Nat.zero_le _, rfl, rfl, rfl, rfl, Nat.le_refl _, show (ofName n (L'.take 0)).length = 0 from rfl, show (ofName n (L'.take 0)).getLast? = none from rfl⟩
          case round =>
            obtain ⟨k, q, c, z, hk, rfl, rfl, rfl, rfl, hck, HC, HZ⟩ := hrel
            by_cases hlt : k < l'
            · have hlt' : (k : Int) < l' := by omega
              have hkL : k < L'.length := by have := hl'.out; omega
              obtain ⟨g, rfl, hgl, hxl, r0, r1, r2, hp2, hn2⟩ := HRM.out k hkL
              have htk := take_one hkL
              obtain ⟨x, hx⟩ : ∃ x, Hid (x = L'[k]) := ⟨L'[k], show L'[k] = L'[k] from rfl⟩
              rw [← hx.out] at r0 r1 r2 hp2 hn2 hxl htk
              obtain ⟨xb, xp, xn⟩ := x
              simp only [ptrV] at r0 r1 r2 hp2 hn2 hxl
              have hne := nS_eq hn2 hn
              have HSN : Hid (ofName n (L'.take (k + 1)) = _) := (by rw [htk]; exact ofName_snoc n (L'.take k) (xb, xp, xn) : ofName n (L'.take (k + 1)) = ofName n (L'.take k) ++ (if xn == n then [(xb, xp, xn)] else []))
              clear htk
              by_cases hnn : xn = n
              · subst hnn
                have HC1 : Hid ((ofName xn (L'.take (k + 1))).length = c + 1) := by
                  show _ = _
                  rw [HSN.out]; simp [HC.out]
                have HZ1 : Hid ((ofName xn (L'.take (k + 1))).getLast? = some (xb, xp, xn)) := by
                  show _ = _
                  rw [HSN.out]; simp
                have hc9 : (c : Int) ≤ 65536 := by omega
                clear hne
                go_wp2_with fail
                go_quiet (fail)
                go_wp2_with fail
                go_roundw
                case rel => exact ⟨k + 1, _, c + 1, some (xb, xp, xn), by omega, rfl, rfl, rfl, rfl, by omega, HC1, HZ1⟩
                case measure => simp [intOf]; omega
              · have hnf : ((nS xn).toList == (nS n).toList) = false := by rw [hne]; simpa using hnn
                have HC1 : Hid ((ofName n (L'.take (k + 1))).length = c) := by
                  show _ = _
                  rw [HSN.out]; simp [HC.out, hnn]
                have HZ1 : Hid ((ofName n (L'.take (k + 1))).getLast? = z) := by
                  show _ = _
                  rw [HSN.out]; simp [HZ.out, hnn]
                clear hne
                go_wp2_with fail
                go_quiet (fail)
                go_wp2_with fail
                go_roundw
                case rel => exact ⟨k + 1, _, c, z, by omega, rfl, rfl, rfl, rfl, by omega, HC1, HZ1⟩
                case measure => simp [intOf]; omega
            · have hke : k = l' := by omega
              subst hke
              have HCF : Hid ((ofName n L').length = c) := by
                have h := HC.out
                rw [List.take_of_length_le (by have := hl'.out; omega)] at h
                exact h
              have HZF : Hid ((ofName n L').getLast? = z) := by
                have h := HZ.out
                rw [List.take_of_length_le (by have := hl'.out; omega)] at h
                exact h
              go_wp2_with fail
              go_meet
              case rel => exact ⟨c, z, q, rfl, rfl, rfl, HCF, HZF⟩
        case rest =>
          obtain ⟨c, z, q, rfl, rfl, rfl, HC, HZ⟩ := hcut
          go_upto_block 4 with (fail)
          go_cut [26, 28] from 119 (fun t26 _ wx => ∃ (c2 q2 : Nat), t26 = .int .i64 c2 ∧ wx = wc.drewN q2 ∧ Hid ((ofName n L).length = c2))
          case first =>
            go_wp2_with fail
            go_loopw [26, 28, 124] (fun t26 _ t wx => ∃ (k q c : Nat), k ≤ l ∧ t = .int .i64 k ∧ t26 = .int .i64 c ∧ wx = wc.drewN q ∧ c ≤ k ∧ Hid ((ofName n (L.take k)).length = c)) (fun _ _ t _ => l - (intOf t).toNat)
            case atStart => exact ⟨0, q, 0, Nat.zero_le _, rfl, rfl, rfl, Nat.le_refl _, show (ofName n (L.take 0)).length = 0 from rfl⟩
            case round =>
              clear HC HZ
              obtain ⟨k, q, c, hk, rfl, rfl, rfl, hck, HC⟩ := hrel
              by_cases hlt : k < l
              · have hlt' : (k : Int) < l := by omega
                have hkL : k < L.length := by have := hl.out; omega
                obtain ⟨g, rfl, hgl, hxl, r0, r1, r2, hp2, hn2⟩ := HRD.out k hkL
                have htk := take_one hkL
                obtain ⟨x, hx⟩ : ∃ x, Hid (x = L[k]) := ⟨L[k], show L[k] = L[k] from rfl⟩
                rw [← hx.out] at r0 r1 r2 hp2 hn2 hxl htk
                obtain ⟨xb, xp, xn⟩ := x
                simp only [ptrV] at r0 r1 r2 hp2 hn2 hxl
                have hne := nS_eq hn2 hn
                have HSN : Hid (ofName n (L.take (k + 1)) = _) := (by rw [htk]; exact ofName_snoc n (L.take k) (xb, xp, xn) : ofName n (L.take (k + 1)) = ofName n (L.take k) ++ (if xn == n then [(xb, xp, xn)] else []))
                clear htk
                by_cases hnn : xn = n
                · subst hnn
                  have HC1 : Hid ((ofName xn (L.take (k + 1))).length = c + 1) := by
                    show _ = _
                    rw [HSN.out]; simp [HC.out]
                  have hc9 : (c : Int) ≤ 65536 := by omega
                  clear hne
                  go_wp2_with fail
                  go_quiet (fail)
                  go_wp2_with fail
                  go_roundw
                  case rel => exact ⟨k + 1, _, c + 1, by omega, rfl, rfl, rfl, by omega, HC1⟩
                  case measure => simp [intOf]; omega
                · have hnf : ((nS xn).toList == (nS n).toList) = false := by rw [hne]; simpa using hnn
                  have HC1 : Hid ((ofName n (L.take (k + 1))).length = c) := by
                    show _ = _
                    rw [HSN.out]; simp [HC.out, hnn]
                  clear hne
                  go_wp2_with fail
                  go_quiet (fail)
                  go_wp2_with fail
                  go_roundw
                  case rel => exact ⟨k + 1, _, c, by omega, rfl, rfl, rfl, by omega, HC1⟩
                  case measure => simp [intOf]; omega
              · have hke : k = l := by omega
                subst hke
                have HCF : Hid ((ofName n L).length = c) := by
                  have h := HC.out
                  rw [List.take_of_length_le (by have := hl.out; omega)] at h
                  exact h
                go_wp2_with fail
                go_meet
                case rel => exact ⟨c, q, rfl, rfl, HCF⟩
          case rest =>
            obtain ⟨c2, q2, rfl, rfl, HC2⟩ := hcut
            by_cases h1 : c = 1
            · subst h1
              by_cases h2 : c2 = 1
              · subst h2
                have HV : Hid (counterV L L' p n = ptrO z) := counterV_one ho.out HC.out HC2.out HZ.out
                go_wp2_with fail
                go_meet
                case rel => exact ⟨HV.out.symm, _, rfl⟩
              · have h2' : ¬ (c2 : Int) = 1 := by omega
                have HV : Hid (counterV L L' p n = .pointer none) := counterV_not ho.out (fun e => h2 (by rw [← HC2.out]; exact e.2))
                go_wp2_with fail
                go_meet
                case rel => exact ⟨HV.out.symm, _, rfl⟩
            · have h1' : ¬ (c : Int) = 1 := by omega
              have HV : Hid (counterV L L' p n = .pointer none) := counterV_not ho.out (fun e => h1 (by rw [← HC.out]; exact e.1))
              go_wp2_with fail
              go_meet
              case rel => exact ⟨HV.out.symm, _, rfl⟩
    case rest =>
      obtain ⟨rfl, q, rfl⟩ := hcut
      refine hK _ _ ?_
      rw [hv4.out, hv5.out]
      exact seg3 W (wc.drewN q) base F base' G b d B1 B2 L L' m m' p n a4 a5 c4 c5 HS.out HS'.out hp hn HLL.out HLL'.out HE0.out HE1.out HF0.out f1 HR.out HR'.out (HB.out.trans ⟨rfl, rfl, rfl, Nat.le_refl _, fun _ _ => rfl⟩)
end Go.Proofs.Ybulkehdq
