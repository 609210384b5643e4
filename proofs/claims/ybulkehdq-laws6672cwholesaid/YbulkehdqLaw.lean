/-
  LawS6672CWhole (function 4): the walk.
-/
import Derived.Test.YbulkehdqSet
import Derived.Test.YbulkehdqSegB
namespace Go.Proofs.Ybulkehdq
open Go.RowKit Go.Maps

theorem Pairs.below {w w1 : World} {a : Option Addr} {len : Nat} (h : Pairs w a len) (hb : Below w.heap.size w w1) : Pairs w1 a len := by
  intro i hi
  obtain ⟨b, o, x, y, ha, hl, c0, c1, rest⟩ := h i hi
  exact ⟨b, o, x, y, ha, Nat.lt_of_lt_of_le hl hb.size, cellOf hb hl c0, cellOf hb hl c1, rest⟩

theorem cell_new4 (w : World) (v0 v1 v2 v3 : Value) (t : TypeId) : (w.alloc (.cells #[v0, v1, v2, v3] t)).cell? ⟨w.heap.size, 0, none⟩ = some v0 ∧ (w.alloc (.cells #[v0, v1, v2, v3] t)).cell? ⟨w.heap.size, 1, none⟩ = some v1 := by
  have h := heap_new w (.cells #[v0, v1, v2, v3] t)
  constructor
  · simp only [World.cell?, h]; rfl
  · simp only [World.cell?, h]; rfl
set_option maxRecDepth 4000 in
set_option maxHeartbeats 4000000 in
theorem law_any (a a' : Option Addr) (len len' cap cap' : Nat) (pk : Int) (st : Bool) (sp sn : Int) (w : World) (he : Pairs w a len) (he' : Pairs w a' len')
    (hlm : (len : Int) < 4611686018427387904) (hlm' : (len' : Int) < 4611686018427387904) (hpk0 : 0 ≤ pk) (hsp0 : 0 ≤ sp) (hsp1 : sp < 256) (hsn0 : 0 ≤ sn) (hsn1 : sn < 256) :
    Calls Yba.prog 4 #[.slice a len cap, .slice a' len' cap', .int .u64 pk, .bool st, .int .u8 sp, .int .u8 sn] w fun e w' => e = .returned (.bool true) ∧ Below w.heap.size w w' := by
  by_cases hbig : (65536 : Int) < len + len'
  · clear he he'
    go_enter Yba.func4, Yba.ntmps4
    go_wp2_with fail
    go_ret
    exact ⟨rfl, Below.refl _ _⟩
  have HE := show Hid _ from he
  have HE' := show Hid _ from he'
  clear he he'
  have hsm : (len : Int) + len' ≤ 65536 := by omega
  go_enter Yba.func4, Yba.ntmps4
  go_wp2_with fail
  refine (set_any a len cap w HE.out (by omega)).mono ?_
  rintro e w1 ⟨L, m, rfl, hS, hLl, hb1⟩
  have hE1 := Pairs.below HE'.out hb1
  have HE1 := show Hid _ from hE1
  have HS := show Hid _ from hS
  clear hS hE1 HE HE'
  go_wp2_with fail
  refine (set_any a' len' cap' w1 HE1.out (by omega)).mono ?_
  rintro e w2 ⟨L', m', rfl, hS', hLl', hb2⟩
  have HB2 := show Hid _ from hb1.trans (hb2.mono hb1.size)
  have hS1 := SetM.below HS.out hb2
  clear HS HE1
  obtain ⟨aL, cL, hF, hFl, hrd⟩ := hS1.reads
  have HS1 := show Hid _ from hS1
  have HS' := show Hid _ from hS'
  have HRD := show Hid _ from hrd
  have hb1s := hb1.size
  have hb2s := hb2.size
  clear hS1 hS' hrd hb1 hb2
  obtain ⟨l, hl⟩ : ∃ l, Hid (L.length = l) := ⟨_, rfl⟩
  rw [hl.out] at hF hLl
  go_upto_region 6 with (fail)
  go_cut [48] from 40 (fun t48 wx => t48 = .bool (st || (l == 0)) ∧ wx = w2)
  case first =>
    cases st with
    | true =>
      go_wp2_with fail
      go_meet
      case rel => exact ⟨rfl, rfl⟩
    | false =>
      go_wp2_with fail
      go_meet
      case rel => exact ⟨by simp only [Bool.false_or, Value.bool.injEq]; rw [Bool.eq_iff_iff]; simp, rfl⟩
  case rest =>
    obtain ⟨rfl, rfl⟩ := hcut
    obtain ⟨t, ht⟩ : ∃ t, Hid ((st || (l == 0)) = t) := ⟨_, rfl⟩
    rw [ht.out]
    go_upto_if 48 with (fail)
    go_cut [15] from 40 (fun t15 wx => ∃ (b p n : Nat), t15 = .pointer (some ⟨b, 0, none⟩) ∧ p < 3 ∧ n < 3 ∧ wx.cell? ⟨b, 0, none⟩ = some (.string (pS p)) ∧ wx.cell? ⟨b, 1, none⟩ = some (.string (nS n)) ∧ Below wc.heap.size wc wx)
    case first =>
      cases t with
      | true =>
        go_wp2_with fail
        refine (pkg_any sp hsp0 hsp1 _).mono ?_
        rintro e w3 ⟨rfl, rfl⟩
        go_wp2_with fail
        refine (name_any sn hsn0 hsn1 _).mono ?_
        rintro e w4 ⟨rfl, rfl⟩
        go_wp2_with fail
        go_meet
        case rel =>
          exact ⟨_, (sp % 3).toNat, (sn % 3).toNat, rfl, by omega, by omega, (cell_new4 ..).1, (cell_new4 ..).2, (Below.refl _ _).alloc (Nat.le_refl _) _⟩
      | false =>
        have hl0 : 0 < l := by
          have := ht.out
          simp at this
          omega
        have hl0' : (0 : Int) < l := by omega
        have hll : (l : Int) ≤ 65536 := by omega
        have hl1 : (l : Int) % 18446744073709551616 = l := by omega
        have hl2 : ¬ (l : Int) = 0 := by omega
        have hm0 : 0 ≤ pk % (l : Int) := Int.emod_nonneg _ hl2
        obtain ⟨i, hi⟩ : ∃ i : Nat, Hid (pk % (l : Int) = i) := ⟨(pk % (l : Int)).toNat, show pk % (l : Int) = _ by omega⟩
        have him : pk % (l : Int) < l := Int.emod_lt_of_pos _ hl0'
        rw [hi.out] at him
        have hiL : i < L.length := by have := hl.out; omega
        obtain ⟨g, rfl, hgl, hxl, c0, c1, c2, hp, hn⟩ := HRD.out i hiL
        obtain ⟨x, hx⟩ : ∃ x, Hid (x = L[i]) := ⟨L[i], show L[i] = L[i] from rfl⟩
        rw [← hx.out] at c0 c1 c2 hxl hp hn
        obtain ⟨xb, xp, xn⟩ := x
        simp only [ptrV] at c0 c1 c2 hxl hp hn
        have hwl : IntKind.u64.wrap (l : Int) = l := by rw [IntKind.wrap_u64]; omega
        have hwu : IntKind.u64.wrap (i : Int) = i := by rw [IntKind.wrap_u64]; omega
        have htm : pk.tmod (l : Int) = i := by rw [Int.tmod_eq_emod_of_nonneg hpk0]; exact hi.out
        have hem : pk % (l : Int) = i := hi.out
        have hwi : IntKind.i64.wrap (i : Int) = i := by rw [IntKind.wrap_i64]; omega
        clear hm0
        go_wp2_with fail
        go_quiet (fail)
        go_wp2_with fail
        go_meet
        case rel => exact ⟨xb, xp, xn, rfl, hp, hn, c1, c2, ⟨rfl, rfl, rfl, Nat.le_refl _, fun _ _ => rfl⟩⟩
    case rest =>
      obtain ⟨b, p, n, rfl, hp, hn, c0, c1, hb3⟩ := hcut
      have hwc := hb3.size
      have hS5 := SetM.below HS1.out hb3
      have hS5' := SetM.below HS'.out hb3
      have HB5 := show Hid _ from Below.trans HB2.out (hb3.mono (by omega))
      have hbw : b < wc.heap.size := World.block_lt_of_cell? wc _ c0
      have hb4 : Below wc.heap.size wc (wc.alloc (.cells #[.string (pS p), .string (nS n)] 43)) := (Below.refl _ _).alloc (Nat.le_refl _) _
      have HS5 := show Hid _ from SetM.below hS5 hb4
      have HS5' := show Hid _ from SetM.below hS5' hb4
      have HB4 := show Hid _ from hb4
      have d0 := cell_two_new wc (.string (pS p)) (.string (nS n)) 43 0 _ rfl
      have d1 := cell_two_new wc (.string (pS p)) (.string (nS n)) 43 1 _ rfl
      simp only [Addr.add_lit, Nat.zero_add] at d0 d1
      clear hS5 hS5' hb4 hb3 HB2 HS1 HS' ht hF HRD
      go_wp2_with fail
      refine (ids_any _ _ L m _ HS5.out (by have := hl.out; omega)).mono ?_
      rintro e w4 ⟨a4, c4, rfl, hr4, hb4⟩
      have HS6 := show Hid _ from SetM.below HS5.out hb4
      have HS6' := show Hid _ from SetM.below HS5'.out hb4
      have HR4 := show Hid _ from hr4
      have HB6 := show Hid _ from hb4
      clear HS5 HS5' hr4 hb4
      go_wp2_with fail
      refine (ids_any _ _ L' m' _ HS6'.out (by omega)).mono ?_
      rintro e w5 ⟨a5, c5, rfl, hr5, hb5⟩
      have hHR : Hid (w5.ownsRow (wc.alloc (.cells #[.string (pS p), .string (nS n)] 43)).heap.size 43 2 (.slice a4 L.length c4) L.length (idCells L)) := row_same HR4.out (fun k _ hk => hb5.block k hk)
      have HR5 := show Hid _ from hr5
      have HS := show Hid _ from SetM.below HS6.out hb5
      have HS' := show Hid _ from SetM.below HS6'.out hb5
      have s4 := HB4.out.size
      have s6 := HB6.out.size
      have s5 := hb5.size
      have hcl : wc.heap.size < (wc.alloc (.cells #[.string (pS p), .string (nS n)] 43)).heap.size := by simp
      have e0 : w5.cell? ⟨b, 0, none⟩ = some (.string (pS p)) := cellOf hb5 (by omega) (cellOf HB6.out (by omega) (cellOf HB4.out hbw c0))
      have e1 : w5.cell? ⟨b, 1, none⟩ = some (.string (nS n)) := cellOf hb5 (by omega) (cellOf HB6.out (by omega) (cellOf HB4.out hbw c1))
      have f0 : w5.cell? ⟨wc.heap.size, 0, none⟩ = some (.string (pS p)) := cellOf hb5 (by omega) (cellOf HB6.out (by omega) d0)
      have f1 : w5.cell? ⟨wc.heap.size, 1, none⟩ = some (.string (nS n)) := cellOf hb5 (by omega) (cellOf HB6.out (by omega) d1)
      have HB : Hid (Below w.heap.size w w5) := Below.trans HB5.out (Below.trans (HB4.out.mono (by omega)) (Below.trans (HB6.out.mono (by omega)) (hb5.mono (by omega))))
      have hbw5 : b < w5.heap.size := by omega
      have hcw5 : wc.heap.size < w5.heap.size := by omega
      clear c0 c1 d0 d1 hr5 hb5 HS6 HS6' HR4 HB6 HB4 HB5 s4 s6 s5 hcl
      obtain ⟨aM, cM, hG, hGl, hrdM⟩ := SetM.reads HS'.out
      have HRM := show Hid _ from hrdM
      clear hrdM
      obtain ⟨l', hl'⟩ : ∃ l', Hid (L'.length = l') := ⟨_, rfl⟩
      rw [hl'.out] at hG hLl'
      go_upto_block 0 with (fail)
      rename_i hK
      go_cut [19, 21] from 79 (fun t19 _ wx => t19 = ptrO (pick L' p n) ∧ ∃ q, wx = w5.drewN q)
      case first =>
        go_wp2_with fail
        go_loopw [19, 21, 84] (fun t19 _ t wx => ∃ k q : Nat, k ≤ l' ∧ t = .int .i64 k ∧ t19 = .pointer none ∧ wx = w5.drewN q ∧ Hid (pick (L'.take k) p n = none)) (fun _ _ t _ => l' - (intOf t).toNat)
        case atStart => exact ⟨0, 0, Nat.zero_le _, rfl, rfl, rfl, show pick (L'.take 0) p n = none from rfl⟩
        case round =>
          obtain ⟨k, q, hk, rfl, rfl, rfl, HA⟩ := hrel
          by_cases hlt : k < l'
          · have hlt' : (k : Int) < l' := by omega
            have hkL : k < L'.length := by have := hl'.out; omega
            obtain ⟨g, rfl, hgl, hxl, r0, r1, r2, hp2, hn2⟩ := HRM.out k hkL
            have htk := take_one hkL
            obtain ⟨x, hx⟩ : ∃ x, Hid (x = L'[k]) := ⟨L'[k], show L'[k] = L'[k] from rfl⟩
            rw [← hx.out] at r0 r1 r2 hp2 hn2 hxl htk
            obtain ⟨xb, xp, xn⟩ := x
            simp only [ptrV] at r0 r1 r2 hp2 hn2 hxl
            have hpe := pS_eq hp2 hp
            have hne := nS_eq hn2 hn
            have hps := pick_snoc (L'.take k) (xb, xp, xn) p n
            rw [HA.out, ← htk] at hps
            have HPS := show Hid _ from hps
            clear hps htk
            by_cases hpp : xp = p
            · subst hpp
              by_cases hnn : xn = n
              · subst hnn
                have HF : Hid (pick L' xp xn = some (xb, xp, xn)) := pick_take (k := k + 1) (by rw [HPS.out]; simp)
                clear hpe hne
                go_wp2_with fail
                go_quiet (fail)
                go_wp2_with fail
                go_meet
                case rel => exact ⟨by rw [HF.out]; rfl, _, World.drewN_drewN ..⟩
              · have hnf : ((nS xn).toList == (nS n).toList) = false := by rw [hne]; simpa using hnn
                have HF : Hid (pick (L'.take (k + 1)) xp n = none) := by
                  show _ = _
                  rw [HPS.out]; simp [hnn]
                clear hpe hne
                go_wp2_with fail
                go_quiet (fail)
                go_wp2_with fail
                go_roundw
                case rel => exact ⟨k + 1, _, by omega, rfl, rfl, rfl, HF⟩
                case measure => simp [intOf]; omega
            · have hpf : ((pS xp).toList == (pS p).toList) = false := by rw [hpe]; simpa using hpp
              have HF : Hid (pick (L'.take (k + 1)) p n = none) := by
                show _ = _
                rw [HPS.out]; simp [hpp]
              clear hpe hne
              go_wp2_with fail
              go_quiet (fail)
              go_wp2_with fail
              go_roundw
              case rel => exact ⟨k + 1, _, by omega, rfl, rfl, rfl, HF⟩
              case measure => simp [intOf]; omega
          · have hke : k = l' := by omega
            subst hke
            have HF : Hid (pick L' p n = none) := by
              have h := HA.out
              rw [List.take_of_length_le (by have := hl'.out; omega)] at h
              exact h
            go_wp2_with fail
            go_meet
            case rel => exact ⟨by rw [HF.out]; rfl, _, rfl⟩
      case rest =>
        obtain ⟨rfl, q1, rfl⟩ := hcut
        refine hK _ _ ?_
        exact seg2 w (w5.drewN q1) _ _ _ _ b _ _ _ L L' m m' p n a4 a5 c4 c5 HS.out HS'.out hp hn (by have := hl.out; omega) (by have := hl'.out; omega) e0 e1 f0 f1 hHR.out HR5.out (HB.out.trans ⟨rfl, rfl, rfl, Nat.le_refl _, fun _ _ => rfl⟩)
end Go.Proofs.Ybulkehdq
