/-
  LawS6668CWhole: the walk, from its head.
-/
import Derived.Test.YbulkehbmDoorSegA
namespace Go.Proofs.YbulkehbmDoor
open Go.RowKit Go.Maps

set_option maxHeartbeats 1000000 in
set_option maxRecDepth 1000000 in
theorem seg0 (a0 : Option Addr) (len cap Ni Nw : Nat) (nm : Bool) (kp wl ex a b c d p : Int) (z : Addr) {s3 s5 s6 s7 s8 s9 s11 s12 s13 s14 s17 s18 s19 s20 s21 s22 s23 s24 s25 s26 s27 s28 s29 s30 s31 s32 s33 s34 s35 s36 s37 s38 s39 s40 s41 s42 s43 s44 s45 s46 s47 s48 s49 s50 s51 s52 s53 s54 s55 s56 s57 s58 s59 s60 s61 s62 s63 s64 s65 s66 s67 s68 s69 s70 s71 s72 s73 s74 s75 s76 s77 s78 s79 s80 s81 s82 s83 s84 s85 s86 s87 s88 s89 s90 s91 s92 s93 s94 s95 s96 s97 s98 s99 s100 s101 s102 s103 s104 s105 s106 s107 s108 s109 s110 s111 s112 s113 s114 s115 s116 s117 s118 s119 s120 s121 s122 s123 s124 s125 s126 s127 s128 s129 s130 s131 s132 s133 s134 s135 s136 s137 s138 s139 s140 s141 s142 s143 s144 s145 s146 s147 s148 s149 s150 s151 s152 s153 s154 s155 s156 s157 s158 s159 s160 s161 s162 s163 s164 s165 s166 s167 s168 s169 s170 s171 s172 s173 s174 s175 s176 s177 s178 s179 s180 s181 s182 s183 s184 s185 s186 s187 s188 s189 s190 s191 s192 s193 s194 s195 s196 s197 s198 s199 s200 s201 s202 s203 s204 s205 s206 s207 s208 s209 s210 s211 s212 s213 s214 s215 s216 s217 s218 s219 s220 s221 s222 s223 s224 s225 s226 s227 s228 s229 s230 s231 s232 s233 s234 s235 s236 s237 s238 s239 s240 s241 s242 s243 s244 s245 s246 s247 s248 s249 s250 s251 s252 s253 s254 s255 s256 s257 s258 s259 s260 s261 s262 s263 s264 s265 s266 s267 s268 s269 s270 s271 s272 s273 s274 s275 s276 s277 s278 s279 : Value} (W w : World)
    (hbel : Below W.heap.size W w) (hlen : len ≤ 4096)
    (hent : ∀ k, k < len → ∃ eb eo x y z, a0 = some ⟨eb, eo, none⟩ ∧ eb < W.heap.size ∧ W.cell? ⟨eb, eo + k * 3, none⟩ = some (.int .u64 x) ∧ W.cell? ⟨eb, eo + k * 3 + 1, none⟩ = some (.int .i64 y) ∧ W.cell? ⟨eb, eo + k * 3 + 2, none⟩ = some (.int .i64 z) ∧ (Lit.int .u64 x).wf = true)
    (ha : Byte a) (hb : Byte b) (hc : Byte c) (hd : Byte d) (hp : 0 ≤ p ∧ p < 65536) (h0 : 0 ≤ wl) (h1 : wl < 1073741824)
    (hg : w.cell? ⟨0, 0, none⟩ = some (.pointer (some z)))
    (hw0 : w.cell? ⟨Nw, 0, none⟩ = some (.int .u64 wl)) (hw1 : w.cell? ⟨Nw, 1, none⟩ = some (.int .i64 ex)) (hw2 : w.cell? ⟨Nw, 2, none⟩ = some (.pointer none))
    (hi0 : w.cell? ⟨Ni, 0, none⟩ = some (.int .u8 a)) (hi1 : w.cell? ⟨Ni, 1, none⟩ = some (.int .u8 b)) (hi2 : w.cell? ⟨Ni, 2, none⟩ = some (.int .u8 c)) (hi3 : w.cell? ⟨Ni, 3, none⟩ = some (.int .u8 d)) :
    Code.wp Ybad.prog ((Ybad.f3.body.bind (suffixAt 9)).getD .skip) (bodyPost Ybad.prog Ybad.f3 fun e w' => e = .returned (.bool true) ∧ Below W.heap.size W w') ⟨List.toArray (.slice a0 len cap :: .bool nm :: .int .i64 kp :: s3 :: .int .u16 p :: s5 :: s6 :: s7 :: s8 :: s9 :: .pointer (some ⟨Ni, 0, none⟩) :: s11 :: s12 :: s13 :: s14 :: .pointer (some ⟨Nw, 0, none⟩) :: .int .i64 (nanoOf wl ex) :: s17 :: s18 :: s19 :: s20 :: s21 :: s22 :: s23 :: s24 :: s25 :: s26 :: s27 :: s28 :: s29 :: s30 :: s31 :: s32 :: s33 :: s34 :: s35 :: s36 :: s37 :: s38 :: s39 :: s40 :: s41 :: s42 :: s43 :: s44 :: s45 :: s46 :: s47 :: s48 :: s49 :: s50 :: s51 :: s52 :: s53 :: s54 :: s55 :: s56 :: s57 :: s58 :: s59 :: s60 :: s61 :: s62 :: s63 :: s64 :: s65 :: s66 :: s67 :: s68 :: s69 :: s70 :: s71 :: s72 :: s73 :: s74 :: s75 :: s76 :: s77 :: s78 :: s79 :: s80 :: s81 :: s82 :: s83 :: s84 :: s85 :: s86 :: s87 :: s88 :: s89 :: s90 :: s91 :: s92 :: s93 :: s94 :: s95 :: s96 :: s97 :: s98 :: s99 :: s100 :: s101 :: s102 :: s103 :: s104 :: s105 :: s106 :: s107 :: s108 :: s109 :: s110 :: s111 :: s112 :: s113 :: s114 :: s115 :: s116 :: s117 :: s118 :: s119 :: s120 :: s121 :: s122 :: s123 :: s124 :: s125 :: s126 :: s127 :: s128 :: s129 :: s130 :: s131 :: s132 :: s133 :: s134 :: s135 :: s136 :: s137 :: s138 :: s139 :: s140 :: s141 :: s142 :: s143 :: s144 :: s145 :: s146 :: s147 :: s148 :: s149 :: s150 :: s151 :: s152 :: s153 :: s154 :: s155 :: s156 :: s157 :: s158 :: s159 :: s160 :: s161 :: s162 :: s163 :: s164 :: s165 :: s166 :: s167 :: s168 :: s169 :: s170 :: s171 :: s172 :: s173 :: s174 :: s175 :: s176 :: s177 :: s178 :: s179 :: s180 :: s181 :: s182 :: s183 :: s184 :: s185 :: s186 :: s187 :: s188 :: s189 :: s190 :: s191 :: s192 :: s193 :: s194 :: s195 :: s196 :: s197 :: s198 :: s199 :: s200 :: s201 :: s202 :: s203 :: s204 :: s205 :: s206 :: s207 :: s208 :: s209 :: s210 :: s211 :: s212 :: s213 :: s214 :: s215 :: s216 :: s217 :: s218 :: s219 :: s220 :: s221 :: s222 :: s223 :: s224 :: s225 :: s226 :: s227 :: s228 :: s229 :: s230 :: s231 :: s232 :: s233 :: s234 :: s235 :: s236 :: s237 :: s238 :: s239 :: s240 :: s241 :: s242 :: s243 :: s244 :: s245 :: s246 :: s247 :: s248 :: s249 :: s250 :: s251 :: s252 :: s253 :: s254 :: s255 :: s256 :: s257 :: s258 :: s259 :: s260 :: s261 :: s262 :: s263 :: s264 :: s265 :: s266 :: s267 :: s268 :: s269 :: s270 :: s271 :: s272 :: s273 :: s274 :: s275 :: s276 :: s277 :: s278 :: s279 :: []), []⟩ w := by
  have hNw : Nw < w.heap.size := World.block_lt_of_cell? w _ hw0
  have hNi : Ni < w.heap.size := World.block_lt_of_cell? w _ hi0
  have h0w : 0 < w.heap.size := World.block_lt_of_cell? w _ hg
  conv => arg 2; whnf
  go_wp2_with fail
  refine (from4_any a b c d ha hb hc hd z _ hg).mono ?_
  rintro e w1 ⟨rfl, b1⟩
  go_wp2_with fail
  refine (portFrom_any 0 (loSum a b c d) p z _).mono ?_
  rintro e w2 ⟨rfl, b2⟩
  have bw2 : Below w.heap.size w w2 := b1.trans (b2.mono b1.size)
  have k0 := cellIn bw2 hNi hi0
  have k1 := cellIn bw2 hNi hi1
  have k2 := cellIn bw2 hNi hi2
  have k3 := cellIn bw2 hNi hi3
  have hNi2 : Ni < w2.heap.size := Nat.lt_of_lt_of_le hNi bw2.size
  clear b1 b2 hi0 hi1 hi2 hi3
  go_upto_region 10 with fail
  go_cut [19] from 39 (fun t19 wx => t19 = .int .u64 (keySum a b c d p) ∧ Below (w2.heap.size + 1) (w2.alloc (.cells #[.int .u64 0, .int .u64 (loSum a b c d), .pointer (some z), .int .u16 p] 43)) wx)
  case first =>
    go_wp2_with fail
    refine (ckey_any a b c d p ha hb hc hd hp _).mono ?_
    rintro e w3 ⟨rfl, b3⟩
    go_wp2_with fail
    go_meet
    case rel => exact ⟨rfl, b3.mono (by simp)⟩
  case rest =>
    obtain ⟨rfl, b3⟩ := hcut
    rename_i hK
    refine hK _ _ ?_
    have bw3 : Below w.heap.size w wc := bw2.trans (((Below.refl _ _).alloc bw2.size _).trans (b3.mono (by have := bw2.size; omega)))
    exact seg1 a0 len cap Nw w2.heap.size nm kp wl ex a b c d p z W _ (hbel.trans (bw3.mono hbel.size)) hlen hent ha hb hc hd hp h0 h1 (cellIn bw3 h0w hg) (cellIn bw3 hNw hw0) (cellIn bw3 hNw hw1) (cellIn bw3 hNw hw2)
      (cellIn b3 (by omega) (by simp)) (cellIn b3 (by omega) (by simp)) (cellIn b3 (by omega) (by simp)) (cellIn b3 (by omega) (by simp))

theorem wf_u64_bounds {n : Int} (h : (Lit.int .u64 n).wf = true) : 0 ≤ n ∧ n < 18446744073709551616 := by
  simp [Lit.wf, IntKind.min, IntKind.max, IntKind.signed, IntKind.bits] at h
  omega

theorem set4_far {w : World} {N b o : Nat} {v a0 a1 a2 a3 : Value} (hne : b ≠ N) (h : w.cell? ⟨b, o, none⟩ = some v) :
    ((((w.setCell ⟨N, 0, none⟩ a0).setCell ⟨N, 1, none⟩ a1).setCell ⟨N, 2, none⟩ a2).setCell ⟨N, 3, none⟩ a3).cell? ⟨b, o, none⟩ = some v := by
  have q : ∀ (w : World) (i : Nat) (u : Value), (w.setCell ⟨N, i, none⟩ u).cell? ⟨b, o, none⟩ = w.cell? ⟨b, o, none⟩ := fun w i u => World.cell?_setCell_other _ _ _ _ (by simp <;> omega)
  rw [q, q, q, q]; exact h

theorem set4_near {w : World} {N : Nat} {v0 v1 v2 v3 a0 a1 a2 a3 : Value} (h0 : w.cell? ⟨N, 0, none⟩ = some v0) (h1 : w.cell? ⟨N, 1, none⟩ = some v1) (h2 : w.cell? ⟨N, 2, none⟩ = some v2) (h3 : w.cell? ⟨N, 3, none⟩ = some v3) :
    ((((w.setCell ⟨N, 0, none⟩ a0).setCell ⟨N, 1, none⟩ a1).setCell ⟨N, 2, none⟩ a2).setCell ⟨N, 3, none⟩ a3).cell? ⟨N, 0, none⟩ = some a0 ∧
    ((((w.setCell ⟨N, 0, none⟩ a0).setCell ⟨N, 1, none⟩ a1).setCell ⟨N, 2, none⟩ a2).setCell ⟨N, 3, none⟩ a3).cell? ⟨N, 1, none⟩ = some a1 ∧
    ((((w.setCell ⟨N, 0, none⟩ a0).setCell ⟨N, 1, none⟩ a1).setCell ⟨N, 2, none⟩ a2).setCell ⟨N, 3, none⟩ a3).cell? ⟨N, 2, none⟩ = some a2 ∧
    ((((w.setCell ⟨N, 0, none⟩ a0).setCell ⟨N, 1, none⟩ a1).setCell ⟨N, 2, none⟩ a2).setCell ⟨N, 3, none⟩ a3).cell? ⟨N, 3, none⟩ = some a3 := by
  have q : ∀ (w : World) (i j : Nat) (u : Value), i ≠ j → (w.setCell ⟨N, i, none⟩ u).cell? ⟨N, j, none⟩ = w.cell? ⟨N, j, none⟩ := fun w i j u hij => World.cell?_setCell_other _ _ _ _ (by simp <;> omega)
  refine ⟨?_, ?_, ?_, ?_⟩
  · rw [q _ _ _ _ (by decide), q _ _ _ _ (by decide), q _ _ _ _ (by decide)]
    exact World.cell?_setCell_same _ _ _ h0
  · rw [q _ _ _ _ (by decide), q _ _ _ _ (by decide)]
    exact World.cell?_setCell_same (u := v1) _ _ _ (by rw [q _ _ _ _ (by decide)]; exact h1)
  · rw [q _ _ _ _ (by decide)]
    exact World.cell?_setCell_same (u := v2) _ _ _ (by rw [q _ _ _ _ (by decide), q _ _ _ _ (by decide)]; exact h2)
  · exact World.cell?_setCell_same (u := v3) _ _ _ (by rw [q _ _ _ _ (by decide), q _ _ _ _ (by decide), q _ _ _ _ (by decide)]; exact h3)

set_option maxHeartbeats 1000000 in
set_option maxRecDepth 1000000 in
theorem law_walk (a0 : Option Addr) (len cap : Nat) (nm : Bool) (kp a b c d p pk nn : Int) (z : Addr) (w : World)
    (hlm : len ≤ 9223372036854775807) (hd0 : -9223372036854775808 ≤ nn) (hd1 : nn ≤ 9223372036854775807) (hpk0 : 0 ≤ pk) (hpk1 : pk ≤ 255)
    (hent : ∀ k, k < len → ∃ eb eo x y z, a0 = some ⟨eb, eo, none⟩ ∧ eb < w.heap.size ∧ w.cell? ⟨eb, eo + k * 3, none⟩ = some (.int .u64 x) ∧ w.cell? ⟨eb, eo + k * 3 + 1, none⟩ = some (.int .i64 y) ∧ w.cell? ⟨eb, eo + k * 3 + 2, none⟩ = some (.int .i64 z) ∧ (Lit.int .u64 x).wf = true)
    (ha : Byte a) (hb : Byte b) (hc : Byte c) (hd : Byte d) (hp : 0 ≤ p ∧ p < 65536)
    (hg : w.cell? ⟨0, 0, none⟩ = some (.pointer (some z))) :
    Calls Ybad.prog 3 #[.slice a0 len cap, .bool nm, .int .i64 kp, .agg #[.int .u8 a, .int .u8 b, .int .u8 c, .int .u8 d], .int .u16 p, .int .u8 pk, .int .i64 nn] w fun e w' =>
      e = .returned (.bool true) ∧ Below w.heap.size w w' := by
  have h0w : 0 < w.heap.size := World.block_lt_of_cell? w _ hg
  by_cases hbig : 4096 < len
  · go_enter Ybad.func3, Ybad.ntmps3
    go_wp2_with fail
    go_ret
    exact ⟨rfl, (Below.refl _ _).alloc (Nat.le_refl _) _⟩
  · go_enter Ybad.func3, Ybad.ntmps3
    go_wp2_with fail
    refine (add_any nn hd0 hd1 _).mono ?_
    rintro e w1 ⟨wl, ex, rfl, h0, h1, b1⟩
    have b1' : Below (w.heap.size + 1) (w.alloc (.cells #[.int .u8 a, .int .u8 b, .int .u8 c, .int .u8 d] 23)) w1 := b1.mono (by simp)
    have z1 : w.heap.size + 1 ≤ w1.heap.size := by have := b1.size; simpa using this
    have y0 := cellIn b1' (b := w.heap.size) (o := 0) (v := .int .u8 a) (by omega) (by simp)
    have y1 := cellIn b1' (b := w.heap.size) (o := 1) (v := .int .u8 b) (by omega) (by simp)
    have y2 := cellIn b1' (b := w.heap.size) (o := 2) (v := .int .u8 c) (by omega) (by simp)
    have y3 := cellIn b1' (b := w.heap.size) (o := 3) (v := .int .u8 d) (by omega) (by simp)
    have yf : ∀ o, w1.frozen? ⟨w.heap.size, o, none⟩ = false := fun o => by rw [b1'.frozen (p := ⟨w.heap.size, o, none⟩) (Nat.lt_succ_self _)]; simp
    have bw1 : Below w.heap.size w w1 := ((Below.refl _ _).alloc (Nat.le_refl _) _).trans (b1'.mono (by omega))
    clear b1 b1'
    go_wp2_with fail
    refine (unixNano_any wl ex (.pointer none) h0 h1 _).mono ?_
    rintro e w2 ⟨rfl, b2⟩
    have b2' : Below (w1.heap.size + 1) (w1.alloc (.cells #[.int .u64 wl, .int .i64 ex, .pointer none] 28)) w2 := b2.mono (by simp)
    have z2 : w1.heap.size + 1 ≤ w2.heap.size := by have := b2.size; simpa using this
    have x0 := cellIn b2' (b := w1.heap.size) (o := 0) (v := .int .u64 wl) (by omega) (by simp)
    have x1 := cellIn b2' (b := w1.heap.size) (o := 1) (v := .int .i64 ex) (by omega) (by simp)
    have x2 := cellIn b2' (b := w1.heap.size) (o := 2) (v := .pointer none) (by omega) (by simp)
    have bw12 : Below w1.heap.size w1 w2 := ((Below.refl _ _).alloc (Nat.le_refl _) _).trans (b2'.mono (by omega))
    have u0 := cellIn bw12 (by omega) y0
    have u1 := cellIn bw12 (by omega) y1
    have u2 := cellIn bw12 (by omega) y2
    have u3 := cellIn bw12 (by omega) y3
    have uf : ∀ o, w2.frozen? ⟨w.heap.size, o, none⟩ = false := fun o => by rw [bw12.frozen (p := ⟨w.heap.size, o, none⟩) (by show w.heap.size < _; omega)]; exact yf o
    have bw2 : Below w.heap.size w w2 := bw1.trans (bw12.mono (by omega))
    have hg2 := cellIn bw2 h0w hg
    clear b2 b2' y0 y1 y2 y3 yf bw1
    by_cases hl0 : 0 < len
    · have hl0' : (0 : Int) < (len : Int) := by omega
      by_cases hodd : pk % 2 = 1
      · obtain ⟨j, hj⟩ : ∃ j : Nat, pk / 2 % (len : Int) = (j : Int) := ⟨(pk / 2 % (len : Int)).toNat, by have := Int.emod_nonneg (pk / 2) (b := (len : Int)) (by omega); omega⟩
        have hjl : j < len := by have := Int.emod_lt_of_pos (pk / 2) hl0'; omega
        obtain ⟨eb, eo, x, y, zz, ha0, hel, e1, _, _, hwx⟩ := hent j hjl
        have q1 := cellIn bw2 hel e1
        have hx0 := wf_u64_bounds hwx
        obtain ⟨hx0, hx1⟩ := hx0
        have f0 := uf 0
        have f1 := uf 1
        have f2 := uf 2
        have f3 := uf 3
        subst ha0
        go_upto_if 54 with fail
        go_cut [4, 17] from 39 (fun t4 _ wx => t4 = .int .u16 (x % 65536) ∧ wx = (((w2.setCell ⟨w.heap.size, 0, none⟩ (.int .u8 (x / 1099511627776 % 256))).setCell ⟨w.heap.size, 1, none⟩ (.int .u8 (x / 4294967296 % 256))).setCell ⟨w.heap.size, 2, none⟩ (.int .u8 (x / 16777216 % 256))).setCell ⟨w.heap.size, 3, none⟩ (.int .u8 (x / 65536 % 256)))
        case first =>
          go_wp2_with fail
          go_meet
          case rel => exact ⟨rfl, rfl⟩
        case rest =>
          obtain ⟨rfl, rfl⟩ := hcut
          rename_i hK
          refine hK _ _ ?_
          have hb4 : Below w.heap.size w ((((w2.setCell ⟨w.heap.size, 0, none⟩ (.int .u8 (x / 1099511627776 % 256))).setCell ⟨w.heap.size, 1, none⟩ (.int .u8 (x / 4294967296 % 256))).setCell ⟨w.heap.size, 2, none⟩ (.int .u8 (x / 16777216 % 256))).setCell ⟨w.heap.size, 3, none⟩ (.int .u8 (x / 65536 % 256))) :=
            (((bw2.setCell (p := ⟨w.heap.size, 0, none⟩) (Nat.le_refl _) _).setCell (p := ⟨w.heap.size, 1, none⟩) (Nat.le_refl _) _).setCell (p := ⟨w.heap.size, 2, none⟩) (Nat.le_refl _) _).setCell (p := ⟨w.heap.size, 3, none⟩) (Nat.le_refl _) _
          refine seg0 (some ⟨eb, eo, none⟩) len cap w.heap.size w1.heap.size nm kp wl ex (x / 1099511627776 % 256) (x / 4294967296 % 256) (x / 16777216 % 256) (x / 65536 % 256) (x % 65536) z w _ hb4 (by omega) hent ⟨by omega, by omega⟩ ⟨by omega, by omega⟩ ⟨by omega, by omega⟩ ⟨by omega, by omega⟩ ⟨by omega, by omega⟩ h0 h1 (cellIn hb4 h0w hg) ?_ ?_ ?_ ?_ ?_ ?_ ?_
          · exact set4_far (by omega) x0
          · exact set4_far (by omega) x1
          · exact set4_far (by omega) x2
          · exact (set4_near u0 u1 u2 u3).1
          · exact (set4_near u0 u1 u2 u3).2.1
          · exact (set4_near u0 u1 u2 u3).2.2.1
          · exact (set4_near u0 u1 u2 u3).2.2.2
      · go_upto_if 54 with fail
        go_cut [4] from 39 (fun t4 wx => t4 = .int .u16 p ∧ wx = w2)
        case first =>
          go_wp2_with fail
          go_meet
          case rel => exact ⟨rfl, rfl⟩
        case rest =>
          obtain ⟨rfl, rfl⟩ := hcut
          rename_i hK
          refine hK _ _ ?_
          exact seg0 a0 len cap w.heap.size w1.heap.size nm kp wl ex a b c d p z w _ bw2 (by omega) hent ha hb hc hd hp h0 h1 hg2 x0 x1 x2 u0 u1 u2 u3
    · go_upto_if 54 with fail
      go_cut [4] from 39 (fun t4 wx => t4 = .int .u16 p ∧ wx = w2)
      case first =>
        go_wp2_with fail
        go_meet
        case rel => exact ⟨rfl, rfl⟩
      case rest =>
        obtain ⟨rfl, rfl⟩ := hcut
        rename_i hK
        refine hK _ _ ?_
        exact seg0 a0 len cap w.heap.size w1.heap.size nm kp wl ex a b c d p z w _ bw2 (by omega) hent ha hb hc hd hp h0 h1 hg2 x0 x1 x2 u0 u1 u2 u3
end Go.Proofs.YbulkehbmDoor

