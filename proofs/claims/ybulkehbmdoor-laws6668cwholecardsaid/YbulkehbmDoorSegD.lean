/-
  LawS6668CWhole, its last part: the checks (regions 61 to 77).
-/
import Derived.Test.YbulkehbmDoorSent
import Derived.BigRegion
import Derived.Maps.OwnSet
namespace Go.Proofs.YbulkehbmDoor
open Go.RowKit Go.Maps

/-- Does this code begin with region n? -/
def beginsAt (n : Nat) : Code → Bool
  | .region i _ _ => i == n
  | .seq a _ => beginsAt n a
  | .block _ c => beginsAt n c
  | .scope c => beginsAt n c
  | _ => false

/-- What is left of a sequence from region n on. -/
def suffixAt (n : Nat) : Code → Option Code
  | .seq a b => if beginsAt n a then some (.seq a b) else suffixAt n b
  | c => if beginsAt n c then some c else none

set_option maxHeartbeats 1000000 in
set_option maxRecDepth 1000000 in
theorem seg4 (a0 : Option Addr) (len cap F g1 g2 n c1 c2 B m : Nat) (kp1 : Int) (ek ec el : Nat → Int) (D : DataW (Int × Int)) {s1 s2 s3 s4 s5 s6 s7 s8 s9 s10 s11 s12 s13 s14 s15 s16 s17 s18 s19 s20 s21 s22 s23 s24 s25 s26 s27 s32 s33 s34 s35 s36 s37 s38 s39 s40 s41 s42 s43 s44 s45 s46 s47 s48 s49 s50 s51 s52 s53 s54 s55 s56 s57 s58 s59 s60 s61 s62 s63 s64 s65 s66 s67 s68 s69 s70 s71 s72 s73 s74 s75 s76 s77 s78 s79 s80 s81 s82 s83 s84 s85 s86 s87 s88 s89 s90 s91 s92 s93 s94 s95 s96 s97 s98 s99 s100 s101 s102 s103 s104 s105 s106 s107 s108 s109 s110 s111 s112 s113 s114 s115 s116 s117 s118 s119 s120 s121 s122 s123 s124 s125 s126 s127 s128 s129 s130 s131 s132 s133 s134 s135 s136 s137 s138 s139 s140 s141 s142 s143 s144 s145 s146 s147 s148 s149 s150 s151 s152 s153 s154 s155 s156 s157 s158 s159 s160 s161 s162 s163 s164 s165 s166 s167 s168 s169 s170 s171 s172 s173 s174 s175 s176 s177 s178 s179 s180 s181 s182 s183 s184 s185 s186 s187 s188 s189 s190 s191 s192 s193 s194 s195 s196 s197 s198 s199 s200 s201 s202 s203 s204 s205 s206 s207 s208 s209 s210 s211 s212 s213 s214 s215 s216 s217 s218 s219 s220 s221 s222 s223 s224 s225 s226 s227 s228 s229 s230 s231 s232 s233 s234 s235 s236 s237 s238 s239 s240 s241 s242 s243 s244 s245 s246 s247 s248 s249 s250 s251 s252 s253 s254 s255 s256 s257 s258 s259 s260 s261 s262 s263 s264 s265 s266 s267 s268 s269 s270 s271 s272 s273 s274 s275 s276 s277 s278 s279 : Value} (W w : World)
    (hbel : Below W.heap.size W w) (hlen : len ≤ 5000) (hn : n ≤ 5000)
    (hent : ∀ k, k < len → ∃ eb eo x y z, a0 = some ⟨eb, eo, none⟩ ∧ eb < W.heap.size ∧ W.cell? ⟨eb, eo + k * 3, none⟩ = some (.int .u64 x) ∧ W.cell? ⟨eb, eo + k * 3 + 1, none⟩ = some (.int .i64 y) ∧ W.cell? ⟨eb, eo + k * 3 + 2, none⟩ = some (.int .i64 z))
    (hF0 : w.cell? ⟨F, 0, none⟩ = some (.map (some B))) (hF1 : w.cell? ⟨F, 1, none⟩ = some (.int .i64 kp1))
    (hown : w.ownsMap Ybad.prog 25 ofOwed B m D) (hsz : Maps.size D = n)
    (hmap : ∀ i, i < n → Maps.has D (.int .u64 (ek i)) = true ∧ (∀ z, D.atKey (.int .u64 (ek i)) z = .held (ec i, el i)) ∧ (Lit.int .u64 (ek i)).wf = true)
    (h1 : ∀ i, i < n → w.cell? ⟨g1, i, none⟩ = some (.int .u64 (ek i)))
    (h2 : ∀ i, i < n → w.cell? ⟨g2, i * 2, none⟩ = some (.int .i64 (ec i))) (h3 : ∀ i, i < n → w.cell? ⟨g2, i * 2 + 1, none⟩ = some (.int .i64 (el i))) :
    Code.wp Ybad.prog ((Ybad.f3.body.bind (suffixAt 61)).getD .skip) (bodyPost Ybad.prog Ybad.f3 fun e w' => e = .returned (.bool true) ∧ Below W.heap.size W w') ⟨List.toArray (.slice a0 len cap :: s1 :: s2 :: s3 :: s4 :: s5 :: s6 :: s7 :: s8 :: s9 :: s10 :: s11 :: s12 :: s13 :: s14 :: s15 :: s16 :: s17 :: s18 :: s19 :: s20 :: s21 :: s22 :: s23 :: s24 :: s25 :: s26 :: s27 :: .pointer (some ⟨F, 0, none⟩) :: .int .i64 kp1 :: .slice (some ⟨g1, 0, none⟩) n c1 :: .slice (some ⟨g2, 0, none⟩) n c2 :: s32 :: s33 :: s34 :: s35 :: s36 :: s37 :: s38 :: s39 :: s40 :: s41 :: s42 :: s43 :: s44 :: s45 :: s46 :: s47 :: s48 :: s49 :: s50 :: s51 :: s52 :: s53 :: s54 :: s55 :: s56 :: s57 :: s58 :: s59 :: s60 :: s61 :: s62 :: s63 :: s64 :: s65 :: s66 :: s67 :: s68 :: s69 :: s70 :: s71 :: s72 :: s73 :: s74 :: s75 :: s76 :: s77 :: s78 :: s79 :: s80 :: s81 :: s82 :: s83 :: s84 :: s85 :: s86 :: s87 :: s88 :: s89 :: s90 :: s91 :: s92 :: s93 :: s94 :: s95 :: s96 :: s97 :: s98 :: s99 :: s100 :: s101 :: s102 :: s103 :: s104 :: s105 :: s106 :: s107 :: s108 :: s109 :: s110 :: s111 :: s112 :: s113 :: s114 :: s115 :: s116 :: s117 :: s118 :: s119 :: s120 :: s121 :: s122 :: s123 :: s124 :: s125 :: s126 :: s127 :: s128 :: s129 :: s130 :: s131 :: s132 :: s133 :: s134 :: s135 :: s136 :: s137 :: s138 :: s139 :: s140 :: s141 :: s142 :: s143 :: s144 :: s145 :: s146 :: s147 :: s148 :: s149 :: s150 :: s151 :: s152 :: s153 :: s154 :: s155 :: s156 :: s157 :: s158 :: s159 :: s160 :: s161 :: s162 :: s163 :: s164 :: s165 :: s166 :: s167 :: s168 :: s169 :: s170 :: s171 :: s172 :: s173 :: s174 :: s175 :: s176 :: s177 :: s178 :: s179 :: s180 :: s181 :: s182 :: s183 :: s184 :: s185 :: s186 :: s187 :: s188 :: s189 :: s190 :: s191 :: s192 :: s193 :: s194 :: s195 :: s196 :: s197 :: s198 :: s199 :: s200 :: s201 :: s202 :: s203 :: s204 :: s205 :: s206 :: s207 :: s208 :: s209 :: s210 :: s211 :: s212 :: s213 :: s214 :: s215 :: s216 :: s217 :: s218 :: s219 :: s220 :: s221 :: s222 :: s223 :: s224 :: s225 :: s226 :: s227 :: s228 :: s229 :: s230 :: s231 :: s232 :: s233 :: s234 :: s235 :: s236 :: s237 :: s238 :: s239 :: s240 :: s241 :: s242 :: s243 :: s244 :: s245 :: s246 :: s247 :: s248 :: s249 :: s250 :: s251 :: s252 :: s253 :: s254 :: s255 :: s256 :: s257 :: s258 :: s259 :: s260 :: s261 :: s262 :: s263 :: s264 :: s265 :: s266 :: s267 :: s268 :: s269 :: s270 :: s271 :: s272 :: s273 :: s274 :: s275 :: s276 :: s277 :: s278 :: s279 :: []), []⟩ w := by
  have hen := eqlNil
  have hml := hown.len Ybad.underlying49 3
  rw [hsz] at hml
  conv => arg 2; whnf
  go_wp2_with fail
  go_loopw [35, 244] (fun _ t wr => ∃ k : Nat, k ≤ n ∧ t = .int .i64 k ∧ Below w.heap.size w wr) (fun _ t _ => n - (intOf t).toNat)
  case atStart => exact ⟨0, Nat.zero_le _, rfl, Below.refl _ _⟩
  case round =>
    obtain ⟨k, hk, rfl, hbr⟩ := hrel
    by_cases hlt : k < n
    · obtain ⟨m1, m2, m3⟩ := hmap k hlt
      have hBl : B < w.heap.size := hown.lt
      have hFl : F < w.heap.size := World.block_lt_of_cell? w _ hF0
      have hG1 : g1 < w.heap.size := World.block_lt_of_cell? w _ (h1 k hlt)
      have hG2 : g2 < w.heap.size := World.block_lt_of_cell? w _ (h2 k hlt)
      have rF := cellIn hbr hFl hF0
      have r1 := cellIn hbr hG1 (h1 k hlt)
      have r2 := cellIn hbr hG2 (h2 k hlt)
      have r3 := cellIn hbr hG2 (h3 k hlt)
      have hownr : wr.ownsMap Ybad.prog 25 ofOwed B m D := hown.kept (row := none) ⟨hbr.os, hbr.tape, hbr.output, hbr.size, fun j hj _ => hbr.block j hj⟩ (by simp)
      have hkl := keyOf_int_mk Ybad.underlying25 m3
      have hlk : ∀ w', w'.ownsMap Ybad.prog 25 ofOwed B m D → (Instr.lookup 49 (.map (some B)) (.int .u64 (ek k)) true).run Ybad.prog w' = .ok (.tuple #[.agg #[.int .i64 (ec k), .int .i64 (el k)], .bool true]) w' := fun w' ho => by
        obtain ⟨v, ps, hr, hv⟩ := ho.look_ok law25 Ybad.underlying49 (zero51 _) (ofOwed_mk 0 0) hkl
        obtain ⟨q, rfl, hq⟩ := ofOwed_inv hv
        rw [m2] at hq
        injection hq with hq _
        injection hq with hq
        subst hq
        rw [hr, m1]
      have hl1 := hlk wr.drew hownr.drew
      have hl2 := fun o => hlk (wr.alloc o).drew (hownr.alloc o).drew
      have hGr1 : g1 < wr.heap.size := Nat.lt_of_lt_of_le hG1 hbr.size
      have hGr2 : g2 < wr.heap.size := Nat.lt_of_lt_of_le hG2 hbr.size
      have hFr : F < wr.heap.size := Nat.lt_of_lt_of_le hFl hbr.size
      clear hlk hmap h1 h2 h3 hent m1 m2 m3 hkl
      go_wp2_with fail
      go_region
      go_wp2_with fail
      go_quiet (fail)
      go_wp2_with fail
      go_roundw
      case rel => exact ⟨k + 1, by omega, by go_num, below_drewN (hbr.alloc hbr.size _) _⟩
      case measure => simp [intOf]; omega
    · go_wp2_with fail
      have hbr2 : Below W.heap.size W wr := hbel.trans (hbr.mono hbel.size)
      clear hml hF0 hF1 hown hmap h1 h2 h3 hbr
      go_loopw [38, 272] (fun _ t wx => ∃ j : Nat, j ≤ len ∧ t = .int .i64 j ∧ wx = wr) (fun _ t _ => len - (intOf t).toNat)
      case atStart => exact ⟨0, Nat.zero_le _, rfl, rfl⟩
      case round =>
        obtain ⟨j, hj, rfl, rfl⟩ := hrel
        by_cases hjl : j < len
        · obtain ⟨eb, eo, x, y, z, rfl, hel, e1, e2, e3⟩ := hent j hjl
          have q1 := cellIn hbr2 hel e1
          have q2 := cellIn hbr2 hel e2
          have q3 := cellIn hbr2 hel e3
          go_wp2_with fail
          go_roundw
          case rel => exact ⟨j + 1, by omega, by go_num, trivial⟩
          case measure => simp [intOf]; omega
        · go_wp2_with fail
          go_ret
          exact ⟨rfl, hbr2⟩
end Go.Proofs.YbulkehbmDoor

