/-
  LawS6672CWhole, its last part: counterpart is asked, the answers are compared (regions 38 to 41).
-/
import Derived.Test.YbulkehdqCounter
import Derived.Test.YbulkehdqSame2
namespace Go.Proofs.Ybulkehdq
open Go.RowKit Go.Maps

/-- Does this code begin with region n? -/
def beginsAt (n : Nat) : Code → Bool
  | .region i _ _ => i == n
  | .seq a _ => beginsAt n a
  | .block _ c => beginsAt n c
  | .scope c => beginsAt n c
  | _ => false

/-- What is left of a sequence from region n on. -/
def suffixAt (n : Nat) : Code → Option Code
  | .seq a b => if beginsAt n a then some (.seq a b) else suffixAt n b
  | c => if beginsAt n c then some c else none

theorem counterV_ptr (L L' : List Ent) (p n : Nat) : ∃ o, counterV L L' p n = .pointer o := by
  unfold counterV
  split
  · exact ⟨_, rfl⟩
  · split
    · cases (ofName n L').head? with
      | none => exact ⟨_, rfl⟩
      | some x => exact ⟨_, rfl⟩
    · exact ⟨_, rfl⟩
theorem some47 : (Yba.prog.info? 47).isSome = true := by kernel_rfl
theorem neqSame (o : Option Addr) (w : World) : Sem.run Yba.prog (binOp BinOp.neq 36 (.pointer o) (.pointer o)) w = .ok (.bool false) w := by
  cases o with
  | none => simp [go_sem]
  | some a =>
    obtain ⟨j, hj⟩ := Option.isSome_iff_exists.1 some47
    exact Lib.run_neq_ptr_same w a Yba.underlying36 hj

set_option maxHeartbeats 1000000 in
set_option maxRecDepth 1000000 in
theorem seg3 (W w : World) (base F base' G b d B1 B2 : Nat) (L L' : List Ent) (m m' : Option Nat) (p n : Nat) (a4 a5 : Option Addr) (c4 c5 : Nat) {s0 s1 s2 s3 s4 s5 s6 s7 s8 s9 s10 s11 s20 s21 s22 s23 s24 s25 s26 s27 s28 s29 s30 s31 s32 s33 s34 s35 s36 s37 s38 s39 s40 s41 s42 s43 s44 s45 s46 s47 s48 s49 s50 s51 s52 s53 s54 s55 s56 s57 s58 s59 s60 s61 s62 s63 s64 s65 s66 s67 s68 s69 s70 s71 s72 s73 s74 s75 s76 s77 s78 s79 s80 s81 s82 s83 s84 s85 s86 s87 s88 s89 s90 s91 s92 s93 s94 s95 s96 s97 s98 s99 s100 s101 s102 s103 s104 s105 s106 s107 s108 s109 s110 s111 s112 s113 s114 s115 s116 s117 s118 s119 s120 s121 s122 s123 s124 s125 s126 s127 s128 s129 s130 s131 s132 s133 s134 s135 s136 s137 s138 s139 s140 s141 s142 s143 s144 s145 s146 s147 s148 s149 s150 s151 s152 s153 s154 s155 s156 s157 s158 s159 s160 s161 s162 s163 s164 s165 s166 s167 s168 : Value}
    (hS : SetM w base F L m) (hS' : SetM w base' G L' m') (hp : p < 3) (hn : n < 3) (hL : L.length ≤ 65536) (hL' : L'.length ≤ 65536)
    (e0 : w.cell? ⟨b, 0, none⟩ = some (.string (pS p))) (e1 : w.cell? ⟨b, 1, none⟩ = some (.string (nS n))) (f0 : w.cell? ⟨d, 0, none⟩ = some (.string (pS p))) (f1 : w.cell? ⟨d, 1, none⟩ = some (.string (nS n)))
    (hR : w.ownsRow B1 43 2 (.slice a4 L.length c4) L.length (idCells L)) (hR' : w.ownsRow B2 43 2 (.slice a5 L'.length c5) L'.length (idCells L')) (hbel : Below W.heap.size W w) :
    Code.wp Yba.prog ((Yba.f4.body.bind (suffixAt 38)).getD .skip) (bodyPost Yba.prog Yba.f4 fun e w' => e = .returned (.bool true) ∧ Below W.heap.size W w') ⟨List.toArray (s0 :: s1 :: s2 :: s3 :: s4 :: s5 :: s6 :: s7 :: s8 :: s9 :: s10 :: s11 :: .bool false :: .pointer (some ⟨F, 0, none⟩) :: .pointer (some ⟨G, 0, none⟩) :: .pointer (some ⟨b, 0, none⟩) :: .pointer (some ⟨d, 0, none⟩) :: .slice a4 L.length c4 :: .slice a5 L'.length c5 :: counterV L L' p n :: s20 :: s21 :: s22 :: s23 :: s24 :: s25 :: s26 :: s27 :: s28 :: s29 :: s30 :: s31 :: s32 :: s33 :: s34 :: s35 :: s36 :: s37 :: s38 :: s39 :: s40 :: s41 :: s42 :: s43 :: s44 :: s45 :: s46 :: s47 :: s48 :: s49 :: s50 :: s51 :: s52 :: s53 :: s54 :: s55 :: s56 :: s57 :: s58 :: s59 :: s60 :: s61 :: s62 :: s63 :: s64 :: s65 :: s66 :: s67 :: s68 :: s69 :: s70 :: s71 :: s72 :: s73 :: s74 :: s75 :: s76 :: s77 :: s78 :: s79 :: s80 :: s81 :: s82 :: s83 :: s84 :: s85 :: s86 :: s87 :: s88 :: s89 :: s90 :: s91 :: s92 :: s93 :: s94 :: s95 :: s96 :: s97 :: s98 :: s99 :: s100 :: s101 :: s102 :: s103 :: s104 :: s105 :: s106 :: s107 :: s108 :: s109 :: s110 :: s111 :: s112 :: s113 :: s114 :: s115 :: s116 :: s117 :: s118 :: s119 :: s120 :: s121 :: s122 :: s123 :: s124 :: s125 :: s126 :: s127 :: s128 :: s129 :: s130 :: s131 :: s132 :: s133 :: s134 :: s135 :: s136 :: s137 :: s138 :: s139 :: s140 :: s141 :: s142 :: s143 :: s144 :: s145 :: s146 :: s147 :: s148 :: s149 :: s150 :: s151 :: s152 :: s153 :: s154 :: s155 :: s156 :: s157 :: s158 :: s159 :: s160 :: s161 :: s162 :: s163 :: s164 :: s165 :: s166 :: s167 :: s168 :: []), []⟩ w := by
  obtain ⟨o, ho⟩ := counterV_ptr L L' p n
  have HO := show Hid _ from ho
  have hneq := neqSame o
  have hbw : b < w.heap.size := World.block_lt_of_cell? w _ e0
  have hdw : d < w.heap.size := World.block_lt_of_cell? w _ f0
  rw [ho]
  clear ho
  have HC := show Hid _ from counter_any base F base' G b L L' m m' p n w hS hS' hp hn (by omega) e0 e1
  conv => arg 2; whnf
  go_wp2_with fail
  refine Calls.mono HC.out ?_
  rintro e w1 ⟨rfl, hb1⟩
  rw [HO.out]
  have HS := show Hid _ from SetM.below hS hb1
  have HS' := show Hid _ from SetM.below hS' hb1
  have HR : Hid (w1.ownsRow B1 43 2 (.slice a4 L.length c4) L.length (idCells L)) := row_same hR (fun k _ hk => hb1.block k hk)
  have HR' : Hid (w1.ownsRow B2 43 2 (.slice a5 L'.length c5) L'.length (idCells L')) := row_same hR' (fun k _ hk => hb1.block k hk)
  have g0 := cellIn hb1 hbw e0
  have g1 := cellIn hb1 hbw e1
  have k0 := cellIn hb1 hdw f0
  have k1 := cellIn hb1 hdw f1
  have HB : Hid (Below W.heap.size W w1) := hbel.trans (hb1.mono hbel.size)
  have h1s := hb1.size
  have hbw1 : b < w1.heap.size := by omega
  have hdw1 : d < w1.heap.size := by omega
  have hL1 : L.length ≤ 100000 := by omega
  have hL1' : L'.length ≤ 100000 := by omega
  obtain ⟨v4, hv4⟩ : ∃ v, Hid (v = Value.slice a4 L.length c4) := ⟨_, rfl⟩
  obtain ⟨v5, hv5⟩ : ∃ v, Hid (v = Value.slice a5 L'.length c5) := ⟨_, rfl⟩
  rw [← hv4.out, ← hv5.out]
  have H4 : Hid (∀ q, Calls Yba.prog 15 #[.pointer (some ⟨F, 0, none⟩), v4] (w1.drewN q) fun e w' => e = .returned (.bool true) ∧ ∃ n, w' = (w1.drewN q).drewN n) := fun q => by
    rw [hv4.out]
    exact same_any base F B1 c4 a4 L m (w1.drewN q) HS.out HR.out hL1
  have H5 : Hid (∀ q, Calls Yba.prog 15 #[.pointer (some ⟨G, 0, none⟩), v5] (w1.drewN q) fun e w' => e = .returned (.bool true) ∧ ∃ n, w' = (w1.drewN q).drewN n) := fun q => by
    rw [hv5.out]
    exact same_any base' G B2 c5 a5 L' m' (w1.drewN q) HS'.out HR'.out hL1'
  clear hS hS' hR hR' e0 e1 f0 f1 hb1 hbel hbw hdw HC HS HS' HR HR'
  go_wp2_with fail
  go_quiet (first
    | (go_at_call_of 15 v4; refine Calls.quiet_of (H4.out _))
    | (go_at_call_of 15 v5; refine Calls.quiet_of (H5.out _)))
  go_wp2_with fail
  go_ret
  exact ⟨rfl, HB.out.trans ⟨rfl, rfl, rfl, Nat.le_refl _, fun _ _ => rfl⟩⟩
end Go.Proofs.Ybulkehdq
