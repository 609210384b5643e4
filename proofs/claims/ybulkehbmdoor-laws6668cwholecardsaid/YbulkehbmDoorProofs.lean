/-
  LawS6668CWhole: the row, and the tied card.
-/
import Derived.Test.YbulkehbmDoorRows
import Derived.Test.YbulkehbmDoorTie
import Derived.Test.YbulkehbmDoorCards
import Derived.Test.YbulkehbmDoorWalk
import Derived.ProofKit
import Derived.LaidMore
import Derived.OpenShut
import Derived.Stop.Joined
import Derived.Deep.Slices
import Derived.Deep.Strs
import Derived.SevenTiedAt
namespace Go.Proofs.YbulkehbmDoor
open Go.ChangeShapes Go.WideShapes Go.ChangeAt Go.WideMaps Go.WideElems Go.RowKit Go.Deep

theorem own : ownKnob Ybad.prog.godebug = none := by kernel_rfl
theorem laidOut : laidOutB Ybad.prog = true := by kernel_rfl
theorem gZ4 : Ybad.prog.globalNamed ((Rows.lawS6668CWholeRow.laid.map (fun x => x.1)).headD (toString 0)) = some 0 := by kernel_rfl
theorem tZ4 : (Ybad.prog.globals[0]?).map (·.type) = some 39 := by kernel_rfl
theorem cells39 : Ybad.prog.cellsOf 39 = 1 := by kernel_rfl
theorem cells37 : Ybad.prog.cellsOf 37 = 1 := by kernel_rfl
theorem cells33 : Ybad.prog.cellsOf 33 = 3 := by kernel_rfl
theorem cells25 : Ybad.prog.cellsOf 25 = 1 := by kernel_rfl
theorem cells3 : Ybad.prog.cellsOf 3 = 1 := by kernel_rfl
theorem cells2 : Ybad.prog.cellsOf 2 = 1 := by kernel_rfl
theorem cells23 : Ybad.prog.cellsOf 23 = 4 := by kernel_rfl
theorem cells5 : Ybad.prog.cellsOf 5 = 1 := by kernel_rfl

/-- What the row lists. -/
abbrev laid2 : List (String × DataW Unit) := Rows.lawS6668CWholeRow.laid

/-- A heap meets the condition: the settled one, with the detail that z4 leads to in a block of its own. -/
theorem door_met (os : Os) (args : Array Value) : laidMetH Ybad.prog laid2 (({ World.holding Ybad.prog os ⟨#[.cells #[.bool false, .string ByteArray.empty] 97], #[], []⟩ with heap := (World.holding Ybad.prog os ⟨#[.cells #[.bool false, .string ByteArray.empty] 97], #[], []⟩).heap.modify 0 fun | .cells _ t fr => .cells #[.pointer (some ⟨8, 0, none⟩)] t fr | o => o } : World).forCall (fun _ _ => 0) ⟨#[], args, []⟩).memory :=
  laidMetH_of_parts3 (fuel := 8) (laidMet_of_run' 8 (by kernel_rfl) (by kernel_rfl)) (by kernel_rfl) (by kernel_rfl)

/-- What the condition gives the walk: the variable holds a pointer that is not nil. -/
theorem of_laid {W : World} (h : laidMetH Ybad.prog laid2 W) : ∃ z, W.cell? ⟨0, 0, none⟩ = some (.pointer (some z)) := by
  rw [MakeChecks.laidMetH_plain _ _ _ (by kernel_rfl)] at h
  obtain ⟨ps, ⟨g0, t0, cs0, f0, p0, q0, hg0, ht0, hv0, hd0, _, _⟩, _, _⟩ := h
  obtain rfl := Option.some.inj (gZ4.symm.trans hg0)
  obtain rfl := Option.some.inj (tZ4.symm.trans ht0)
  obtain ⟨y0, n, hx, hl, ht⟩ := trod_struct1 Ybad.underlying39 hd0
  simp only [Rows.laid_net_netip_z4, Prod.mk.injEq, DataW.agg.injEq, List.cons.injEq, and_true] at hx
  obtain ⟨l0⟩ := cs0
  rw [cells39] at hl
  match l0, hl with
  | [c0], _ =>
    rw [show (Ybad.prog.cellsOf 37) = 1 from cells37] at ht
    rcases DataW.trod_pointer Ybad.underlying37 ht with ⟨_, h2⟩ | ⟨z, cs', y, m, _, h2, _⟩
    · rw [h2] at hx
      exact absurd hx.1 (by intro e; cases e)
    · have := World.var?_cell hg0 hv0 0
      simp at h2
      subst h2
      exact ⟨z, by simpa using this⟩

theorem okWide_array {P : Program} {w : World} {r : Reach} {base : Nat} {t : TypeId} {v : Value} {n e : Nat} (ht : P.underlying t = some (.array n e)) (h : Value.okWide P w r base t v) : ∃ cs, v = .agg cs ∧ cs.size = P.cellsOf t := by
  simp only [Value.okWide, ht] at h
  obtain ⟨cs, h1, h2, _⟩ := h
  exact ⟨cs, h1, h2⟩

/-- The four bytes of an array that came in. -/
theorem open_ip {H : Type} {enc : TypeId × Value → H} {W : World} {base0 : Nat} {sp : Nat → Bool} {held : Bool} {r : Reach} {b0 : Nat} {v : Value} {d : DataW H} {p : List MemPlace} (hv : Value.okWide Ybad.prog W r b0 23 v) (h : DataW.Trod enc Ybad.prog W base0 sp held 23 v d p) :
    ∃ a b c e : Int, v = .agg #[.int .u8 a, .int .u8 b, .int .u8 c, .int .u8 e] ∧ Byte a ∧ Byte b ∧ Byte c ∧ Byte e := by
  obtain ⟨cs, rfl, hsz⟩ := okWide_array Ybad.underlying23 hv
  obtain ⟨fuel, hf⟩ := h
  obtain ⟨xs, m, _, hx, hl, hn, hel⟩ := DataW.trod_array Ybad.underlying23 hf
  obtain ⟨l⟩ := cs
  rw [cells23] at hsz
  have key : ∀ i, i < 4 → ∃ n : Int, l[i]? = some (.int .u8 n) ∧ Byte n := fun i hi => by
    have h1 := hel i hi
    rw [cells5] at h1
    have hi2 : i < xs.length := by omega
    rw [List.getElem?_eq_getElem hi2] at h1
    obtain ⟨n, e1, _, hw⟩ := DataW.trod_int Ybad.underlying5 h1
    have hil : i < l.length := by simpa using (by rw [show l.length = 4 from by simpa using hsz]; exact hi : i < l.length)
    refine ⟨n, ?_, ?_⟩
    · have e2 : ((l.drop (i * 1)).take 1) = [l[i]] := by
        rw [Nat.mul_one, List.drop_eq_getElem_cons hil]; rfl
      have e3 : [l[i]] = [Value.int .u8 n] := by rw [← e2]; simpa [Value.cells] using e1
      rw [List.getElem?_eq_getElem hil]
      injection e3 with e3 _
      rw [e3]
    · have := bounds_u8 hw
      exact ⟨by omega, by omega⟩
  obtain ⟨a, ha, hba⟩ := key 0 (by decide)
  obtain ⟨b, hb, hbb⟩ := key 1 (by decide)
  obtain ⟨c, hc, hbc⟩ := key 2 (by decide)
  obtain ⟨e, he, hbe⟩ := key 3 (by decide)
  have hl4 : l.length = 4 := by simpa using hsz
  match l, hl4, ha, hb, hc, he with
  | [x0, x1, x2, x3], _, ha, hb, hc, he =>
    simp at ha hb hc he
    subst ha hb hc he
    exact ⟨a, b, c, e, rfl, hba, hbb, hbc, hbe⟩

/-- The entries that came in. -/
theorem open_entries {H : Type} {enc : TypeId × Value → H} {W : World} {a0 : Option Addr} {len cap : Nat} {d : DataW H} {p : List MemPlace} (h : DataW.Trod enc Ybad.prog W 0 (fun _ => true) true 22 (.slice a0 len cap) d p) :
    len ≤ 9223372036854775807 ∧ ∀ k, k < len → ∃ eb eo x y z, a0 = some ⟨eb, eo, none⟩ ∧ eb < W.heap.size ∧ W.cell? ⟨eb, eo + k * 3, none⟩ = some (.int .u64 x) ∧ W.cell? ⟨eb, eo + k * 3 + 1, none⟩ = some (.int .i64 y) ∧ W.cell? ⟨eb, eo + k * 3 + 2, none⟩ = some (.int .i64 z) ∧ (Lit.int .u64 x).wf = true := by
  obtain ⟨fuel, hf⟩ := h
  rcases open_slice Ybad.underlying22 hf with ⟨hcs, _⟩ | ⟨a, l, c, m, n, D, Pl, hcs, _, hl, hm, hmm, _, hel⟩
  · simp [Value.cells] at hcs
    obtain ⟨rfl, rfl, rfl⟩ := hcs
    exact ⟨by omega, fun k hk => absurd hk (Nat.not_lt_zero _)⟩
  · simp [Value.cells] at hcs
    obtain ⟨rfl, rfl, rfl⟩ := hcs
    simp at hmm
    refine ⟨by unfold maxLen at hm; omega, fun k hk => ?_⟩
    obtain ⟨cs', h1, h2⟩ := hel k (by omega)
    rw [cells33] at h1
    obtain ⟨_, hlen, hc⟩ := World.cells?_some h1
    obtain ⟨y0, y1, y2, n', _, _, t0, t1, t2⟩ := trod_struct3 Ybad.underlying33 h2
    match cs', hlen with
    | [c0, c1, c2], _ =>
      have g0 := hc 0 (by decide)
      have g1 := hc 1 (by decide)
      have g2 := hc 2 (by decide)
      obtain ⟨eb, eo, spot⟩ := a
      have hspot : spot = none := by
        obtain ⟨cs0, h10, _⟩ := hel 0 (by omega)
        rw [cells33] at h10
        obtain ⟨_, hlen0, hc0⟩ := World.cells?_some h10
        have h5 := hc0 0 (by decide)
        rw [List.getElem?_eq_getElem (by omega)] at h5
        simpa [Addr.add] using World.cell?_spot h5
      subst hspot
      simp only [Addr.add_lit] at g0 g1 g2
      rw [show Ybad.prog.cellsOf 25 = 1 from cells25] at t0
      rw [show Ybad.prog.cellsOf 3 = 1 from cells3] at t1
      rw [show Ybad.prog.cellsOf 2 = 1 from cells2] at t2
      obtain ⟨x, e0, _, hwx⟩ := DataW.trod_int Ybad.underlying25 t0
      obtain ⟨y, e1, _, _⟩ := DataW.trod_int Ybad.underlying3 t1
      obtain ⟨z, e2, _, _⟩ := DataW.trod_int Ybad.underlying2 t2
      simp at e0 e1 e2
      subst e0 e1 e2
      simp at g0 g1 g2
      exact ⟨eb, eo, x, y, z, rfl, World.block_lt_of_cell? W _ g0, g0, g1, g2, hwx⟩

set_option maxRecDepth 100000 in
theorem lifted (os : Os) (started : os.Started) (H : Type) (enc : TypeId × Value → H) :
    ReturnsInHanded {} Ybad.checked os 3 .any (fun w args => (Rows.lawS6668CWholeSpec.pre enc Ybad.prog Ybad.f3 [] false w args ∧ laidMetH Ybad.prog laid2 w) ∧ sizedMet enc Ybad.prog Ybad.f3 (OpenSpec.ofChange Rows.lawS6668CWholeSpec) false w args)
      (Rows.lawS6668CWholeSpec.post enc Ybad.prog Ybad.f3 false true false false) := by
  refine returnsInHanded_of_change_and (C := Ybad.checked) (X := fun w _ => laidMetH Ybad.prog laid2 w) (fun _ _ _ hh h => h.of_heap hh) own started (by kernel_rfl) Ybad.func3
    (ChangeSpec.witness_shaped (enc := enc) (C := Ybad.checked) (os := os) (X := fun w _ => laidMetH Ybad.prog laid2 w) false ({ World.holding Ybad.prog os ⟨#[.cells #[.bool false, .string ByteArray.empty] 97], #[], []⟩ with heap := (World.holding Ybad.prog os ⟨#[.cells #[.bool false, .string ByteArray.empty] 97], #[], []⟩).heap.modify 0 fun | .cells _ t fr => .cells #[.pointer (some ⟨8, 0, none⟩)] t fr | o => o } : World) #[.slice none 0 0, .bool false, .int .i64 0, .agg #[.int .u8 0, .int .u8 0, .int .u8 0, .int .u8 0], .int .u16 0, .int .u8 0, .int .i64 0] 8 rfl (World.shaped_of_RefB (by kernel_rfl) (by kernel_rfl)) (by kernel_rfl) (by kernel_rfl) (by kernel_rfl) (door_met os _)) ?_
  intro W base args ds gs before hval0 hW _ _ hL _
  have hval : ∀ (j : Nat) t v, Ybad.f3.params[j]? = some t → args[j]? = some v → Value.okWide Ybad.prog W .any base t v := hval0
  have hW' := hW
  obtain ⟨p, q, hA0, hV, rfl, hfz, hnd⟩ := hW
  have hA : DataW.TrodAll enc Ybad.prog W 0 (fun _ => true) true Ybad.f3.params.toList args.toList ds p := hA0
  rw [Ybad.params3] at hA hval
  obtain ⟨v0, vs0, d0, ds0, p0, q0, hargs, rfl, rfl, h0, r0⟩ := trodAll_cons hA
  obtain ⟨v1, vs1, d1, ds1, p1, q1, rfl, rfl, rfl, h1, r1⟩ := trodAll_cons r0
  obtain ⟨v2, vs2, d2, ds2, p2, q2, rfl, rfl, rfl, h2, r2⟩ := trodAll_cons r1
  obtain ⟨v3, vs3, d3, ds3, p3, q3, rfl, rfl, rfl, h3, r3⟩ := trodAll_cons r2
  obtain ⟨v4, vs4, d4, ds4, p4, q4, rfl, rfl, rfl, h4, r4⟩ := trodAll_cons r3
  obtain ⟨v5, vs5, d5, ds5, p5, q5, rfl, rfl, rfl, h5, r5⟩ := trodAll_cons r4
  obtain ⟨v6, vs6, d6, ds6, p6, q6, rfl, rfl, rfl, h6, r6⟩ := trodAll_cons r5
  obtain ⟨rfl, rfl, rfl⟩ := trodAll_nil r6
  obtain rfl : args = #[v0, v1, v2, v3, v4, v5, v6] := by cases args; simp_all
  obtain ⟨rfl, rfl⟩ := trodVars_none hV
  obtain ⟨a0, len, cap, rfl⟩ := okWide_slice Ybad.underlying22 (hval 0 22 v0 rfl rfl)
  have k0 := h0
  have lt0 : ∀ x ∈ p0, x.block < W.heap.size := by obtain ⟨m, hm⟩ := k0; exact DataW.trod_lt m _ _ _ hm
  have k3 := h3
  have lt3 : ∀ x ∈ p3, x.block < W.heap.size := by obtain ⟨m, hm⟩ := k3; exact DataW.trod_lt m _ _ _ hm
  obtain ⟨hlm, hent⟩ := open_entries h0
  obtain ⟨nm, rfl, rfl, rfl⟩ := open_bool Ybad.underlying4 (hval 1 4 v1 rfl rfl) h1
  obtain ⟨kp, rfl, rfl, rfl, wkp⟩ := open_int Ybad.underlying3 (hval 2 3 v2 rfl rfl) h2
  obtain ⟨a, b, c, d, rfl, ha, hb, hc, hd⟩ := open_ip (hval 3 23 v3 rfl rfl) h3
  obtain ⟨pt, rfl, rfl, rfl, wpt⟩ := open_int Ybad.underlying24 (hval 4 24 v4 rfl rfl) h4
  obtain ⟨pk, rfl, rfl, rfl, wpk⟩ := open_int Ybad.underlying5 (hval 5 5 v5 rfl rfl) h5
  obtain ⟨nn, rfl, rfl, rfl, wnn⟩ := open_int Ybad.underlying2 (hval 6 2 v6 rfl rfl) h6
  obtain ⟨z, hz⟩ := of_laid hL
  have bpt := bounds_u16 wpt
  have bpk := bounds_u8 wpk
  have bnn := bounds_i64 wnn
  clear hA0 hval0
  refine (law_walk a0 len cap nm kp a b c d pt pk nn z W hlm bnn.1 bnn.2 bpk.1 bpk.2 hent ha hb hc hd ⟨bpt.1, by omega⟩ hz).mono fun e W' ⟨he, bel⟩ => ?_
  subst he
  exact ⟨_, rfl, _, _, _, [], _, [], hW', trodAll_mk1 (shut_bool Ybad.underlying4 _),
    (trodAll_cons_mk (Below.trod laidOut (by kernel_rfl) (of_decide_eq_true (by kernel_rfl)) k0 bel lt0) (trodAll_cons_mk (shut_bool Ybad.underlying4 _) (trodAll_cons_mk (shut_int Ybad.underlying3 wkp)
      (trodAll_cons_mk (Below.trod laidOut (by kernel_rfl) (of_decide_eq_true (by kernel_rfl)) k3 bel lt3) (trodAll_cons_mk (shut_int Ybad.underlying24 wpt) (trodAll_cons_mk (shut_int Ybad.underlying5 wpk) (trodAll_cons_mk (shut_int Ybad.underlying2 wnn) trodAll_mk0))))))),
    rfl, bel.frame _, fun h => by cases h⟩

theorem row_holds : Rows.LawS6668CWholeSaid :=
  OpenClaim.holds_of_wide 3 Ybad.f3 rfl rfl rfl rfl rfl rfl rfl ⟨rfl, rfl, rfl, rfl, rfl⟩ rfl rfl rfl rfl rfl (by kernel_rfl) Ybad.func3 (by kernel_rfl)
    (of_decide_eq_true (by kernel_rfl)) (by unfold Func.isWrapper; first | (rw [if_pos (by decide +kernel)]; kernel_rfl) | (rw [if_neg (by decide +kernel)]; exact ⟨rfl, rfl⟩))
    (fun os started H enc _ => lifted os started H enc)

/-- THE TIED CARD. -/
theorem card_holds : Rows.LawS6668CWholeCardSaid :=
  Claim7.holds_tied_plain_at .later [] [.called, .zero] true (true, "321a3c4daa9eac76c3ec3567ea3c40641283090b5fba4b8a77e923d69e553c98") false
    row_holds (fun _ h => by cases h) (by kernel_rfl) (fun _ h => by cases h) lawS6668CWhole_row_tie rfl ⟨rfl, rfl⟩ (by kernel_rfl) rfl
    (fun f fn hf hfn => by
      obtain rfl : f = 3 := Option.some.inj ((show Ybad.prog.funcNamed Rows.lawS6668CWholeRow.func = some 3 by kernel_rfl).symm.trans hf) |>.symm
      obtain rfl : fn = Ybad.f3 := (Option.some.inj (Ybad.func3.symm.trans hfn)).symm
      exact ⟨by kernel_rfl, fun j t ht => by
        rw [Ybad.params3] at ht
        have hall : ∀ t ∈ [22, 4, 3, 23, 24, 5, 2], Ybad.prog.wantsStandIn t = false := by
          intro t ht
          simp only [List.mem_cons, List.mem_nil_iff, or_false] at ht
          rcases ht with rfl | rfl | rfl | rfl | rfl | rfl | rfl <;> kernel_rfl
        refine hall t ?_
        have h2 := List.mem_of_getElem? (l := [22, 4, 3, 23, 24, 5, 2]) (i := j) (a := t) (by simpa using ht)
        exact h2⟩)
    (by kernel_rfl)
end Go.Proofs.YbulkehbmDoor
