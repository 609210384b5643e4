/-
  LawS6669CWhole: the row, and the tied card.
-/
import Derived.Test.YbulkehcaDoorRows
import Derived.Test.YbulkehcaDoorTie
import Derived.Test.YbulkehcaDoorCards
import Derived.Test.YbulkehcaDoorLaw
import Derived.ProofKit
import Derived.LaidMore
import Derived.OpenShut
import Derived.ShutString
import Derived.SizedLaws
import Derived.Stop.Joined
import Derived.Stop.ErrReads
import Derived.Deep.Slices
import Derived.Deep.Strs
import Derived.SevenTiedAt
namespace Go.Proofs.YbulkehcaDoor
open Go.ChangeShapes Go.WideShapes Go.ChangeAt Go.WideMaps Go.WideElems Go.RowKit Go.Deep
open Go.ChangeMaps (open_string shut_string)

theorem own : ownKnob Ybad.prog.godebug = none := by kernel_rfl
theorem laidOut : laidOutB Ybad.prog = true := by kernel_rfl
theorem gEof : Ybad.prog.globalNamed "io.EOF" = some 0 := by kernel_rfl
theorem tEof : (Ybad.prog.globals[0]?).map (·.type) = some 36 := by kernel_rfl
theorem cells100 : Ybad.prog.cellsOf 100 = 1 := by kernel_rfl
theorem cells9 : Ybad.prog.cellsOf 9 = 1 := by kernel_rfl
theorem cells5 : Ybad.prog.cellsOf 5 = 1 := by kernel_rfl
theorem bytes5 : Ybad.prog.bytesOf 5 = 1 := by kernel_rfl
theorem star : "*" ++ "errors.errorString" = "*errors.errorString" := by decide
theorem row82 (u : TypeId) (h : Ybad.prog.typeName? 3 u = some "*errors.errorString") : u = 82 :=
  typeName_ptr_named (nm := "errors.errorString") (by rw [star]; kernel_rfl) (by kernel_rfl) (by decide) u (by rw [star]; exact h)

/-- What the row lists. -/
abbrev laid2 : List (String × DataW Unit) := Rows.lawS6669CWholeRow.laid

/-- A heap meets the condition: the settled one, with each sentinel's text in a block of its own. -/
theorem door_met (os : Os) (args : Array Value) : laidMetH Ybad.prog laid2 (({ World.holding Ybad.prog os ⟨#[.cells #[.string { data := #[69, 79, 70] }] 100, .cells #[.string { data := #[98, 117, 102, 105, 111, 58, 32, 114, 101, 97, 100, 101, 114, 32, 114, 101, 116, 117, 114, 110, 101, 100, 32, 110, 101, 103, 97, 116, 105, 118, 101, 32, 99, 111, 117, 110, 116, 32, 102, 114, 111, 109, 32, 82, 101, 97, 100] }] 100], #[], []⟩ with heap := ((World.holding Ybad.prog os ⟨#[.cells #[.string { data := #[69, 79, 70] }] 100, .cells #[.string { data := #[98, 117, 102, 105, 111, 58, 32, 114, 101, 97, 100, 101, 114, 32, 114, 101, 116, 117, 114, 110, 101, 100, 32, 110, 101, 103, 97, 116, 105, 118, 101, 32, 99, 111, 117, 110, 116, 32, 102, 114, 111, 109, 32, 82, 101, 97, 100] }] 100], #[], []⟩).heap.modify 0 fun | .cells _ t fr => .cells #[.iface 82 (.pointer (some ⟨10, 0, none⟩))] t fr | o => o).modify 1 fun | .cells _ t fr => .cells #[.iface 82 (.pointer (some ⟨11, 0, none⟩))] t fr | o => o } : World).forCall (fun _ _ => 0) ⟨#[], args, []⟩).memory :=
  laidMetH_of_parts3 (fuel := 8) (laidMet_of_run' 8 (by kernel_rfl) (by kernel_rfl)) (by kernel_rfl) (by kernel_rfl)

/-- What the condition gives the walk: the variable holds a sentinel's pointer. -/
theorem of_laid {W : World} (h : laidMetH Ybad.prog laid2 W) : ∃ z, W.cell? ⟨0, 0, none⟩ = some (.iface 82 (.pointer (some z))) := by
  rw [MakeChecks.laidMetH_plain _ _ _ (by kernel_rfl)] at h
  obtain ⟨ps, ⟨g0, t0, cs0, f0, p0, q0, hg0, ht0, hv0, hd0, _, e0⟩, hnd, hrows⟩ := h
  obtain rfl := Option.some.inj (gEof.symm.trans hg0)
  obtain rfl := Option.some.inj (tEof.symm.trans ht0)
  subst e0
  obtain ⟨l0⟩ := cs0
  have ok0 : ∀ u v, l0 = [.iface u v] → Value.okWide Ybad.prog W .any 0 u v := fun u v e => by
    subst e
    exact (hrows 0 0 (by simp [MemPlace.row])).2 u v (by simpa using World.var?_cell hg0 hv0 0)
  obtain ⟨a0, s0, rfl, hc0, hs0, hz0, rfl⟩ := errorString_of_trod Ybad.underlying36 row82 Ybad.underlying82 Ybad.underlying100 rfl rfl Ybad.underlying9 cells100 cells9 hd0 ok0
  exact ⟨a0, by simpa using World.var?_cell hg0 hv0 0⟩

/-- The slice's bytes. -/
theorem open_data {H : Type} {enc : TypeId × Value → H} {W : World} {v : Value} {d : DataW H} {p : List MemPlace} {fuel : Nat} (h : DataW.trod enc Ybad.prog W 0 (fun _ => true) true fuel 25 [v] = some (d, p)) :
    ∃ (a : Option Addr) (len cap : Nat) (xs : List Int), v = .slice a len cap ∧ BytesAt W a len xs ∧ len ≤ cap ∧ (a = none → len = 0 ∧ cap = 0) ∧ (d = .nil ∨ ∃ es sp, d = .slice es sp ∧ es.length + sp.length = cap) ∧ (d = .nil → len = 0) := by
  rcases open_ints Ybad.underlying25 Ybad.underlying5 cells5 h with ⟨e1, e2⟩ | ⟨a, len, cap, zs, e1, _, hl, hm, hzl, e2, hc, hw⟩
  · injection e1 with e1
    injection e2 with e2
    exact ⟨none, 0, 0, [], e1, ⟨rfl, by simp, fun _ => rfl, fun _ _ _ e => by cases e⟩, Nat.le_refl _, fun _ => ⟨rfl, rfl⟩, Or.inl e2, fun _ => rfl⟩
  · injection e1 with e1
    injection e2 with e2
    simp only [if_true] at hzl
    refine ⟨some a, len, cap, zs.take len, e1, ⟨by rw [List.length_take]; omega, ?_, fun e => (by cases e), ?_⟩, hl, fun e => (by cases e), Or.inr ⟨_, _, e2, ?_⟩, fun e => by rw [e2] at e; cases e⟩
    · intro x hx
      have := bounds_u8 (hw x (List.mem_of_mem_take hx))
      omega
    · intro b o sp e hn
      injection e with e
      subst e
      have hsp : sp = none := by
        have := World.cell?_spot (hc 0 (by omega))
        simpa [Addr.add] using this
      subst hsp
      refine ⟨rfl, fun i hi => ?_⟩
      have := hc i (by omega)
      rw [Addr.add_lit] at this
      rw [this]
      simp [List.getD, hi]
    · simp [lits]
      omega

set_option maxRecDepth 100000 in
theorem lifted (os : Os) (started : os.Started) (H : Type) (enc : TypeId × Value → H) :
    ReturnsInHanded {} Ybad.checked os 5 .any (fun w args => (Rows.lawS6669CWholeSpec.pre enc Ybad.prog Ybad.f5 [] false w args ∧ laidMetH Ybad.prog laid2 w) ∧ sizedMet enc Ybad.prog Ybad.f5 (OpenSpec.ofChange Rows.lawS6669CWholeSpec) false w args)
      (Rows.lawS6669CWholeSpec.post enc Ybad.prog Ybad.f5 false true false false) := by
  refine returnsInHanded_of_change_and (C := Ybad.checked) (X := fun w _ => laidMetH Ybad.prog laid2 w) (fun _ _ _ hh h => h.of_heap hh) own started (by kernel_rfl) Ybad.func5
    (ChangeSpec.witness_shaped (enc := enc) (C := Ybad.checked) (os := os) (X := fun w _ => laidMetH Ybad.prog laid2 w) false ({ World.holding Ybad.prog os ⟨#[.cells #[.string { data := #[69, 79, 70] }] 100, .cells #[.string { data := #[98, 117, 102, 105, 111, 58, 32, 114, 101, 97, 100, 101, 114, 32, 114, 101, 116, 117, 114, 110, 101, 100, 32, 110, 101, 103, 97, 116, 105, 118, 101, 32, 99, 111, 117, 110, 116, 32, 102, 114, 111, 109, 32, 82, 101, 97, 100] }] 100], #[], []⟩ with heap := ((World.holding Ybad.prog os ⟨#[.cells #[.string { data := #[69, 79, 70] }] 100, .cells #[.string { data := #[98, 117, 102, 105, 111, 58, 32, 114, 101, 97, 100, 101, 114, 32, 114, 101, 116, 117, 114, 110, 101, 100, 32, 110, 101, 103, 97, 116, 105, 118, 101, 32, 99, 111, 117, 110, 116, 32, 102, 114, 111, 109, 32, 82, 101, 97, 100] }] 100], #[], []⟩).heap.modify 0 fun | .cells _ t fr => .cells #[.iface 82 (.pointer (some ⟨10, 0, none⟩))] t fr | o => o).modify 1 fun | .cells _ t fr => .cells #[.iface 82 (.pointer (some ⟨11, 0, none⟩))] t fr | o => o } : World) #[.slice none 0 0, .string ByteArray.empty] 8 rfl (World.shaped_of_RefB (by kernel_rfl) (by kernel_rfl)) (by kernel_rfl) (by kernel_rfl) (by kernel_rfl) (door_met os _)) ?_
  intro W base args ds gs before hval0 hW _ hsz0 hL _
  have hval : ∀ (j : Nat) t v, Ybad.f5.params[j]? = some t → args[j]? = some v → Value.okWide Ybad.prog W .any base t v := hval0
  have hW' := hW
  obtain ⟨p, q, hA0, hV, rfl, hfz, hnd⟩ := hW
  have hA : DataW.TrodAll enc Ybad.prog W 0 (fun _ => true) true Ybad.f5.params.toList args.toList ds p := hA0
  have hsz : (DataW.weightsEach Ybad.prog (Ybad.f5.params.toList ++ Rows.lawS6669CWholeSpec.plain.varTypes Ybad.prog) (ds ++ gs)).all (· ≤ reachBytes) = true := hsz0
  rw [Ybad.params5] at hA hval hsz
  obtain ⟨v0, vs0, d0, ds0, p0, q0, hargs, rfl, rfl, h0, r0⟩ := trodAll_cons hA
  obtain ⟨v1, vs1, d1, ds1, p1, q1, rfl, rfl, rfl, h1, r1⟩ := trodAll_cons r0
  obtain ⟨rfl, rfl, rfl⟩ := trodAll_nil r1
  obtain rfl : args = #[v0, v1] := by cases args; simp_all
  obtain ⟨rfl, rfl⟩ := trodVars_none hV
  have k0 := h0
  have lt0 : ∀ x ∈ p0, x.block < W.heap.size := by obtain ⟨m, hm⟩ := k0; exact DataW.trod_lt m _ _ _ hm
  obtain ⟨bs, rfl, rfl, rfl, wbs⟩ := open_string Ybad.underlying9 (hval 1 9 v1 rfl rfl) h1
  obtain ⟨a, len, cap, xs, rfl, hby, hlc, hnil, hd, hdn⟩ : ∃ (a : Option Addr) (len cap : Nat) (xs : List Int), v0 = .slice a len cap ∧ BytesAt W a len xs ∧ len ≤ cap ∧ (a = none → len = 0 ∧ cap = 0) ∧ (d0 = .nil ∨ ∃ es sp, d0 = .slice es sp ∧ es.length + sp.length = cap) ∧ (d0 = .nil → len = 0) := by
    obtain ⟨a', len', cap', rfl⟩ := okWide_slice Ybad.underlying25 (hval 0 25 v0 rfl rfl)
    obtain ⟨m, hm⟩ := h0
    exact open_data hm
  obtain ⟨z, hz⟩ := of_laid hL
  have hl : len ≤ 281474976710656 := by
    rcases hd with e | ⟨es, sp, e, hc⟩
    · have := hdn e
      omega
    · have := sized_slice hsz (j := 0) (t := 25) (e := 5) (elems := es) (spare := sp) rfl (by rw [e]; rfl) Ybad.underlying25
      rw [bytes5] at this
      have := reachBytes_lt
      omega
  have hb : bs.size ≤ 281474976710656 := by
    have := sized_string hsz (j := 1) (t := 9) rfl rfl
    have h2 := reachBytes_lt
    have h3 : bs.data.toList.length = bs.size := by simp
    omega
  clear hA0 hval0
  refine (law_any a len cap xs bs z W hby hlc hnil hz hl hb).mono fun e W' ⟨he, bel⟩ => ?_
  subst he
  exact ⟨_, rfl, _, _, _, [], _, [], hW', trodAll_mk1 (shut_bool Ybad.underlying4 _),
    (trodAll_cons_mk (Below.trod laidOut (by kernel_rfl) (of_decide_eq_true (by kernel_rfl)) k0 bel lt0) (trodAll_cons_mk (shut_string Ybad.underlying9 wbs) trodAll_mk0)),
    rfl, bel.frame _, fun h => by cases h⟩

theorem row_holds : Rows.LawS6669CWholeSaid :=
  OpenClaim.holds_of_wide 5 Ybad.f5 rfl rfl rfl rfl rfl rfl rfl ⟨rfl, rfl, rfl, rfl, rfl⟩ rfl rfl rfl rfl rfl (by kernel_rfl) Ybad.func5 (by kernel_rfl)
    (of_decide_eq_true (by kernel_rfl)) (by unfold Func.isWrapper; first | (rw [if_pos (by decide +kernel)]; kernel_rfl) | (rw [if_neg (by decide +kernel)]; exact ⟨rfl, rfl⟩))
    (fun os started H enc _ => lifted os started H enc)

/-- THE TIED CARD. -/
theorem card_holds : Rows.LawS6669CWholeCardSaid :=
  Claim7.holds_tied_plain_at .later [] [.sentinel, .sentinel] true (true, "a722cc0aa524d804700e40d40dd07605cdff0cf0530f5d9dc278a6b5111d81f9") true
    row_holds (fun _ h => by cases h) (by kernel_rfl) (fun _ h => by cases h) lawS6669CWhole_row_tie rfl ⟨rfl, rfl⟩ (by kernel_rfl) rfl
    (fun f fn hf hfn => by
      obtain rfl : f = 5 := Option.some.inj ((show Ybad.prog.funcNamed Rows.lawS6669CWholeRow.func = some 5 by kernel_rfl).symm.trans hf) |>.symm
      obtain rfl : fn = Ybad.f5 := (Option.some.inj (Ybad.func5.symm.trans hfn)).symm
      exact ⟨by kernel_rfl, fun j t ht => by
        rw [Ybad.params5] at ht
        have hall : ∀ t ∈ [25, 9], Ybad.prog.wantsStandIn t = false := by
          intro t ht
          simp only [List.mem_cons, List.mem_nil_iff, or_false] at ht
          rcases ht with rfl | rfl <;> kernel_rfl
        refine hall t ?_
        have h2 := List.mem_of_getElem? (l := [25, 9]) (i := j) (a := t) (by simpa using ht)
        exact h2⟩)
    (by kernel_rfl)
end Go.Proofs.YbulkehcaDoor
