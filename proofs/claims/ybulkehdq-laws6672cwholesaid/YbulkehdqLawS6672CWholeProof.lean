/-
  LawS6672CWhole: the row.
-/
import Derived.Test.YbulkehdqRows
import Derived.Test.YbulkehdqLaw
import Derived.ProofKit
import Derived.OpenShut
import Derived.SizedLaws
import Derived.Deep.Slices
import Derived.Deep.Strs
namespace Go.Proofs.Ybulkehdq
open Go.ChangeShapes Go.WideShapes Go.ChangeAt Go.WideElems Go.RowKit Go.Deep

theorem own : ownKnob Yba.prog.godebug = none := by kernel_rfl
theorem laidOut : laidOutB Yba.prog = true := by kernel_rfl
theorem cells62 : Yba.prog.cellsOf 62 = 2 := by kernel_rfl
theorem cells5 : Yba.prog.cellsOf 5 = 1 := by kernel_rfl
theorem bytes62 : Yba.prog.bytesOf 62 = 2 := by kernel_rfl

set_option maxRecDepth 100000 in
/-- The pairs that came in. -/
theorem open_pairs {H : Type} {enc : TypeId × Value → H} {W : World} {a0 : Option Addr} {len cap : Nat} {d : DataW H} {p : List MemPlace} (h : DataW.Trod enc Yba.prog W 0 (fun _ => true) true 32 (.slice a0 len cap) d p) :
    Pairs W a0 len ∧ (len = 0 ∨ ∃ xs ys, d = .slice xs ys ∧ xs.length = len) := by
  obtain ⟨fuel, hf⟩ := h
  rcases open_slice Yba.underlying32 hf with ⟨hcs, _⟩ | ⟨a, l, c, m, n, D, Pl, hcs, _, hl, hm, hmm, hx, hel⟩
  · simp [Value.cells] at hcs
    obtain ⟨rfl, rfl, rfl⟩ := hcs
    exact ⟨fun k hk => absurd hk (Nat.not_lt_zero _), Or.inl rfl⟩
  · simp [Value.cells] at hcs
    obtain ⟨rfl, rfl, rfl⟩ := hcs
    simp at hmm
    injection hx with hd hpl
    refine ⟨fun k hk => ?_, Or.inr ⟨_, _, hd, by simp⟩⟩
    obtain ⟨cs', h1, h2⟩ := hel k (by omega)
    rw [cells62] at h1
    obtain ⟨_, hlen, hc⟩ := World.cells?_some h1
    obtain ⟨y0, y1, n', _, _, t0, t1⟩ := trod_struct2 Yba.underlying62 h2
    match cs', hlen with
    | [c0, c1], _ =>
      have g0 := hc 0 (by decide)
      have g1 := hc 1 (by decide)
      obtain ⟨eb, eo, spot⟩ := a
      have hspot : spot = none := by
        obtain ⟨cs0, h10, _⟩ := hel 0 (by omega)
        rw [cells62] at h10
        obtain ⟨_, hlen0, hc0⟩ := World.cells?_some h10
        have h5 := hc0 0 (by decide)
        rw [List.getElem?_eq_getElem (by omega)] at h5
        simpa [Addr.add] using World.cell?_spot h5
      subst hspot
      simp only [Addr.add_lit] at g0 g1
      rw [show Yba.prog.cellsOf 5 = 1 from cells5] at t0 t1
      obtain ⟨x, e0, _, hwx⟩ := DataW.trod_int Yba.underlying5 t0
      obtain ⟨y, e1, _, hwy⟩ := DataW.trod_int Yba.underlying5 t1
      simp at e0 e1
      subst e0 e1
      simp at g0 g1
      have bx := bounds_u8 hwx
      have byy := bounds_u8 hwy
      exact ⟨eb, eo, x, y, rfl, World.block_lt_of_cell? W _ g0, g0, g1, bx.1, by omega, byy.1, by omega⟩

theorem len_small {H : Type} {ts : List TypeId} {ds : List (DataW H)} (hsz : (DataW.weightsEach Yba.prog ts ds).all (· ≤ reachBytes) = true) {j len : Nat} {d : DataW H} (ht : ts[j]? = some 32) (hd : ds[j]? = some d) (h : len = 0 ∨ ∃ xs ys, d = .slice xs ys ∧ xs.length = len) : (len : Int) < 4611686018427387904 := by
  rcases h with rfl | ⟨xs, ys, rfl, hx⟩
  · omega
  · have h1 := sized_slice hsz ht hd Yba.underlying32
    rw [bytes62] at h1
    have h2 := reachBytes_lt
    omega

set_option maxRecDepth 100000 in
theorem lifted (os : Os) (started : os.Started) (H : Type) (enc : TypeId × Value → H) :
    ReturnsInHanded {} Yba.checked os 4 .any (Rows.lawS6672CWholeSpec.pre6 enc Yba.prog Yba.f4 Rows.lawS6672CWholeRow.domain false) (Rows.lawS6672CWholeSpec.post enc Yba.prog Yba.f4 false true false false) := by
  refine returnsInHanded_of_change_sized (C := Yba.checked) own started (by kernel_rfl) Yba.func4
    (ChangeSpec.witness6 (enc := enc) (C := Yba.checked) false ⟨#[], #[.slice none 0 0, .slice none 0 0, .int .u64 0, .bool false, .int .u8 0, .int .u8 0], []⟩ 8 (by kernel_rfl) (by kernel_rfl) (by kernel_rfl) (by kernel_rfl)) ?_
  intro W base args ds gs before hval0 hW _ hsz0 _
  have hval : ∀ (j : Nat) t v, Yba.f4.params[j]? = some t → args[j]? = some v → Value.okWide Yba.prog W .any base t v := hval0
  have hsz : (DataW.weightsEach Yba.prog (Yba.f4.params.toList ++ Rows.lawS6672CWholeSpec.plain.varTypes Yba.prog) (ds ++ gs)).all (· ≤ reachBytes) = true := hsz0
  have hW' := hW
  obtain ⟨p, q, hA0, hV, rfl, hfz, hnd⟩ := hW
  have hA : DataW.TrodAll enc Yba.prog W 0 (fun _ => true) true Yba.f4.params.toList args.toList ds p := hA0
  rw [Yba.params4] at hA hval hsz
  obtain ⟨v0, vs0, d0, ds0, p0, q0, hargs, rfl, rfl, h0, r0⟩ := trodAll_cons hA
  obtain ⟨v1, vs1, d1, ds1, p1, q1, rfl, rfl, rfl, h1, r1⟩ := trodAll_cons r0
  obtain ⟨v2, vs2, d2, ds2, p2, q2, rfl, rfl, rfl, h2, r2⟩ := trodAll_cons r1
  obtain ⟨v3, vs3, d3, ds3, p3, q3, rfl, rfl, rfl, h3, r3⟩ := trodAll_cons r2
  obtain ⟨v4, vs4, d4, ds4, p4, q4, rfl, rfl, rfl, h4, r4⟩ := trodAll_cons r3
  obtain ⟨v5, vs5, d5, ds5, p5, q5, rfl, rfl, rfl, h5, r5⟩ := trodAll_cons r4
  obtain ⟨rfl, rfl, rfl⟩ := trodAll_nil r5
  obtain rfl : args = #[v0, v1, v2, v3, v4, v5] := by cases args; simp_all
  obtain ⟨rfl, rfl⟩ := trodVars_none hV
  obtain ⟨a0, len, cap, rfl⟩ := okWide_slice Yba.underlying32 (hval 0 32 v0 rfl rfl)
  obtain ⟨a1, len1, cap1, rfl⟩ := okWide_slice Yba.underlying32 (hval 1 32 v1 rfl rfl)
  have k0 := h0
  have lt0 : ∀ x ∈ p0, x.block < W.heap.size := by obtain ⟨m, hm⟩ := k0; exact DataW.trod_lt m _ _ _ hm
  have k1 := h1
  have lt1 : ∀ x ∈ p1, x.block < W.heap.size := by obtain ⟨m, hm⟩ := k1; exact DataW.trod_lt m _ _ _ hm
  obtain ⟨hP0, hd0⟩ := open_pairs h0
  obtain ⟨hP1, hd1⟩ := open_pairs h1
  have hl0 := len_small hsz (j := 0) rfl rfl hd0
  have hl1 := len_small hsz (j := 1) rfl rfl hd1
  obtain ⟨pk, rfl, rfl, rfl, wpk⟩ := open_int Yba.underlying33 (hval 2 33 v2 rfl rfl) h2
  obtain ⟨st, rfl, rfl, rfl⟩ := open_bool Yba.underlying4 (hval 3 4 v3 rfl rfl) h3
  obtain ⟨sp, rfl, rfl, rfl, wsp⟩ := open_int Yba.underlying5 (hval 4 5 v4 rfl rfl) h4
  obtain ⟨sn, rfl, rfl, rfl, wsn⟩ := open_int Yba.underlying5 (hval 5 5 v5 rfl rfl) h5
  have bpk := bounds_u64 wpk
  have bsp := bounds_u8 wsp
  have bsn := bounds_u8 wsn
  clear hA0 hval0 hsz0
  refine (law_any a0 a1 len len1 cap cap1 pk st sp sn W hP0 hP1 hl0 hl1 bpk.1 bsp.1 (by omega) bsn.1 (by omega)).mono fun e W' ⟨he, bel⟩ => ?_
  subst he
  exact ⟨_, rfl, _, _, _, [], _, [], hW', trodAll_mk1 (shut_bool Yba.underlying4 _),
    (trodAll_cons_mk (Below.trod laidOut (by kernel_rfl) (of_decide_eq_true (by kernel_rfl)) k0 bel lt0) (trodAll_cons_mk (Below.trod laidOut (by kernel_rfl) (of_decide_eq_true (by kernel_rfl)) k1 bel lt1)
      (trodAll_cons_mk (shut_int Yba.underlying33 wpk) (trodAll_cons_mk (shut_bool Yba.underlying4 _) (trodAll_cons_mk (shut_int Yba.underlying5 wsp) (trodAll_cons_mk (shut_int Yba.underlying5 wsn) trodAll_mk0)))))),
    rfl, bel.frame _, fun h => by cases h⟩

theorem lawS6672CWhole.proved : Rows.LawS6672CWholeSaid :=
  OpenClaim.holds_of_wide 4 Yba.f4 rfl rfl rfl rfl rfl rfl rfl ⟨rfl, rfl, rfl, rfl, rfl⟩ rfl rfl rfl rfl rfl (by kernel_rfl) Yba.func4 (by kernel_rfl)
    (of_decide_eq_true (by kernel_rfl)) (by unfold Func.isWrapper; first | (rw [if_pos (by decide +kernel)]; kernel_rfl) | (rw [if_neg (by decide +kernel)]; exact ⟨rfl, rfl⟩))
    (fun os started H enc _ => lifted os started H enc)
end Go.Proofs.Ybulkehdq
