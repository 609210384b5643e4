/-
  (*firewall).sent (function 9).
-/
import Derived.Test.YbulkehbmDoorSweep
import Derived.Deep.Cut
import Derived.Deep.DeepFit
namespace Go.Proofs.YbulkehbmDoor
open Go.RowKit Go.Maps

/-- What the sweep leaves: the entries and the count. -/
def swept (isNil : Bool) (now lim kp : Int) (L : List Ent) : List Ent × Int :=
  if isNil then ([], kp) else if (L.length : Int) < lim then (L, kp) else (L.filter (fun x => live now x.2), ((L.filter (fun x => live now x.2)).length : Int))

/-- A map's value, and the entries that it holds. -/
def MapAt (w : World) (m : Option Nat) (L : List Ent) : Prop :=
  match m with
  | none => L = []
  | some B => ∃ n D, n ≤ 4200 ∧ w.ownsMap Ybad.prog 25 ofOwed B n D ∧ Tie D L

theorem MapAt.kept {w w' : World} {B : Nat} {L : List Ent} {row : Option Nat} (h : MapAt w (some B) L) (hg : w.grownBy w' row) (hne : some B ≠ row) : MapAt w' (some B) L := by
  obtain ⟨n, D, hn, hown, hT⟩ := h
  exact ⟨n, D, hn, hown.kept hg hne, hT⟩

theorem MapAt.lt {w : World} {B : Nat} {L : List Ent} (h : MapAt w (some B) L) : B < w.heap.size := by
  obtain ⟨n, D, hn, hown, hT⟩ := h
  exact hown.lt

theorem MapAt.below {w w' : World} {B : Nat} {L : List Ent} (h : MapAt w (some B) L) (hb : Below w.heap.size w w') : MapAt w' (some B) L := by
  refine h.kept (row := none) ⟨hb.os, hb.tape, hb.output, hb.size, fun k hk _ => hb.block k hk⟩ (by simp)

theorem MapAt.belowO {w w' : World} {m : Option Nat} {L : List Ent} (h : MapAt w m L) (hb : Below w.heap.size w w') : MapAt w' m L := by
  cases m with
  | none => exact h
  | some B => exact h.below hb

theorem MapAt.drew {w : World} {m : Option Nat} {L : List Ent} (h : MapAt w m L) : MapAt w.drew m L := h.belowO (Below.refl _ _).drew

theorem MapAt.notCell {w : World} {B : Nat} {L : List Ent} (h : MapAt w (some B) L) {F o : Nat} {v : Value} (hc : w.cell? ⟨F, o, none⟩ = some v) : B ≠ F := fun e => by
  obtain ⟨n, D, hn, hown, hT⟩ := h
  obtain ⟨es, cl, hb, _⟩ := hown
  subst e
  simp [World.cell?, hb] at hc

set_option maxHeartbeats 400000 in
theorem sweep_all (F A : Nat) (m : Option Nat) (L : List Ent) (lim now kp : Int) (v0 : Value) (w : World) (hm : MapAt w m L) (ho : Once L) (hn : L.length ≤ 4200)
    (hF0 : w.cell? ⟨F, 0, none⟩ = some v0) (hF1 : w.cell? ⟨F, 1, none⟩ = some (.int .i64 kp)) (hf1 : w.frozen? ⟨F, 1, none⟩ = false) (hA : w.cell? ⟨A, 0, none⟩ = some (.int .i64 now)) (hAF : A ≠ F) :
    Calls Ybad.prog 15 #[.map m, .pointer (some ⟨F, 1, none⟩), .int .i64 lim, .func (.func 16) #[] #[.pointer (some ⟨A, 0, none⟩)]] w fun e w' =>
      ∃ B', e = .returned (.map (some B')) ∧ MapAt w' (some B') (swept m.isNone now lim kp L).1 ∧ (m = some B' ∨ w.heap.size ≤ B') ∧ Kept F v0 w w' ∧ w'.cell? ⟨F, 1, none⟩ = some (.int .i64 (swept m.isNone now lim kp L).2) := by
  have hFl : F < w.heap.size := World.block_lt_of_cell? w _ hF0
  have hK0 : Kept F v0 w w := ⟨⟨rfl, rfl, rfl, Nat.le_refl _, fun _ _ _ => rfl⟩, hF0, fun _ => rfl⟩
  cases m with
  | none =>
    refine (sweep_nil F A lim w).mono fun e w' ⟨he, hw⟩ => ?_
    subst hw
    refine ⟨w.heap.size, he, ⟨0, .map [], by omega, World.ownsMap_made _ _ _ _, Tie.empty⟩, Or.inr (Nat.le_refl _), hK0.more hFl (World.grownBy_alloc _ _ none) (fun j hj => by cases hj), ?_⟩
    rw [World.cell?_alloc_past _ _ _ hFl]; exact hF1
  | some B =>
    obtain ⟨n, D, hn', hown, hT⟩ := hm
    by_cases hl : (L.length : Int) < lim
    · refine (sweep_small F A B n D L lim w hown hT hl).mono fun e w' ⟨he, hw⟩ => ?_
      subst hw
      have e1 : swept (some B).isNone now lim kp L = (L, kp) := by simp [swept, hl]
      rw [e1]
      exact ⟨B, he, ⟨n, D, hn', hown, hT⟩, Or.inl rfl, hK0, hF1⟩
    · refine (sweep_big F A B n D L lim now kp v0 w hown hT ho (by omega) (by omega) hF0 hF1 hf1 hA hAF).mono fun e w' ⟨B', D', he, hB', hown', hT', hg, h1, h0, hf⟩ => ?_
      have e1 : swept (some B).isNone now lim kp L = (L.filter (fun x => live now x.2), ((L.filter (fun x => live now x.2)).length : Int)) := by simp [swept, hl]
      rw [e1]
      exact ⟨B', he, ⟨L.length, D', hn, hown', hT'⟩, Or.inr hB', ⟨hg, h0, hf⟩, h1⟩

theorem zero51 (w : World) : (zeroValue 51).run Ybad.prog w = .ok (.agg #[.int .i64 0, .int .i64 0]) w := by kernel_rfl

theorem field0 (c l : Int) (w : World) : Sem.run Ybad.prog (Instr.field 51 (Value.agg #[Value.int IntKind.i64 c, Value.int IntKind.i64 l]) 0) w = .ok (.int .i64 c) w := by kernel_rfl

theorem keySum_wf (a b c d p : Int) (ha : Byte a) (hb : Byte b) (hc : Byte c) (hd : Byte d) (hp : 0 ≤ p ∧ p < 65536) : (Lit.int .u64 (keySum a b c d p)).wf = true := by
  obtain ⟨a0, a1⟩ := ha; obtain ⟨b0, b1⟩ := hb; obtain ⟨c0, c1⟩ := hc; obtain ⟨d0, d1⟩ := hd; obtain ⟨p0, p1⟩ := hp
  refine WalkArith.wf_u64 ?_
  unfold keySum
  omega

theorem look_fst {D : DataW (Int × Int)} {L : List Ent} (hT : Tie D L) {k cq lq : Int} {ps : List MemPlace} (h : (D.atKey (.int .u64 k) (.held (0, 0)), ps) = (DataW.held (cq, lq), [])) : cq = ((look k L).getD (0, 0)).1 := by
  injection h with h _
  rw [hT.here] at h
  split at h
  · rename_i q hq
    injection h with h
    rw [hq, Option.getD_some, h]
  · rename_i hq
    injection h with h
    injection h with h
    rw [hq, Option.getD_none, ← h]

/-- Of what was there nothing has turned but the firewall's own block and the map that it led to. -/
structure Outside (F : Nat) (m : Option Nat) (w w' : World) : Prop where
  os : w'.os = w.os
  tape : w'.tape = w.tape
  output : w'.output = w.output
  size : w.heap.size ≤ w'.heap.size
  block : ∀ k, k < w.heap.size → k ≠ F → m ≠ some k → w'.heap[k]? = w.heap[k]?

theorem wrapEq (x : Int) : IntKind.i64.wrap x = wrap64 x := by rw [IntKind.wrap_i64]; unfold wrap64; rfl

/-- What 'sent' leaves. -/
def Sent (F : Nat) (m : Option Nat) (now lim kp key : Int) (L : List Ent) (w w' : World) : Prop :=
  ∃ (B' : Nat) (L1 : List Ent) (kp1 : Int) (n : Nat) (D : DataW (Int × Int)), Hid ((L1, kp1) = swept m.isNone now lim kp L) ∧ w'.ownsMap Ybad.prog 25 ofOwed B' n D ∧ Tie D (upd key (wrap64 (((look key L1).getD (0, 0)).1 + 1), now) L1) ∧
    w'.cell? ⟨F, 0, none⟩ = some (.map (some B')) ∧ w'.cell? ⟨F, 1, none⟩ = some (.int .i64 kp1) ∧ Outside F m w w' ∧ B' ≠ F ∧ (m = some B' ∨ w.heap.size ≤ B')

/-- The world behind 'f.owed = sweep(..)'. -/
def Swept (F : Nat) (m : Option Nat) (w wa : World) (now lim kp : Int) (L : List Ent) (wx : World) : Prop :=
  ∃ (B' : Nat) (L1 : List Ent) (kp1 : Int), Hid ((L1, kp1) = swept m.isNone now lim kp L) ∧ MapAt wx (some B') L1 ∧ (m = some B' ∨ w.heap.size ≤ B') ∧ B' ≠ F ∧ wa.grownBy wx (some F) ∧
    wx.cell? ⟨F, 0, none⟩ = some (.map (some B')) ∧ wx.cell? ⟨F, 1, none⟩ = some (.int .i64 kp1) ∧ (∀ o, wx.frozen? ⟨F, o, none⟩ = wa.frozen? ⟨F, o, none⟩)

theorem swept_mk {F : Nat} {m : Option Nat} {w wa w2 : World} {now lim kp : Int} {L L1 : List Ent} {B' : Nat} {kp1 : Int} {v0 : Value} (hsw : Hid ((L1, kp1) = swept m.isNone now lim kp L)) (hm2 : MapAt w2 (some B') L1) (hor : m = some B' ∨ w.heap.size ≤ B')
    (hkp : Kept F v0 wa w2) (hc1 : w2.cell? ⟨F, 1, none⟩ = some (.int .i64 kp1)) : Swept F m w wa now lim kp L (w2.setCell ⟨F, 0, none⟩ (.map (some B'))) := by
  have hne := hm2.notCell hkp.head
  refine ⟨B', L1, kp1, hsw, hm2.kept (grownBy_setCell _ _ _) (fun e => hne (Option.some.inj e)), hor, hne, hkp.grown.andThen (grownBy_setCell _ _ _) (fun j hj => Or.inr hj), World.cell?_setCell_same _ _ _ hkp.head, ?_, fun o => ?_⟩
  · exact (World.cell?_setCell_other _ _ _ _ (by simp)).trans hc1
  · rw [World.frozen?_setCell]; exact hkp.frozen o

set_option maxHeartbeats 1000000 in
set_option maxRecDepth 100000 in
theorem sent_any (F : Nat) (m : Option Nat) (L : List Ent) (kp wl ex a b c d p : Int) (z : Addr) (w : World) (ha : Byte a) (hb : Byte b) (hc : Byte c) (hd : Byte d) (hp : 0 ≤ p ∧ p < 65536) (h0 : 0 ≤ wl) (h1 : wl < 1073741824)
    (hm : MapAt w m L) (ho : Once L) (hn : L.length ≤ 4200) (hg : w.cell? ⟨0, 0, none⟩ = some (.pointer (some z)))
    (hF0 : w.cell? ⟨F, 0, none⟩ = some (.map m)) (hF1 : w.cell? ⟨F, 1, none⟩ = some (.int .i64 kp)) (hf0 : w.frozen? ⟨F, 0, none⟩ = false) (hf1 : w.frozen? ⟨F, 1, none⟩ = false) :
    Calls Ybad.prog 9 #[.pointer (some ⟨F, 0, none⟩), .agg #[.int .u64 0, .int .u64 (loSum a b c d), .pointer (some z), .int .u16 p], .agg #[.int .u64 wl, .int .i64 ex, .pointer none]] w fun e w' => e = .returned (.tuple #[]) ∧ Sent F m (nanoOf wl ex) (IntKind.i64.wrap (IntKind.i64.wrap (2 * kp) + 64)) kp (keySum a b c d p) L w w' := by
  have hFl : F < w.heap.size := World.block_lt_of_cell? w _ hF0
  go_enter Ybad.func9, Ybad.ntmps9
  go_wp2_with fail
  refine (unixNano_any wl ex (.pointer none) h0 h1 _).mono ?_
  rintro e w1 ⟨rfl, b1⟩
  have b1' : Below (w.heap.size + 2) ((w.alloc (.cells #[.int .u64 0, .int .u64 (loSum a b c d), .pointer (some z), .int .u16 p] 43)).alloc (.cells #[.int .u64 wl, .int .i64 ex, .pointer none] 28)) w1 := b1.mono (by simp)
  have z1 : w.heap.size + 2 ≤ w1.heap.size := by have := b1.size; simpa using this
  have bw1 : Below w.heap.size w w1 := (((Below.refl _ _).alloc (Nat.le_refl _) _).alloc (by simp) _).trans (b1'.mono (by omega))
  have x0 : w1.cell? ⟨w.heap.size, 0, none⟩ = some (.int .u64 0) := cellIn b1' (by omega) (by simp)
  have x1 : w1.cell? ⟨w.heap.size, 1, none⟩ = some (.int .u64 (loSum a b c d)) := cellIn b1' (by omega) (by simp)
  have x2 : w1.cell? ⟨w.heap.size, 2, none⟩ = some (.pointer (some z)) := cellIn b1' (by omega) (by simp)
  have x3 : w1.cell? ⟨w.heap.size, 3, none⟩ = some (.int .u16 p) := cellIn b1' (by omega) (by simp)
  have hF0' := cellIn bw1 hFl hF0
  have hF1' := cellIn bw1 hFl hF1
  have hf0' : w1.frozen? ⟨F, 0, none⟩ = false := (bw1.frozen (p := ⟨F, 0, none⟩) hFl).trans hf0
  have hf1' : w1.frozen? ⟨F, 1, none⟩ = false := (bw1.frozen (p := ⟨F, 1, none⟩) hFl).trans hf1
  have hFl1 : F < w1.heap.size := by omega
  have hm1 := (hm.belowO bw1).belowO ((Below.refl w1.heap.size w1).alloc (Nat.le_refl _) (.cells #[.int .i64 (nanoOf wl ex)] 2))
  have hF00 : F ≠ 0 := fun e => by subst e; rw [hF0] at hg; cases hg
  have HS : Hid (Calls Ybad.prog 15 #[.map m, .pointer (some ⟨F, 1, none⟩), .int .i64 (IntKind.i64.wrap (IntKind.i64.wrap (2 * kp) + 64)), .func (.func 16) #[] #[.pointer (some ⟨w1.heap.size, 0, none⟩)]] (w1.alloc (.cells #[.int .i64 (nanoOf wl ex)] 2)).drew fun e w' =>
      ∃ (B' : Nat) (L1 : List Ent) (kp1 : Int), Hid ((L1, kp1) = swept m.isNone (nanoOf wl ex) (IntKind.i64.wrap (IntKind.i64.wrap (2 * kp) + 64)) kp L) ∧ e = .returned (.map (some B')) ∧ MapAt w' (some B') L1 ∧ (m = some B' ∨ w.heap.size ≤ B') ∧ Kept F (.map m) (w1.alloc (.cells #[.int .i64 (nanoOf wl ex)] 2)) w' ∧ w'.cell? ⟨F, 1, none⟩ = some (.int .i64 kp1)) := by
    refine (sweep_all F w1.heap.size m L (IntKind.i64.wrap (IntKind.i64.wrap (2 * kp) + 64)) (nanoOf wl ex) kp (.map m) (w1.alloc (.cells #[.int .i64 (nanoOf wl ex)] 2)).drew hm1.drew ho hn ?_ ?_ ?_ ?_ (by omega)).mono ?_
    · rw [World.cell?_drew, World.cell?_alloc_past _ _ _ hFl1]; exact hF0'
    · rw [World.cell?_drew, World.cell?_alloc_past _ _ _ hFl1]; exact hF1'
    · show (w1.alloc _).frozen? _ = _
      rw [World.frozen?_alloc_past _ _ _ hFl1]; exact hf1'
    · rw [World.cell?_drew]; simp
    · rintro e w' ⟨B', h1, h2, h3, h4, h5⟩
      have hor' : m = some B' ∨ w.heap.size ≤ B' := by
        rcases h3 with h | h
        · exact Or.inl h
        · have h7 : w1.heap.size + 1 ≤ B' := by simpa using h
          exact Or.inr (by omega)
      refine ⟨B', _, _, rfl, h1, h2, hor', ⟨⟨h4.grown.os, h4.grown.tape, h4.grown.output, h4.grown.size, h4.grown.block⟩, h4.head, h4.frozen⟩, h5⟩
  clear b1 b1'
  go_wp2_with fail
  go_cut [9] from 10 (fun t9 wx => t9 = .int .i64 (nanoOf wl ex) ∧ Swept F m w (w1.alloc (.cells #[.int .i64 (nanoOf wl ex)] 2)) (nanoOf wl ex) (IntKind.i64.wrap (IntKind.i64.wrap (2 * kp) + 64)) kp L wx)
  case first =>
    go_region_with (go_at_call 15; refine HS.out.mono ?_; rintro e w2 ⟨B', L1, kp1, hsw, rfl, hm2, hor, hkp, hc1⟩; have hd2 := hkp.head; have hfz2 : w2.frozen? ⟨F, 0, none⟩ = false := by rw [hkp.frozen 0, World.frozen?_alloc_past _ _ _ hFl1]; exact hf0')
    all_goals
      go_wp2_with fail
      go_meet
      case rel => exact ⟨rfl, swept_mk hsw hm2 hor hkp hc1⟩
  case rest =>
    obtain ⟨rfl, B', L1, kp1, hsw, hm2, hor, hne, hgr, hd0, hd1, hfz⟩ := hcut
    clear HS hm1
    have hNF : ∀ b, b < w1.heap.size → b ≠ F → ∀ o v, w1.cell? ⟨b, o, none⟩ = some v → wc.cell? ⟨b, o, none⟩ = some v := fun b hb hbF o v hv => hgr.cell (a := ⟨b, o, none⟩) (by rw [World.cell?_alloc_past _ _ _ hb]; exact hv) (fun e => hbF (Option.some.inj e))
    have y0 := hNF _ (by omega) (by omega) 0 _ x0
    have y1 := hNF _ (by omega) (by omega) 1 _ x1
    have y2 := hNF _ (by omega) (by omega) 2 _ x2
    have y3 := hNF _ (by omega) (by omega) 3 _ x3
    have gz : wc.cell? ⟨0, 0, none⟩ = some (.pointer (some z)) := hNF 0 (by omega) (fun e => hF00 e.symm) 0 _ (cellIn bw1 (by omega) hg)
    have yA : wc.cell? ⟨w1.heap.size, 0, none⟩ = some (.int .i64 (nanoOf wl ex)) := hgr.cell (a := ⟨w1.heap.size, 0, none⟩) (by simp) (fun e => by have := Option.some.inj e; simp at this; omega)
    have zc : w1.heap.size < wc.heap.size := by have := hgr.size; simp at this; omega
    clear hNF x0 x1 x2 x3 hF0' hF1' hf1'
    go_wp2_with fail
    refine (addrKey_any a b c d p ha hb hc hd hp z _ gz).mono ?_
    rintro e w4 ⟨rfl, b4⟩
    have bl4 : w1.heap.size < w4.heap.size := Nat.lt_of_lt_of_le zc b4.size
    have hFc : F < wc.heap.size := by omega
    have ed0 := cellIn b4 hFc hd0
    have ed1 := cellIn b4 hFc hd1
    have eA := cellIn b4 zc yA
    have efz : ∀ o, w4.frozen? ⟨F, o, none⟩ = w.frozen? ⟨F, o, none⟩ := fun o => by
      rw [b4.frozen (p := ⟨F, o, none⟩) hFc, hfz, World.frozen?_alloc_past _ _ _ hFl1]; exact bw1.frozen (p := ⟨F, o, none⟩) hFl
    obtain ⟨n4, D4, hn4, hown4, hT4⟩ := hm2.below b4
    have hkey := keyOf_int_mk Ybad.underlying25 (keySum_wf a b c d p ha hb hc hd hp)
    obtain ⟨v, ps, hrun, hv⟩ := hown4.drew.lookup law25 Ybad.underlying49 (zero51 _) (ofOwed_mk 0 0) hkey
    obtain ⟨⟨cq, lq⟩, rfl, hq⟩ := ofOwed_inv hv
    simp only [owV] at hrun
    have hfld := field0
    obtain ⟨w6, hrun6, hown6, hg6⟩ := hown4.drew.update law25 Ybad.underlying49 (val := .agg #[.int .i64 (IntKind.i64.wrap (cq + 1)), .int .i64 (nanoOf wl ex)]) (by unfold maxLen; omega) hkey (ofOwed_mk _ _)
    have HQ : Hid (cq = ((look (keySum a b c d p) L1).getD (0, 0)).1) := look_fst hT4 hq
    have hfr : Outside F m w w6 := by
      refine ⟨hg6.os.trans (b4.os.trans (hgr.os.trans bw1.os)), hg6.tape.trans (b4.tape.trans (hgr.tape.trans bw1.tape)), hg6.output.trans (b4.output.trans (hgr.output.trans bw1.output)), ?_, fun k hk hkF hkm => ?_⟩
      · have := hg6.size
        have e : w4.drew.heap.size = w4.heap.size := rfl
        omega
      · have hkB : some k ≠ some B' := fun e => by
          cases e
          rcases hor with h | h
          · exact hkm h
          · omega
        have q1 := hg6.block k (by show k < w4.heap.size; omega) hkB
        have q2 := b4.block k (by omega)
        have q3 := hgr.block k (by simp; omega) (fun e => hkF (Option.some.inj e))
        have q4 := Below.heap_alloc w1 (.cells #[.int .i64 (nanoOf wl ex)] 2) k (by omega)
        have q5 := bw1.block k hk
        exact q1.trans (q2.trans (q3.trans (q4.trans q5)))
    have HF : Hid (Sent F m (nanoOf wl ex) (IntKind.i64.wrap (IntKind.i64.wrap (2 * kp) + 64)) kp (keySum a b c d p) L w w6) := by
      refine ⟨B', L1, kp1, _, _, hsw, hown6, ?_, ?_, ?_, hfr, hne, hor⟩
      · rw [← HQ.out, ← wrapEq]; exact hT4.put _ _
      · exact hg6.cell (a := ⟨F, 0, none⟩) ed0 (fun e => hne (Option.some.inj e).symm)
      · exact hg6.cell (a := ⟨F, 1, none⟩) ed1 (fun e => hne (Option.some.inj e).symm)
    clear hv hq y0 y1 y2 y3 yA gz hd0 hd1 hfz hm2 hkey hfr hsw hor HQ hown6 hg6
    go_wp2_with fail
    go_region
    all_goals
      go_end0
      exact ⟨rfl, HF.out⟩
end Go.Proofs.YbulkehbmDoor
