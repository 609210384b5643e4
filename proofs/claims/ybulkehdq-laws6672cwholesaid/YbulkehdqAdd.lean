/-
  Set.Add (function 20), with a result that holds no values.
-/
import Derived.Test.YbulkehdqGrow
import Derived.Deep.RegionLaw
import Derived.Deep.RegionHeldLaw
namespace Go.Proofs.Ybulkehdq
open Go.RowKit Go.Maps

/-- append as one step of a region that draws, by its run. -/
theorem step_append_run {P : Program} {ops : Array Oper} {o : Oper} {a : Act} {w : World} {K : Act → World → Prop} {Q : Exit → Act → World → Prop} {E : Prop}
    (hg : o.guard = none) (s x : Operand) (t : TypeId) (hop : o.op = Op.call { callee := Callee.builtin Builtin.append, args := #[s, x], argTypes := #[t, t] })
    (v1 v2 : Value) (hs : a.eval s = v1) (hx : a.eval x = v2) (v : Value) (w' : World) (hrun : (Builtin.append_ #[t, t] o.type #[v1, v2]).run P w = .ok v w')
    (hK : K (a.put o.dst v) w') :
    if Region.wanted o (yielded ops a.tmps) = true then Oper.wp P o a w K Q else E := by
  have hw : Region.wanted o (yielded ops a.tmps) = true := by simp [Region.wanted, hg]
  rw [if_pos hw]
  unfold Oper.wp
  simp [execOp, hop, resolve, invoke, builtin, hs, hx, hrun, Result.andThen]
  exact hK
/-- append as an operation of a plain region, by its run. -/
theorem wpList_append_run {P : Program} {w : World} {ops : Array Oper} {rest : List Oper} {o : Oper} {a : Act} {Q : Exit → Act → World → Prop} (hgd : o.guard = none) (s x : Operand) (t : TypeId)
    (ho : o.op = .call { callee := .builtin .append, args := #[s, x], argTypes := #[t, t] })
    (v1 v2 : Value) (hs : a.eval s = v1) (hx : a.eval x = v2) (v : Value) (w' : World) (hrun : (Builtin.append_ #[t, t] o.type #[v1, v2]).run P w = .ok v w')
    (h : wpList P ops Q rest (a.put o.dst v) w') : wpList P ops Q (o :: rest) a w := by
  refine wpList_plain hgd fun K hK => ?_
  unfold Oper.wp execOp
  simp only [ho, resolve, invoke, builtin, Sem.run_bind, Sem.run_pure, Result.andThen_ok, List.map_toArray, List.map_cons, List.map_nil, hs, hx, hrun]
  exact hK _ _ h
theorem eqlNilM (w : World) (r : Option Nat) : Sem.run Yba.prog (binOp BinOp.eql 38 (Value.map r) (Value.map none)) w = Result.ok (Value.bool r.isNone) w :=
  run_eql_map_nil (P := Yba.prog) w 38 9 37 r Yba.underlying38

theorem heap_new (w : World) (o : Obj) : (w.alloc o).heap[w.heap.size]? = some o := by
  show (w.heap.push o)[w.heap.size]? = some o
  simp
theorem heap_at (w : World) (o : Obj) (k : Nat) (h : k = w.heap.size) : (w.alloc o).heap[k]? = some o := by
  subst h
  exact heap_new w o
theorem SetM.cell1 {w : World} {base F : Nat} {L : List Ent} {m : Option Nat} (h : SetM w base F L m) : w.cell? ⟨F, 1, none⟩ = some (.map m) ∧ (∀ i, w.frozen? ⟨F, i, none⟩ = false) ∧ F < w.heap.size ∧ base ≤ F := by
  obtain ⟨a, c, V, h1, h2, _⟩ := h
  exact ⟨by simp [World.cell?, h1], fun i => by simp [World.frozen?, h1], (Array.getElem?_eq_some_iff.1 h1).1, h2⟩

/-- The map is laid. -/
theorem SetM.laid {w : World} {base F : Nat} {L : List Ent} (h : SetM w base F L none) : SetM ((w.alloc (.map #[] 0)).setCell ⟨F, 1, none⟩ (.map (some w.heap.size))) base F L (some w.heap.size) := by
  obtain ⟨a, c, V, h1, h2, h3, h4, h5, h6, h7, h8, h9⟩ := h
  have hFl : F < w.heap.size := (Array.getElem?_eq_some_iff.1 h1).1
  have hot : ∀ k, k ≠ F → k < w.heap.size → ((w.alloc (.map #[] 0)).setCell ⟨F, 1, none⟩ (.map (some w.heap.size))).heap[k]? = w.heap[k]? := fun k hk hl => by
    rw [heap_setCell_other _ _ _ _ hk]
    exact Below.heap_alloc _ _ _ hl
  have hne : ∀ {v : Value} {n : Nat} {xs : List Value}, w.ownsRow base 36 1 v n xs → ((w.alloc (.map #[] 0)).setCell ⟨F, 1, none⟩ (.map (some w.heap.size))).ownsRow base 36 1 v n xs := fun {v n xs} hr => by
    refine ⟨hr.1, ?_⟩
    rcases hr.2 with hn | ⟨g, cap, cur, rfl, hg, hgg, rest⟩
    · exact .inl hn
    · refine .inr ⟨g, cap, cur, rfl, hg, ?_, rest⟩
      rw [hot g (fun e => by subst e; rw [h1] at hgg; cases hgg) (Array.getElem?_eq_some_iff.1 hgg).1]
      exact hgg
  refine ⟨a, c, V, ?_, h2, hne h3, fun n hn => hne (h4 n hn), h5, h6, ⟨by omega, .map [], ?_, fun n hn => by rw [h7 n]; rfl⟩, fun x hx => ?_, h9⟩
  · rw [heap_setCell_same _ F 1 #[.slice a L.length c, .map none] 40 _ ((Below.heap_alloc _ _ _ hFl).trans h1)]
    simp
  · exact ((World.ownsMap_made w Yba.prog 9 ofVal).mono (Nat.zero_le _)).setCell (by show w.heap.size ≠ F; omega) _
  · obtain ⟨k1, k2, k3, q, k4⟩ := h8 x hx
    refine ⟨k1, k2, k3, q, ?_⟩
    rw [hot x.1 (fun e => by rw [e, h1] at k4; cases k4) (Array.getElem?_eq_some_iff.1 k4).1]
    exact k4

set_option maxRecDepth 4000 in
set_option maxHeartbeats 1000000 in
theorem add_any (base F : Nat) (L : List Ent) (m : Option Nat) (p n : Nat) (w : World) (h : SetM w base F L m) (hp : p < 3) (hn : n < 3) (hL : L.length ≤ 100000) :
    Calls Yba.prog 20 #[.pointer (some ⟨F, 0, none⟩), .agg #[.string (nS n), .string (pS p), .int .i64 0, .slice none 0 0, .int .i64 0]] w fun e w' => e = .returned (.tuple #[]) ∧
      ∃ L' B, SetM w' base F L' (some B) ∧ L'.length ≤ L.length + 1 ∧ Below base w w' ∧ (∀ (k : Nat) cs t, w.heap[k]? = some (.cells cs t (0, 0)) → t ≠ 36 → k ≠ F → w'.heap[k]? = w.heap[k]?) := by
  have hen := eqlNilM
  have hmm := @run_makeMap Yba.prog
  obtain ⟨hF1, hFz, hFl, hbF⟩ := h.cell1
  have h0 : SetM (w.alloc (.cells #[.string (nS n), .string (pS p), .int .i64 0, .slice none 0 0, .int .i64 0] 66)) base F L m := h.below ((Below.refl _ _).alloc (Nat.le_refl _) _)
  have H0 := show Hid _ from h0
  have HH := show Hid _ from h
  clear h h0
  go_enter Yba.func20, Yba.ntmps20
  go_upto_if 14 with (fail)
  go_cut [4] from 10 (fun _ wx => ∃ B, SetM wx base F L (some B) ∧ Below base w wx ∧ w.heap.size < wx.heap.size ∧ wx.heap[w.heap.size]? = some (.cells #[.string (nS n), .string (pS p), .int .i64 0, .slice none 0 0, .int .i64 0] 66 (0, 0)) ∧ Hid (∀ k : Nat, k < w.heap.size → k ≠ F → wx.heap[k]? = w.heap[k]?))
  case first =>
    cases m with
    | none =>
      have hw2 := SetM.laid H0.out
      have hsz : (w.alloc (.cells #[.string (nS n), .string (pS p), .int .i64 0, .slice none 0 0, .int .i64 0] 66)).heap.size = w.heap.size + 1 := by simp
      rw [hsz] at hw2
      have e : ((w.alloc (.cells #[.string (nS n), .string (pS p), .int .i64 0, .slice none 0 0, .int .i64 0] 66)).alloc (.map #[] 0)).setCell ⟨F, 1, none⟩ (.map (some (w.heap.size + 1))) = ((w.setCell ⟨F, 1, none⟩ (.map (some (w.heap.size + 1)))).alloc (.cells #[.string (nS n), .string (pS p), .int .i64 0, .slice none 0 0, .int .i64 0] 66)).alloc (.map #[] 0) := by
        rw [World.setCell_alloc_past _ _ _ _ (by simp; omega), World.setCell_alloc_past _ _ _ _ hFl]
      rw [e] at hw2
      have HW := show Hid _ from hw2
      clear hw2 e
      go_wp2_with fail
      go_meet
      case rel =>
        refine ⟨_, HW.out, ((((Below.refl base w).setCell (p := ⟨F, 1, none⟩) hbF _).alloc (by simp; omega) _).alloc (by simp; omega) _), by simp; omega, ?_, fun k hk hkF => by rw [Below.heap_alloc _ _ _ (by simp; omega), Below.heap_alloc _ _ _ (by simp; omega)]; exact heap_setCell_other _ _ _ _ hkF⟩
        rw [Below.heap_alloc _ _ _ (by simp)]
        have := heap_new (w.setCell ⟨F, 1, none⟩ (.map (some (w.heap.size + 1)))) (.cells #[.string (nS n), .string (pS p), .int .i64 0, .slice none 0 0, .int .i64 0] 66)
        simpa using this
    | some B =>
      go_wp2_with fail
      go_meet
      case rel => exact ⟨B, H0.out, (Below.refl _ _).alloc (by omega) _, by simp, heap_new _ _, fun k hk _ => Below.heap_alloc _ _ _ hk⟩
  case rest =>
    obtain ⟨B, hx, hbx, hsx, hrx, HK0⟩ := hcut
    have r0 : wc.cell? ⟨w.heap.size, 0, none⟩ = some (.string (nS n)) := by simp [World.cell?, hrx]
    have r1 : wc.cell? ⟨w.heap.size, 1, none⟩ = some (.string (pS p)) := by simp [World.cell?, hrx]
    have r3 : wc.cell? ⟨w.heap.size, 3, none⟩ = some (.slice none 0 0) := by simp [World.cell?, hrx]
    have b1 : Below wc.heap.size wc (wc.alloc (.cells #[.string (pS p), .string (nS n)] 43)) := (Below.refl _ _).alloc (Nat.le_refl _) _
    have hcl := bench_set base F L (some B) p n _ (hx.below b1) hp hn hL
    have HCL := show Hid _ from hcl
    have HX := show Hid _ from hx
    have HRX := show Hid _ from hrx
    clear hcl hx hrx
    go_wp2_with fail
    refine Calls.mono HCL.out ?_
    rintro e w3 ⟨rfl, q, rfl⟩
    have b3 : Below wc.heap.size wc (((wc.alloc (.cells #[.string (pS p), .string (nS n)] 43)).alloc (.cells #[.string (pS p), .string (nS n)] 43)).drewN q) :=
      (show Below wc.heap.size wc ((wc.alloc (.cells #[.string (pS p), .string (nS n)] 43)).alloc (.cells #[.string (pS p), .string (nS n)] 43)) from b1.alloc (by simp) _).trans ⟨rfl, rfl, rfl, Nat.le_refl _, fun _ _ => rfl⟩
    cases hpk : pick L p n with
    | some x =>
      simp only [ptrO, ptrV]
      go_wp2_with fail
      go_loopw [7, 62] (fun _ t wx => t = .int .i64 0 ∧ wx = ((wc.alloc (.cells #[.string (pS p), .string (nS n)] 43)).alloc (.cells #[.string (pS p), .string (nS n)] 43)).drewN q) (fun _ _ _ => 0)
      case atStart => exact ⟨rfl, rfl⟩
      case round =>
        obtain ⟨rfl, rfl⟩ := hrel
        go_wp2_with fail
        go_end0
        exact ⟨rfl, L, B, SetM.below HX.out b3, by omega, hbx.trans (b3.mono (by omega)), fun k cs t hk _ hkF => by
          have hkl := (Array.getElem?_eq_some_iff.1 hk).1
          rw [b3.block k (by omega)]
          exact HK0.out k hkl hkF⟩
    | none =>
      simp only [ptrO]
      have b7 : Below wc.heap.size wc (((((wc.alloc (.cells #[.string (pS p), .string (nS n)] 43)).alloc (.cells #[.string (pS p), .string (nS n)] 43)).drewN q).alloc (.map #[] 0)).alloc (.cells #[.string (pS p), .string (nS n), .slice none 0 0, .map (some (wc.heap.size + 1 + 1))] 47)) := (b3.alloc (by simp; omega) _).alloc (by simp; omega) _
      have HB7 := show Hid _ from b7
      clear b7
      go_wp2_with fail
      obtain ⟨w7, hw7⟩ : ∃ w7, w7 = (((((wc.alloc (.cells #[.string (pS p), .string (nS n)] 43)).alloc (.cells #[.string (pS p), .string (nS n)] 43)).drewN q).alloc (.map #[] 0)).alloc (.cells #[.string (pS p), .string (nS n), .slice none 0 0, .map (some (wc.heap.size + 1 + 1))] 47)) := ⟨_, rfl⟩
      rw [← hw7]
      have b7 : Below wc.heap.size wc w7 := by rw [hw7]; exact HB7.out
      have h7 := SetM.below HX.out b7
      have hnb : w7.heap[wc.heap.size + 1 + 1 + 1]? = some (.cells #[.string (pS p), .string (nS n), .slice none 0 0, .map (some (wc.heap.size + 1 + 1))] 47 (0, 0)) := by
        rw [hw7]
        exact heap_at _ _ _ (by simp)
      have hid : w7.heap[wc.heap.size]? = some (.cells #[.string (pS p), .string (nS n)] 43 (0, 0)) := by
        rw [hw7, Below.heap_alloc _ _ _ (by simp; omega), Below.heap_alloc _ _ _ (by simp; omega)]
        show ((wc.alloc (.cells #[.string (pS p), .string (nS n)] 43)).alloc (.cells #[.string (pS p), .string (nS n)] 43)).heap[wc.heap.size]? = _
        rw [Below.heap_alloc _ _ _ (by simp)]
        exact heap_new _ _
      have hrs : w7.heap[w.heap.size]? = some (.cells #[.string (nS n), .string (pS p), .int .i64 0, .slice none 0 0, .int .i64 0] 66 (0, 0)) := (b7.block _ hsx).trans HRX.out
      obtain ⟨hF7, -, -, -⟩ := h7.cell1
      obtain ⟨a, c, V, k1, k2, k3, k4, k5, k6, k7, k8, k9⟩ := h7
      have hlk : (Instr.lookup 38 (.map (some B)) (.string (nS n)) false).run Yba.prog w7.drew = .ok (V n) w7.drew := MapAt.look (show MapAt w7.drew base (some B) V L.length from k7) hn
      obtain ⟨v1, w8, w9, a2, c2, w10, run1, run2, run3, f9, f10, keep8, keep, bel, fin⟩ := added k1 k2 k3 k4 k5 k6 k7 k8 k9 (nb := wc.heap.size + 1 + 1 + 1) (by omega) hnb hp hn hpk hL
      have d1 : w7.cell? ⟨wc.heap.size, 1, none⟩ = some (.string (nS n)) := by simp [World.cell?, hid]
      have d81 : w8.cell? ⟨wc.heap.size, 1, none⟩ = some (.string (nS n)) := by
        have e1 := (keep8 wc.heap.size _ 43 hid (by decide)).1
        simp [World.cell?, e1, hid]
      have d8F : w8.cell? ⟨F, 1, none⟩ = some (.map (some B)) := by
        have e1 := (keep8 F _ 40 k1 (by decide)).1
        simp [World.cell?, e1, k1]
      have d91 : w9.cell? ⟨wc.heap.size, 1, none⟩ = some (.string (nS n)) := by
        have e1 := (keep8 wc.heap.size _ 43 hid (by decide)).2
        simp [World.cell?, e1, hid]
      have d9F : w9.cell? ⟨F, 1, none⟩ = some (.map (some B)) := by
        have e1 := (keep8 F _ 40 k1 (by decide)).2
        simp [World.cell?, e1, k1]
      have d9 : w9.cell? ⟨F, 0, none⟩ = some (.slice a L.length c) := by simp [World.cell?, f9, k1]
      have d10 : w10.cell? ⟨F, 0, none⟩ = some (.slice a L.length c) := by simp [World.cell?, f10, k1]
      have z10 : w10.frozen? ⟨F, 0, none⟩ = false := by simp [World.frozen?, f10, k1]
      have dv : w10.cell? ⟨w.heap.size, 3, none⟩ = some (.slice none 0 0) := by
        have e1 := keep w.heap.size _ 66 hrs (by decide) (by omega)
        rw [heap_setCell_other _ _ _ _ (by show w.heap.size ≠ F; omega), hrs] at e1
        simp [World.cell?, e1]
      have hne : ¬ w.heap.size = F := by omega
      have hwl : wc.heap.size < w7.heap.size := (Array.getElem?_eq_some_iff.1 hid).1
      have hFl7 : F < w7.heap.size := (Array.getElem?_eq_some_iff.1 k1).1
      have hlk' : (Instr.lookup 38 (.map (some B)) (.string (nS n)) false).run Yba.prog (w7.alloc (.cells #[.pointer (some ⟨wc.heap.size + 1 + 1 + 1, 0, none⟩)] 36)).drew = .ok (V n) (w7.alloc (.cells #[.pointer (some ⟨wc.heap.size + 1 + 1 + 1, 0, none⟩)] 36)).drew :=
        MapAt.look (show MapAt (w7.alloc (.cells #[.pointer (some ⟨wc.heap.size + 1 + 1 + 1, 0, none⟩)] 36)).drew base (some B) V L.length from k7.same (fun k _ hk => Below.heap_alloc w7 _ _ hk)) hn
      have run1' : (Builtin.append_ #[37, 37] 37 #[V n, .slice (some ⟨w7.heap.size, 0, none⟩) 1 1]).run Yba.prog (w7.alloc (.cells #[.pointer (some ⟨wc.heap.size + 1 + 1 + 1, 0, none⟩)] 36)).drew = .ok v1 w8 := run1
      have KEEP := show Hid _ from keep
      have FIN := show Hid _ from fin
      have BEL := show Hid _ from bel
      have B7 := show Hid _ from b7
      clear fin bel b7 keep keep8 f9 f10 hrs hid hnb k1 k3 k4 k5 k6 k7 k8 k9 hw7 b3
      have R1 := show Hid _ from run1
      have R3 := show Hid _ from run3
      clear run3
      clear run1 run1'
      go_region_held_law (fun w' => w'.cell? ⟨F, 1, none⟩ = some (.map (some B)) ∧ w'.cell? ⟨wc.heap.size, 1, none⟩ = some (.string (nS n))) (go_keep) (refine step_append_run rfl (.tmp 45) (.tmp 47) 37 rfl (V n) (.slice (some ⟨w7.heap.size, 0, none⟩) 1 1) (by simp [Act.eval]) (by simp [Act.eval]) v1 w8 R1.out ?_)
      all_goals
        go_wp2_with (at_builtin; refine wpList_append_run rfl (.tmp 53) (.tmp 55) 37 rfl (.slice a L.length c) (.slice (some ⟨w9.heap.size, 0, none⟩) 1 1) rfl rfl (.slice a2 (L.length + 1) c2) w10 R3.out ?_)
        go_loopw [7, 62] (fun _ t wx => t = .int .i64 0 ∧ wx = w10.setCell ⟨F, 0, none⟩ (.slice a2 (L.length + 1) c2)) (fun _ _ _ => 0)
        case atStart => exact ⟨rfl, rfl⟩
        case round =>
          obtain ⟨rfl, rfl⟩ := hrel
          go_wp2_with fail
          go_end0
          exact ⟨rfl, L ++ [(wc.heap.size + 1 + 1 + 1, p, n)], B, FIN.out, by simp, hbx.trans ((Below.mono B7.out (by omega)).trans BEL.out), fun k cs t hk ht hkF => by
            have hkl := (Array.getElem?_eq_some_iff.1 hk).1
            have e7 : w7.heap[k]? = w.heap[k]? := (Below.block B7.out k (by omega)).trans (HK0.out k hkl hkF)
            exact (KEEP.out k cs t (e7.trans hk) ht hkF).trans e7⟩
end Go.Proofs.Ybulkehdq
