/-
  The sweep (function 15) and the closure that it is handed (function 16).
-/
import Derived.Test.YbulkehbmDoorLeaf3
import Derived.Test.YbulkehbmDoorAssoc
import Derived.Maps.RangeWalk
namespace Go.Proofs.YbulkehbmDoor
open Go.RowKit Go.Maps

/-- An element of the map as a value. -/
abbrev owV (p : Int × Int) : Value := .agg #[.int .i64 p.1, .int .i64 p.2]

/-- How an element of the map reads. -/
def ofOwed : Value → Option (DataW (Int × Int) × List MemPlace)
  | .agg cs => match cs.toList with
    | [.int .i64 c, .int .i64 l] => some (.held (c, l), [])
    | _ => none
  | _ => none

theorem ofOwed_mk (c l : Int) : ofOwed (.agg #[.int .i64 c, .int .i64 l]) = some (.held (c, l), []) := rfl
theorem ofOwed_inv {v : Value} {y : DataW (Int × Int) × List MemPlace} (h : ofOwed v = some y) : ∃ p, v = owV p ∧ y = (.held p, []) := by
  unfold ofOwed at h
  split at h
  · rename_i cs
    split at h
    · rename_i c l e
      injection h with h
      refine ⟨(c, l), ?_, h.symm⟩
      have : cs = #[.int .i64 c, .int .i64 l] := by apply Array.ext'; rw [e]
      rw [this]
    · cases h
  · cases h

theorem law25 : Keyed Ybad.prog 25 := int_keyed Ybad.underlying25

set_option maxHeartbeats 400000 in
theorem expired_any (A : Nat) (now c l : Int) (w : World) (hA : w.cell? ⟨A, 0, none⟩ = some (.int .i64 now)) :
    Calls Ybad.prog 16 #[.agg #[.int .i64 c, .int .i64 l], .pointer (some ⟨A, 0, none⟩)] w fun e w' =>
      e = .returned (.bool (!live now (c, l))) ∧ w' = w.alloc (.cells #[.int .i64 c, .int .i64 l] 51) := by
  have hlt : A < w.heap.size := World.block_lt_of_cell? w _ hA
  go_enter Ybad.func16, Ybad.ntmps16
  go_wp2
  go_ret
  refine ⟨?_, rfl⟩
  have e : decide (60000000000 ≤ wrap64 (now - l)) = !live now (c, l) := by simp only [live]; rw [Bool.eq_iff_iff]; simp
  exact congrArg (fun b => Ending.returned (.bool b)) e

theorem makeHint (n : Int) (w : World) : Sem.run Ybad.prog (Instr.makeMap 49 (some (.int .i64 n))) w = .ok (.map (some w.heap.size)) (w.alloc (.map #[] 0)) := by
  simp [Instr.makeMap, run_underlying Ybad.underlying49, asInt, go_sem]

theorem eqlNil (w : World) (r : Option Nat) : Sem.run Ybad.prog (binOp BinOp.eql 49 (Value.map r) (Value.map none)) w = Result.ok (Value.bool r.isNone) w :=
  run_eql_map_nil (P := Ybad.prog) w 49 25 51 r Ybad.underlying49

set_option maxHeartbeats 400000 in
theorem sweep_nil (F A : Nat) (lim : Int) (w : World) :
    Calls Ybad.prog 15 #[.map none, .pointer (some ⟨F, 1, none⟩), .int .i64 lim, .func (.func 16) #[] #[.pointer (some ⟨A, 0, none⟩)]] w fun e w' =>
      e = .returned (.map (some w.heap.size)) ∧ w' = w.alloc (.map #[] 0) := by
  have hmm := @run_makeMap Ybad.prog
  have hen := eqlNil
  go_enter Ybad.func15, Ybad.ntmps15
  go_wp2
  go_ret
  exact ⟨rfl, rfl⟩

set_option maxHeartbeats 400000 in
theorem sweep_small (F A B n : Nat) (D : DataW (Int × Int)) (L : List Ent) (lim : Int) (w : World) (hown : w.ownsMap Ybad.prog 25 ofOwed B n D) (hT : Tie D L) (hlim : (L.length : Int) < lim) :
    Calls Ybad.prog 15 #[.map (some B), .pointer (some ⟨F, 1, none⟩), .int .i64 lim, .func (.func 16) #[] #[.pointer (some ⟨A, 0, none⟩)]] w fun e w' =>
      e = .returned (.map (some B)) ∧ w' = w := by
  have hen := eqlNil
  have hs : ((Maps.size D : Nat) : Int) < lim := by rw [hT.size]; exact hlim
  go_enter Ybad.func15, Ybad.ntmps15
  go_wp2_with (first | (at_len; refine wpList_len_own _ rfl _ 49 rfl 25 51 Ybad.underlying49 _ B n D rfl hown ?_) | go_in)
  go_ret
  exact ⟨rfl, rfl⟩

theorem grownBy_setCell (w : World) (a : Addr) (v : Value) : w.grownBy (w.setCell a v) (some a.block) where
  os := rfl
  tape := rfl
  output := rfl
  size := by simp
  block := fun k _ hne => Below.heap_setCell w a v k (fun e => hne (by rw [e]))

theorem look_of_at {D : DataW (Int × Int)} {L : List Ent} (hT : Tie D L) {x : Int} {p : Int × Int} (h : ∀ zd, D.atKey (.int .u64 x) zd = .held p) : look x L = some p := by
  have h1 := hT.here x .nil
  rw [h] at h1
  split at h1
  · rename_i q hq
    injection h1 with h1
    rw [hq, h1]
  · cases h1

/-- THE STEP of a range over the map. -/
theorem wpList_next_owed (w : World) {ops : Array Oper} {rest : List Oper} {o : Oper} {a : Act} {Q : Exit → Act → World → Prop} (hg : o.guard = none) (it : Operand) (hop : o.op = Op.next it false)
    (b r n : Nat) (D : DataW (Int × Int)) (L : List Ent) (left : Lit → Bool) (cnt : Nat) (hit : a.eval it = .pointer (some ⟨r, 0, none⟩)) (h : w.ranges Ybad.prog 25 ofOwed b r n D left cnt) (hT : Tie D L)
    (hDone : cnt = 0 → (∀ kl, left kl = false) → wpList Ybad.prog ops Q rest (a.put o.dst (.tuple #[.bool false])) w)
    (hMore : ∀ (x c l : Int) (w' : World) (cnt' : Nat), (Lit.int .u64 x).wf = true → left (.int .u64 x) = true → look x L = some (c, l) → w'.ranges Ybad.prog 25 ofOwed b r n D (strike left x) cnt' → cnt' < cnt →
      w.grownBy w' (some r) → w'.heap.size = w.heap.size → (Instr.entry (.pointer (some ⟨r, 0, none⟩))).run Ybad.prog w' = .ok (.tuple #[.int .u64 x, .agg #[.int .i64 c, .int .i64 l]]) w' →
      wpList Ybad.prog ops Q rest (a.put o.dst (.tuple #[.bool true, .int .u64 x, .agg #[.int .i64 c, .int .i64 l]])) w') :
    wpList Ybad.prog ops Q (o :: rest) a w :=
  wpList_next_ranges w hg it hop 25 law25 ofOwed (Value.int .u64) owV (fun key kl hkey => by obtain ⟨x, rfl, _⟩ := Maps.keyOf_int_inv Ybad.underlying25 hkey; exact ⟨x, rfl⟩) (fun v y hv => by obtain ⟨p, rfl, _⟩ := ofOwed_inv hv; exact ⟨p, rfl⟩)
    b r n D left cnt hit h hDone (fun x p kl y w' cnt' hkey hlk hv hat hrg hlt hgr hsz hen => by
      obtain ⟨x', ex, rfl, hwx⟩ := Maps.keyOf_int_inv Ybad.underlying25 hkey
      cases ex
      obtain ⟨p', ep, rfl⟩ := ofOwed_inv hv
      have e1 : p = p' := by
        have := congrArg ofOwed ep
        rw [ofOwed_mk, ofOwed_mk] at this
        injection this with this
        injection this with this
        injection this with this
      subst e1
      exact hMore x p.1 p.2 w' cnt' hwx hlk (look_of_at hT hat) hrg hlt hgr hsz hen)

/-- What the sweep keeps of the firewall's own block, and of all else that was there. -/
structure Kept (F : Nat) (v0 : Value) (w w' : World) : Prop where
  grown : w.grownBy w' (some F)
  head : w'.cell? ⟨F, 0, none⟩ = some v0
  frozen : ∀ o, w'.frozen? ⟨F, o, none⟩ = w.frozen? ⟨F, o, none⟩

theorem Kept.more {F : Nat} {v0 : Value} {w w1 w2 : World} (h : Kept F v0 w w1) (hF : F < w.heap.size) {row : Option Nat} (hg : w1.grownBy w2 row) (hr : ∀ j, row = some j → w.heap.size ≤ j) : Kept F v0 w w2 := by
  have hne : some F ≠ row := fun e => by have := hr F e.symm; omega
  have hFl : F < w1.heap.size := Nat.lt_of_lt_of_le hF h.grown.size
  refine ⟨h.grown.andThen hg (fun j hj => Or.inl (hr j hj)), ?_, fun o => ?_⟩
  · exact hg.cell h.head hne
  · rw [← h.frozen o]; exact World.frozen?_of_block (a := ⟨F, o, none⟩) (hg.block F hFl hne)

theorem Kept.set {F : Nat} {v0 : Value} {w w1 : World} (h : Kept F v0 w w1) (v : Value) : Kept F v0 w (w1.setCell ⟨F, 1, none⟩ v) := by
  refine ⟨h.grown.andThen (grownBy_setCell w1 _ _) (fun j hj => Or.inr hj), ?_, fun o => ?_⟩
  · exact (World.cell?_setCell_other _ _ _ _ (by simp)).trans h.head
  · rw [World.frozen?_setCell]; exact h.frozen o

set_option maxHeartbeats 1000000 in
set_option maxRecDepth 100000 in
theorem sweep_big (F A B n : Nat) (D : DataW (Int × Int)) (L : List Ent) (lim now kp : Int) (v0 : Value) (w : World) (hown : w.ownsMap Ybad.prog 25 ofOwed B n D) (hT : Tie D L) (ho : Once L) (hn : L.length ≤ 5000) (hlim : lim ≤ L.length)
    (hF0 : w.cell? ⟨F, 0, none⟩ = some v0) (hF1 : w.cell? ⟨F, 1, none⟩ = some (.int .i64 kp)) (hf1 : w.frozen? ⟨F, 1, none⟩ = false) (hA : w.cell? ⟨A, 0, none⟩ = some (.int .i64 now)) (hAF : A ≠ F) :
    Calls Ybad.prog 15 #[.map (some B), .pointer (some ⟨F, 1, none⟩), .int .i64 lim, .func (.func 16) #[] #[.pointer (some ⟨A, 0, none⟩)]] w fun e w' =>
      ∃ (B' : Nat) (D' : DataW (Int × Int)), e = .returned (.map (some B')) ∧ w.heap.size ≤ B' ∧ w'.ownsMap Ybad.prog 25 ofOwed B' L.length D' ∧ Tie D' (L.filter (fun x => live now x.2)) ∧ w.grownBy w' (some F) ∧
        w'.cell? ⟨F, 1, none⟩ = some (.int .i64 ((L.filter (fun x => live now x.2)).length)) ∧ w'.cell? ⟨F, 0, none⟩ = some v0 ∧ (∀ o, w'.frozen? ⟨F, o, none⟩ = w.frozen? ⟨F, o, none⟩) := by
  have hen := eqlNil
  have hmh := makeHint
  have hs : ¬ ((Maps.size D : Nat) : Int) < lim := by rw [hT.size]; omega
  have hAl : A < w.heap.size := World.block_lt_of_cell? w _ hA
  have hFl : F < w.heap.size := World.block_lt_of_cell? w _ hF0
  have hBF : B ≠ F := fun e => by obtain ⟨es, cl, hb, _⟩ := hown; subst e; simp [World.cell?, hb] at hF0
  have hown1 := hown.setCell (a := ⟨F, 1, none⟩) hBF (.int .i64 0)
  go_enter Ybad.func15, Ybad.ntmps15
  go_wp2_with (first | (at_len; refine wpList_len_own _ rfl _ 49 rfl 25 51 Ybad.underlying49 _ B n D rfl hown ?_) | (at_range; refine wpList_range_own _ rfl _ 49 rfl 25 51 law25 Ybad.underlying49 _ B n D rfl hown1 ?_; intro w0 hrg0 hg0 hs0) | go_in)
  have e1 : (w.setCell ⟨F, 1, none⟩ (.int .i64 0)).heap.size = w.heap.size := by simp
  rw [e1] at hrg0 hs0
  go_loopw [10] (fun _ wr => ∃ (left : Lit → Bool) (cnt : Nat), wr.ranges Ybad.prog 25 ofOwed B w.heap.size n D left cnt ∧ Kept F v0 w wr ∧ wr.cell? ⟨F, 1, none⟩ = some (.int .i64 ((L.filter (done now left)).length)))
    (fun _ wr => wr.rangeLeft B w.heap.size)
  case atStart =>
    refine ⟨_, _, hrg0, ?_, ?_⟩
    · exact (Kept.set ⟨⟨rfl, rfl, rfl, Nat.le_refl _, fun _ _ _ => rfl⟩, hF0, fun _ => rfl⟩ _).more hFl hg0 (fun j hj => by cases hj)
    · rw [done_start now hT ho]
      exact hg0.cell (World.cell?_setCell_same _ _ _ hF1) (by simp)
  case round =>
    obtain ⟨left, cnt, hrg, hkp, hc1⟩ := hrel
    have hFr : F < wr.heap.size := Nat.lt_of_lt_of_le hFl hkp.grown.size
    have hcl : (L.filter (done now left)).length ≤ 5000 := Nat.le_trans (List.length_filter_le _ _) hn
    go_wp2_with (first
      | (at_next; refine wpList_next_owed _ rfl _ rfl B w.heap.size n D L left cnt rfl hrg hT ?_ ?_)
      | go_in)
    · intro hc0 hl0
      obtain ⟨N, hN⟩ : ∃ N, wr.heap.size = N := ⟨_, rfl⟩
      have hwl : w.heap.size < N := hN ▸ hrg.lt
      have hce : wr.cell? ⟨F, 1, none⟩ = some (.int .i64 ((L.filter (fun x => live now x.2)).length)) := by rw [← done_end now hl0]; exact hc1
      have hown2 := hrg.owns.alloc (.map #[] 0)
      have e2 : (wr.alloc (.map #[] 0)).heap.size = N + 1 := by simp [hN]
      have hkp2 := hkp.more hFl (World.grownBy_alloc wr (.map #[] 0) none) (fun j hj => by cases hj)
      have hmade := World.ownsMap_made wr Ybad.prog 25 ofOwed
      have hce2 : (wr.alloc (.map #[] 0)).cell? ⟨F, 1, none⟩ = some (.int .i64 ((L.filter (fun x => live now x.2)).length)) := by rw [World.cell?_alloc_past _ _ _ hFr]; exact hce
      rw [hN] at hmade hFr
      clear hc1 hc0 hrg0 hg0 hs0 hcl
      go_wp2_with (first | (at_range; refine wpList_range_own _ rfl _ 49 rfl 25 51 law25 Ybad.underlying49 _ B n D rfl hown2 ?_; intro w2 hrg2 hg2 hs2) | go_in)
      go_frame
      rw [e2] at hrg2 hs2 ⊢
      have hkp3 := hkp2.more hFl hg2 (fun j hj => by cases hj)
      have hmade2 := hmade.kept hg2 (by simp)
      have hce3 := hg2.cell hce2 (by simp)
      clear hkp hkp2 hrg hce hown2 e2 hmade hce2 hg2 hN
      go_loopw [13] (fun _ wr => ∃ (left : Lit → Bool) (cnt : Nat) (D2 : DataW (Int × Int)), wr.ranges Ybad.prog 25 ofOwed B (N + 1) n D left cnt ∧ cnt ≤ L.length ∧ wr.ownsMap Ybad.prog 25 ofOwed N (L.length - cnt) D2 ∧ Tie D2 (L.filter (done now left)) ∧ Kept F v0 w wr ∧ wr.cell? ⟨F, 1, none⟩ = some (.int .i64 ((L.filter (fun x => live now x.2)).length)))
        (fun _ wr => wr.rangeLeft B (N + 1))
      case atStart =>
        exact ⟨_, _, _, hrg2, by rw [hT.size]; exact Nat.le_refl _, hmade2.mono (Nat.zero_le _), by rw [done_start now hT ho]; exact Tie.empty, hkp3, hce3⟩
      case round =>
        obtain ⟨left, cnt, D2, hrg, hcnt, hown2, hT2, hkp, hc1⟩ := hrel
        go_wp2_with (first
          | (at_next; refine wpList_next_owed _ rfl _ rfl B (N + 1) n D L left cnt rfl hrg hT ?_ ?_)
          | go_in)
        · intro hc0 hl0
          go_wp2
          go_ret
          rw [done_end now hl0] at hT2
          exact ⟨N, D2, rfl, by omega, hown2.mono (by omega), hT2, hkp.grown, hc1, hkp.head, hkp.frozen⟩
        · intro x c l w1 cnt1 hwx hlx hlk hrg1 hlt hg1 hs1 hent
          have hkp1 := hkp.more hFl hg1 (fun j hj => by cases hj; omega)
          have hFA := hkp1.grown.cell hA (fun e => hAF (Option.some.inj e))
          have hc2 := hg1.cell hc1 (fun e => by have := Option.some.inj e; simp at this; omega)
          have hAl1 : A < w1.heap.size := Nat.lt_of_lt_of_le hAl hkp1.grown.size
          have hFl1 : F < w1.heap.size := Nat.lt_of_lt_of_le hFl hkp1.grown.size
          have hown3 := ((hown2.kept hg1 (by simp)).alloc (.cells #[.int .i64 c, .int .i64 l] 51)).alloc (.cells #[.int .i64 c, .int .i64 l] 51)
          by_cases hp : live now (c, l) = true
          · go_wp2_with (first | (go_at_call 16; refine (expired_any A now c l _ (by rw [World.cell?_alloc_past _ _ _ hAl1]; exact hFA)).mono ?_; rintro e w' ⟨rfl, rfl⟩) | (at_mapUpdate; refine wpList_mapUpdate_own _ rfl _ _ _ 49 rfl 25 51 law25 Ybad.underlying49 _ N _ _ rfl hown3 (by unfold maxLen; omega) _ _ _ rfl rfl (keyOf_int_mk Ybad.underlying25 hwx) _ [] (ofOwed_mk c l) ?_; intro w4 hown4 hg4; go_frame) | go_in)
            have hrg3 := ((hrg1.alloc (.cells #[.int .i64 c, .int .i64 l] 51)).alloc (.cells #[.int .i64 c, .int .i64 l] 51)).kept hg4 (fun e => by have := Option.some.inj e; have := hown.lt; omega) (fun e => by have := Option.some.inj e; omega)
            go_roundw
            case rel =>
              refine ⟨_, _, _, hrg3, by omega, hown4.mono (by omega), hT2.step ho hlk hlx hp, ((hkp1.more hFl (World.grownBy_alloc _ _ none) (fun j hj => by cases hj)).more hFl (World.grownBy_alloc _ _ none) (fun j hj => by cases hj)).more hFl hg4 (fun j hj => by cases hj; omega), ?_⟩
              refine hg4.cell ?_ (fun e => by have := Option.some.inj e; simp at this; omega)
              rw [World.cell?_alloc_past _ _ _ (by simp; omega), World.cell?_alloc_past _ _ _ hFl1]
              exact hc2
            case measure => rw [hrg3.left_eq, hrg.left_eq]; exact hlt
          · have hp' : live now (c, l) = false := by simpa using hp
            go_wp2_with (first | (go_at_call 16; refine (expired_any A now c l _ (by rw [World.cell?_alloc_past _ _ _ hAl1]; exact hFA)).mono ?_; rintro e w' ⟨rfl, rfl⟩) | go_in)
            have hrg3 := (hrg1.alloc (.cells #[.int .i64 c, .int .i64 l] 51)).alloc (.cells #[.int .i64 c, .int .i64 l] 51)
            go_roundw
            case rel =>
              refine ⟨_, _, _, hrg3, by omega, hown3.mono (by omega), by rw [done_drop now left x (c, l) hp' ho hlk]; exact hT2, (hkp1.more hFl (World.grownBy_alloc _ _ none) (fun j hj => by cases hj)).more hFl (World.grownBy_alloc _ _ none) (fun j hj => by cases hj), ?_⟩
              rw [World.cell?_alloc_past _ _ _ (by simp; omega), World.cell?_alloc_past _ _ _ hFl1]
              exact hc2
            case measure => rw [hrg3.left_eq, hrg.left_eq]; exact hlt
    · intro x c l w1 cnt1 hwx hlx hlk hrg1 hlt hg1 hs1 hent
      have hkp1 := hkp.more hFl hg1 (fun j hj => by cases hj; exact Nat.le_refl _)
      have hFA := hkp1.grown.cell hA (fun e => hAF (Option.some.inj e))
      have hc2 : w1.cell? ⟨F, 1, none⟩ = some (.int .i64 ((L.filter (done now left)).length)) := hg1.cell hc1 (fun e => by have := Option.some.inj e; simp at this; omega)
      have hf2 : w1.frozen? ⟨F, 1, none⟩ = false := (hkp1.frozen 1).trans hf1
      have hFl1 : F < w1.heap.size := by rw [hs1]; exact hFr
      have hAl1 : A < w1.heap.size := Nat.lt_of_lt_of_le hAl hkp1.grown.size
      by_cases hp : live now (c, l) = true
      · go_wp2_with (first | (go_at_call 16; refine (expired_any A now c l _ (by rw [World.cell?_alloc_past _ _ _ hAl1]; exact hFA)).mono ?_; rintro e w' ⟨rfl, rfl⟩) | go_in)
        have hrg3 := ((hrg1.kept (grownBy_setCell w1 ⟨F, 1, none⟩ (.int .i64 (((L.filter (done now left)).length : Int) + 1))) (fun e => hBF (Option.some.inj e)) (fun e => by have := Option.some.inj e; simp at this; omega)).alloc (.cells #[.int .i64 c, .int .i64 l] 51)).alloc (.cells #[.int .i64 c, .int .i64 l] 51)
        go_roundw
        case rel =>
          refine ⟨_, _, hrg3, ((hkp1.set _).more hFl (World.grownBy_alloc _ _ none) (fun j hj => by cases hj)).more hFl (World.grownBy_alloc _ _ none) (fun j hj => by cases hj), ?_⟩
          rw [World.cell?_alloc_past _ _ _ (by simp; omega), World.cell?_alloc_past _ _ _ (by simp; omega), World.cell?_setCell_same _ _ _ hc2, done_len now left x (c, l) hlx ho hlk, hp]
          simp
        case measure => rw [hrg3.left_eq, hrg.left_eq]; exact hlt
      · have hp' : live now (c, l) = false := by simpa using hp
        go_wp2_with (first | (go_at_call 16; refine (expired_any A now c l _ (by rw [World.cell?_alloc_past _ _ _ hAl1]; exact hFA)).mono ?_; rintro e w' ⟨rfl, rfl⟩) | go_in)
        have hrg3 := (hrg1.alloc (.cells #[.int .i64 c, .int .i64 l] 51)).alloc (.cells #[.int .i64 c, .int .i64 l] 51)
        go_roundw
        case rel =>
          refine ⟨_, _, hrg3, (hkp1.more hFl (World.grownBy_alloc _ _ none) (fun j hj => by cases hj)).more hFl (World.grownBy_alloc _ _ none) (fun j hj => by cases hj), ?_⟩
          rw [World.cell?_alloc_past _ _ _ (by simp; omega), World.cell?_alloc_past _ _ _ (by omega), done_drop now left x (c, l) hp' ho hlk]
          exact hc2
        case measure => rw [hrg3.left_eq, hrg.left_eq]; exact hlt
end Go.Proofs.YbulkehbmDoor
