import Derived.Test.Qxb6614557aModsAdd
import Derived.Deep.MidRow
import Derived.Deep.WholeRow
namespace Go.Proofs.Qxb6614557aMods
open Go.RowKit
set_option linter.unusedVariables false

def hit (t : Int) (c : Chg) : Bool := c.kind == 5 && c.tok == t

/-- what a view answers for a key -/
def Ans (L : List Chg) (D : DataW Unit) (t : Int) (u : Int) (b : Bool) (r q : Int) (ok : Bool) : Prop :=
  match L.reverse.find? (hit t) with
  | some c => u = c.uid ∧ b = c.unl ∧ r = c.rem ∧ q = c.quo ∧ ok = true
  | none => D.atKey (.int .i64 t) (balData 0 false 0 0) = balData u b r q ∧ ok = Maps.has D (.int .i64 t)

theorem ans_hit {L : List Chg} {D : DataW Unit} {t : Int} {m : Nat} {c : Chg} (hc : L[m]? = some c) (hh : hit t c = true) (hn : ∀ x ∈ L.drop (m + 1), hit t x = false) : Ans L D t c.uid c.unl c.rem c.quo true := by
  have hm : m < L.length := (List.getElem?_eq_some_iff.1 hc).1
  have e : L.reverse.find? (hit t) = some c := by
    have e1 : L = L.take m ++ (c :: L.drop (m + 1)) := by
      have := List.drop_eq_getElem_cons hm
      rw [(List.getElem?_eq_some_iff.1 hc).2] at this
      rw [← this, List.take_append_drop]
    rw [e1]
    simp only [List.reverse_append, List.reverse_cons, List.append_assoc, List.find?_append]
    have h0 : (L.drop (m + 1)).reverse.find? (hit t) = none := by
      rw [List.find?_eq_none]
      intro x hx
      rw [hn x (by simpa using hx)]
      simp
    simp [h0, hh]
  unfold Ans
  rw [e]
  exact ⟨rfl, rfl, rfl, rfl, rfl⟩

theorem ans_none {L : List Chg} {D : DataW Unit} {t : Int} {u : Int} {b : Bool} {r q : Int} (hn : ∀ x ∈ L, hit t x = false) (hd : D.atKey (.int .i64 t) (balData 0 false 0 0) = balData u b r q) : Ans L D t u b r q (Maps.has D (.int .i64 t)) := by
  have e : L.reverse.find? (hit t) = none := by
    rw [List.find?_eq_none]
    intro x hx
    rw [hn x (by simpa using hx)]
    simp
  unfold Ans
  rw [e]
  exact ⟨hd, rfl⟩

theorem miss_step {L : List Chg} {t : Int} {m : Nat} {c : Chg} (hc : L[m]? = some c) (hh : hit t c = false) (hn : ∀ x ∈ L.drop (m + 1), hit t x = false) : ∀ x ∈ L.drop m, hit t x = false := by
  have hm : m < L.length := (List.getElem?_eq_some_iff.1 hc).1
  rw [List.drop_eq_getElem_cons hm, (List.getElem?_eq_some_iff.1 hc).2]
  intro x hx
  rcases List.mem_cons.1 hx with rfl | hx
  · exact hh
  · exact hn x hx

/-- 'v, ok := m[k]' at balances: the value's shape written out -/
theorem wpList_lookup_bal {w : World} {ops : Array Oper} {rest : List Oper} {o : Oper} {a : Act} {Q : Exit → Act → World → Prop} (hg : o.guard = none) (m x : Operand) (hop : o.op = Op.lookup 58 m x true)
    (b n : Nat) (D : DataW Unit) (hm : a.eval m = .map (some b)) (hown : w.ownsMap Trym.prog 2 balElem b n D) (tok : Int) (hx : a.eval x = .int .i64 tok) (hwf : (Lit.int .i64 tok).wf = true)
    (hK : ∀ u c r q, D.atKey (.int .i64 tok) (balData 0 false 0 0) = balData u c r q → wpList Trym.prog ops Q rest (a.put o.dst (.tuple #[.agg #[.int .i64 u, .bool c, .int .i64 r, .int .i64 q], .bool (Maps.has D (.int .i64 tok))])) w) :
    wpList Trym.prog ops Q (o :: rest) a w :=
  wpList_lookup_own_ok w hg m x 58 hop 2 40 law Trym.underlying58 balElem (zero40 w) (balData 0 false 0 0) [] (balElem_mk 0 false 0 0) b n D hm hown _ _ hx (Maps.keyOf_int_mk Trym.underlying2 hwf) (fun v ps hv => by
    obtain ⟨u, c, r, q, rfl, hz⟩ := balElem_inv hv
    exact hK u c r q (congrArg Prod.fst hz))

/-- a whole struct laid into the block that was made last -/
theorem wpList_store_new {P : Program} {w : World} {ops : Array Oper} {rest : List Oper} {o : Oper} {a : Act} {Q : Exit → Act → World → Prop} (hg : o.guard = none) (ty : TypeId) (x y : Operand) (ho : o.op = .store ty x y)
    (c c' : Array Value) (hx : a.eval x = .pointer (some ⟨w.heap.size, 0, none⟩)) (hy : a.eval y = .agg c') (hi : (P.info? ty).map (·.size) = some c'.size) (hs : c.size = c'.size) (h1 : c'.all (·.oneCell') = true)
    (h : wpList P ops Q rest (a.put o.dst undef) (w.alloc (.cells c' ty))) : wpList P ops Q (o :: rest) a (w.alloc (.cells c ty)) := by
  refine wpList_plain hg fun K hK => ?_
  unfold Oper.wp execOp
  simp only [ho, hx, hy, Sem.run_bind, run_storeAt_new w ty c c' hi hs h1, Result.andThen_ok]
  exact hK _ _ h

theorem one_cells (k t u : Int) (b : Bool) (r q : Int) : (chCells k t u b r q).toArray.all (·.oneCell') = true := by
  simp [chCells, Value.oneCell']

/-- the two results of the look-up: a struct in its own block, and a bool -/
theorem res_two {tmps : Array Value} {w : World} {g : Nat} {c0 c1 c2 c3 : Value} {ok : Bool} (hp : tmps.getD 4 undef = .pointer (some ⟨g, 0, none⟩)) (h5 : tmps.getD 5 undef = .bool ok)
    (hg : w.heap[g]? = some (.cells #[c0, c1, c2, c3] 40 (0, 0))) : (results Trym.f11 tmps).run Trym.prog w = .ok (.tuple #[.agg #[c0, c1, c2, c3], .bool ok]) w := by
  have hl := run_loadVar_row (P := Trym.prog) w g 40 40 #[c0, c1, c2, c3] (0, 0) _ hg Trym.underlying40 rfl (by kernel_rfl)
  have hp' : tmps[4]?.getD undef = .pointer (some ⟨g, 0, none⟩) := by simpa using hp
  have h5' : tmps[5]?.getD undef = .bool ok := by simpa using h5
  simp [results, Trym.results11, hp', h5', asAddr, hl]

theorem four_cells {w : World} {g : Nat} {a0 a1 a2 a3 : Value} {t : TypeId} (h : w.heap[g]? = some (.cells #[a0, a1, a2, a3] t (0, 0))) (c0 c1 c2 c3 : Value) :
    ((((w.setCell ⟨g, 0, none⟩ c0).setCell ⟨g, 1, none⟩ c1).setCell ⟨g, 2, none⟩ c2).setCell ⟨g, 3, none⟩ c3).heap[g]? = some (.cells #[c0, c1, c2, c3] t (0, 0)) := by
  have h0 := heap_setCell_cells (o := 0) h c0
  have h1 := heap_setCell_cells (o := 1) h0 c1
  have h2 := heap_setCell_cells (o := 2) h1 c2
  have h3 := heap_setCell_cells (o := 3) h2 c3
  simpa using h3

theorem below_four {B : Nat} {w wr : World} (h : Below B w wr) {g : Nat} (hg : B ≤ g) (c0 c1 c2 c3 : Value) : Below B w ((((wr.setCell ⟨g, 0, none⟩ c0).setCell ⟨g, 1, none⟩ c1).setCell ⟨g, 2, none⟩ c2).setCell ⟨g, 3, none⟩ c3) :=
  (((h.setCell (p := ⟨g, 0, none⟩) hg c0).setCell (p := ⟨g, 1, none⟩) hg c1).setCell (p := ⟨g, 2, none⟩) hg c2).setCell (p := ⟨g, 3, none⟩) hg c3

theorem size_four (w : World) (g : Nat) (c0 c1 c2 c3 : Value) : ((((w.setCell ⟨g, 0, none⟩ c0).setCell ⟨g, 1, none⟩ c1).setCell ⟨g, 2, none⟩ c2).setCell ⟨g, 3, none⟩ c3).heap.size = w.heap.size := by simp [World.setCell]

theorem flat_at : ∀ (L : List Chg) (m : Nat) (c : Chg) (j : Nat), L[m]? = some c → j < 32 → (cellsOf L)[m * 32 + j]? = (chCells c.kind c.tok c.uid c.unl c.rem c.quo)[j]?
  | [], m, c, j, h, _ => by simp at h
  | x :: L, 0, c, j, h, hj => by
    simp at h
    subst h
    have hl : (chCells x.kind x.tok x.uid x.unl x.rem x.quo).length = 32 := rfl
    simp only [cellsOf, List.flatMap_cons, Nat.zero_mul, Nat.zero_add]
    rw [List.getElem?_append_left (by omega)]
  | x :: L, m + 1, c, j, h, hj => by
    have hl : (chCells x.kind x.tok x.uid x.unl x.rem x.quo).length = 32 := rfl
    have ih := flat_at L m c j (by simpa using h) hj
    simp only [cellsOf, List.flatMap_cons] at ih ⊢
    rw [List.getElem?_append_right (by omega), hl, show (m + 1) * 32 + j - 32 = m * 32 + j by omega]
    exact ih

/-- a change's cells in the row -/
theorem row_range {w : World} {base g cap : Nat} {L : List Chg} (h : w.ownsRow base 57 32 (.slice (some ⟨g, 0, none⟩) L.length cap) L.length (cellsOf L)) {m : Nat} {c : Chg} (hc : L[m]? = some c) :
    w.rangeAt g (m * 32) (chCells c.kind c.tok c.uid c.unl c.rem c.quo) := by
  intro j v hv
  have hj : j < 32 := (List.getElem?_eq_some_iff.1 hv).1
  have hm : m < L.length := (List.getElem?_eq_some_iff.1 hc).1
  rcases h.2 with ⟨h1, _⟩ | ⟨g', cap', cur, h1, _, hg, _, _, _, ht⟩
  · simp at h1
  · simp at h1
    obtain ⟨rfl, rfl⟩ := h1
    rw [cell_of_row _ _ _ _ _ _ hg]
    have e := flat_at L m c j hc hj
    rw [hv, ← ht, List.getElem?_take_of_lt (by omega)] at e
    simpa using e

theorem own_below {w wr : World} {B mb n : Nat} {D : DataW Unit} (h : w.ownsMap Trym.prog 2 balElem mb n D) (hb : Below B w wr) (hlt : mb < B) : wr.ownsMap Trym.prog 2 balElem mb n D := by
  obtain ⟨es, clock, h1, h2⟩ := h
  exact ⟨es, clock, (hb.block mb hlt).trans h1, h2⟩

theorem range_below {w wr : World} {B g o : Nat} {cs : List Value} (h : w.rangeAt g o cs) (hb : Below B w wr) (hlt : g < B) : wr.rangeAt g o cs := fun j v hv => (hb.cell (p := ⟨g, o + j, none⟩) hlt).trans (h j v hv)

theorem Trym.size57 : (Trym.prog.info? 57).map (·.size) = some 32 := by kernel_rfl

set_option maxRecDepth 100000 in
set_option maxHeartbeats 400000 in
theorem kept_db (mb kb vb : Nat) (sv : Value) (L : List Chg) (n : Nat) (D : DataW Unit) (tok : Int) (w : World) (hinv : Kept (Inv w mb kb vb true sv L n D)) :
    Calls Trym.prog 11 #[.pointer (some ⟨vb, 0, none⟩), .int .i64 tok] w fun e w' =>
      e = .returned (.tuple #[.agg #[.int .i64 0, .bool false, .int .i64 0, .int .i64 0], .bool false]) ∧ Below w.heap.size w w' := by
  have c2 : w.cell? ⟨vb, 2, none⟩ = some (.bool true) := by rw [cell_of_row _ _ _ _ _ _ hinv.out.view]; rfl
  have lv : vb < w.heap.size := World.block_lt_of_cell? w _ c2
  go_enter Trym.func11, Trym.ntmps11
  go_wp2
  exact bodyPost_ret (v := .tuple #[.agg #[.int .i64 0, .bool false, .int .i64 0, .int .i64 0], .bool false]) (by simp [results, Trym.results11, go_sem]) rfl ⟨rfl, (Below.refl _ _).alloc (Nat.le_refl _) _⟩

set_option maxRecDepth 100000 in
set_option maxHeartbeats 2000000 in
theorem kept_row (mb kb vb g cap : Nat) (L : List Chg) (n : Nat) (D : DataW Unit) (tok : Int) (w : World)
    (hinv : Kept (Inv w mb kb vb false (.slice (some ⟨g, 0, none⟩) L.length cap) L n D)) (hL : L.length ≤ 1000000) (htok : Kept ((Lit.int .i64 tok).wf = true)) :
    Calls Trym.prog 11 #[.pointer (some ⟨vb, 0, none⟩), .int .i64 tok] w fun e w' =>
      (∃ u b r q ok, e = .returned (.tuple #[.agg #[.int .i64 u, .bool b, .int .i64 r, .int .i64 q], .bool ok]) ∧ Ans L D tok u b r q ok) ∧ Below w.heap.size w w' := by
  have c0 : w.cell? ⟨vb, 0, none⟩ = some (.pointer (some ⟨kb, 0, none⟩)) := by rw [cell_of_row _ _ _ _ _ _ hinv.out.view]; rfl
  have c1 : w.cell? ⟨vb, 1, none⟩ = some (.slice (some ⟨g, 0, none⟩) L.length cap) := by rw [cell_of_row _ _ _ _ _ _ hinv.out.view]; rfl
  have c2 : w.cell? ⟨vb, 2, none⟩ = some (.bool false) := by rw [cell_of_row _ _ _ _ _ _ hinv.out.view]; rfl
  have c3 : w.cell? ⟨kb, 10, none⟩ = some (.map (some mb)) := hinv.out.mem
  have lv : vb < w.heap.size := World.block_lt_of_cell? w _ c0
  have lk : kb < w.heap.size := World.block_lt_of_cell? w _ c3
  go_enter Trym.func11, Trym.ntmps11
  go_wp2
  go_loopw [6] (fun i wr => ∃ k : Nat, k ≤ L.length ∧ i = .int .i64 ((k : Int) - 1) ∧ Kept (∀ x ∈ L.drop k, hit tok x = false) ∧ Kept (wr.heap[w.heap.size]? = some (.cells #[.int .i64 0, .bool false, .int .i64 0, .int .i64 0] 40 (0, 0))) ∧ Kept (Below w.heap.size w wr)) (fun i _ => (intOf i + 1).toNat)
  case atStart => exact ⟨L.length, Nat.le_refl _, rfl, ⟨by simp⟩, ⟨heap_alloc_new _ _⟩, ⟨(Below.refl _ _).alloc (Nat.le_refl _) _⟩⟩
  case round =>
    obtain ⟨k, hk, rfl, hmiss, hres, hbel⟩ := hrel
    have d0 : wr.cell? ⟨vb, 0, none⟩ = some (.pointer (some ⟨kb, 0, none⟩)) := (hbel.out.cell lv).trans c0
    have d1 : wr.cell? ⟨vb, 1, none⟩ = some (.slice (some ⟨g, 0, none⟩) L.length cap) := (hbel.out.cell lv).trans c1
    have d3 : wr.cell? ⟨kb, 10, none⟩ = some (.map (some mb)) := (hbel.out.cell lk).trans c3
    have r0 : wr.cell? ⟨w.heap.size, 0, none⟩ = some (.int .i64 0) := by rw [cell_of_row _ _ _ _ _ _ hres.out]; rfl
    have r1 : wr.cell? ⟨w.heap.size, 1, none⟩ = some (.bool false) := by rw [cell_of_row _ _ _ _ _ _ hres.out]; rfl
    have r2 : wr.cell? ⟨w.heap.size, 2, none⟩ = some (.int .i64 0) := by rw [cell_of_row _ _ _ _ _ _ hres.out]; rfl
    have r3 : wr.cell? ⟨w.heap.size, 3, none⟩ = some (.int .i64 0) := by rw [cell_of_row _ _ _ _ _ _ hres.out]; rfl
    have fz : ∀ j, wr.frozen? ⟨w.heap.size, j, none⟩ = false := fun j => by simp [World.frozen?, hres.out]
    have lr : w.heap.size < wr.heap.size := World.block_lt_of_cell? wr _ r0
    by_cases hk0 : k = 0
    · subst hk0
      have hmap : wr.ownsMap Trym.prog 2 balElem mb n D := own_below hinv.out.map hbel.out hinv.out.map.lt
      go_wp2_with (at_lookup; refine wpList_lookup_bal rfl _ _ rfl mb n D (by rfl) hmap tok (by rfl) htok.out ?_; intro u b r q hat)
      have H4 := four_cells hres.out (.int .i64 u) (.bool b) (.int .i64 r) (.int .i64 q)
      refine bodyPost_ret (v := .tuple #[.agg #[.int .i64 u, .bool b, .int .i64 r, .int .i64 q], .bool (Maps.has D (.int .i64 tok))]) (res_two rfl rfl ?_) rfl ⟨⟨u, b, r, q, _, rfl, ?_⟩, ?_⟩
      · rw [Below.heap_alloc _ _ _ (by rw [size_four]; exact lr)]
        exact H4
      · exact ans_none (by simpa using hmiss.out) hat
      · exact (below_four hbel.out (Nat.le_refl _) _ _ _ _).alloc (by rw [size_four]; omega) _
    · obtain ⟨m, rfl⟩ : ∃ m, k = m + 1 := ⟨k - 1, by omega⟩
      obtain ⟨⟨kd, tk, u, b, r, q⟩, hc⟩ : ∃ c, L[m]? = some c := ⟨_, List.getElem?_eq_getElem (by omega)⟩
      have hrange : wr.rangeAt g (m * 32) (chCells kd tk u b r q) := range_below (row_range hinv.out.row hc) hbel.out (row_far hinv.out.row rfl).2
      rw [show ((m + 1 : Nat) : Int) - 1 = (m : Int) by omega]
      have hm1 : (m : Int) < (L.length : Int) := by omega
      have hml : m < L.length := by omega
      by_cases h5 : kd = 5
      · subst h5
        by_cases ht : tk = tok
        · subst ht
          have f0 : (chCells 5 tk u b r q)[0]? = some (.int .i64 5) := rfl
          have f27 : (chCells 5 tk u b r q)[27]? = some (.int .i64 tk) := rfl
          have f28 : (chCells 5 tk u b r q)[28]? = some (.int .i64 u) := rfl
          have f29 : (chCells 5 tk u b r q)[29]? = some (.bool b) := rfl
          have f30 : (chCells 5 tk u b r q)[30]? = some (.int .i64 r) := rfl
          have f31 : (chCells 5 tk u b r q)[31]? = some (.int .i64 q) := rfl
          go_wp2_with (first | (refine wpList_load_mid rfl 57 (.tmp 30) rfl g (m * 32) (by rfl) _ _ hrange Trym.underlying57 rfl (by exact Trym.size57) ?_) | (refine wpList_store_new rfl 57 (.tmp 7) (.tmp 31) rfl _ (chCells 5 tk u b r q).toArray (by rfl) (by rfl) (by exact Trym.size57) (by rfl) (one_cells _ _ _ _ _ _) ?_))
          have H4 := four_cells hres.out (.int .i64 u) (.bool b) (.int .i64 r) (.int .i64 q)
          refine bodyPost_ret (v := .tuple #[.agg #[.int .i64 u, .bool b, .int .i64 r, .int .i64 q], .bool true]) (res_two rfl rfl ?_) rfl ⟨⟨u, b, r, q, true, rfl, ?_⟩, ?_⟩
          · rw [Below.heap_alloc _ _ _ (by rw [size_four]; exact lr)]
            exact H4
          · exact ans_hit hc (by simp [hit]) hmiss.out
          · exact (below_four hbel.out (Nat.le_refl _) _ _ _ _).alloc (by rw [size_four]; omega) _
        · have f0 : (chCells 5 tk u b r q)[0]? = some (.int .i64 5) := rfl
          have f27 : (chCells 5 tk u b r q)[27]? = some (.int .i64 tk) := rfl
          have ht' : (tk == tok) = false := beq_eq_false_iff_ne.2 ht
          go_wp2_with (first | (refine wpList_load_mid rfl 57 (.tmp 30) rfl g (m * 32) (by rfl) _ _ hrange Trym.underlying57 rfl (by exact Trym.size57) ?_) | (refine wpList_store_new rfl 57 (.tmp 7) (.tmp 31) rfl _ (chCells 5 tk u b r q).toArray (by rfl) (by rfl) (by exact Trym.size57) (by rfl) (one_cells _ _ _ _ _ _) ?_))
          go_roundw
          case rel => exact ⟨m, by omega, rfl, ⟨miss_step hc (by simp [hit, ht]) hmiss.out⟩, ⟨(Below.heap_alloc _ _ _ lr).trans hres.out⟩, ⟨hbel.out.alloc (by omega) _⟩⟩
          case measure => (simp [intOf]; try omega)
      · have f0 : (chCells kd tk u b r q)[0]? = some (.int .i64 kd) := rfl
        have h5' : (kd == 5) = false := beq_eq_false_iff_ne.2 h5
        go_wp2_with (first | (refine wpList_load_mid rfl 57 (.tmp 30) rfl g (m * 32) (by rfl) _ _ hrange Trym.underlying57 rfl (by exact Trym.size57) ?_) | (refine wpList_store_new rfl 57 (.tmp 7) (.tmp 31) rfl _ (chCells kd tk u b r q).toArray (by rfl) (by rfl) (by exact Trym.size57) (by rfl) (one_cells _ _ _ _ _ _) ?_))
        go_roundw
        case rel => exact ⟨m, by omega, rfl, ⟨miss_step hc (by simp [hit, h5]) hmiss.out⟩, ⟨(Below.heap_alloc _ _ _ lr).trans hres.out⟩, ⟨hbel.out.alloc (by omega) _⟩⟩
        case measure => (simp [intOf]; try omega)
end Go.Proofs.Qxb6614557aMods
