import Derived.Test.Qxb6614557aModsLook
namespace Go.Proofs.Qxb6614557aMods
open Go.RowKit
set_option linter.unusedVariables false

set_option maxRecDepth 100000 in
set_option maxHeartbeats 1000000 in
theorem kept_nil (mb kb vb : Nat) (n : Nat) (D : DataW Unit) (tok : Int) (w : World)
    (hinv : Kept (Inv w mb kb vb false (.slice none 0 0) [] n D)) (htok : Kept ((Lit.int .i64 tok).wf = true)) :
    Calls Trym.prog 11 #[.pointer (some ⟨vb, 0, none⟩), .int .i64 tok] w fun e w' =>
      (∃ u b r q ok, e = .returned (.tuple #[.agg #[.int .i64 u, .bool b, .int .i64 r, .int .i64 q], .bool ok]) ∧ Ans [] D tok u b r q ok) ∧ Below w.heap.size w w' := by
  have c0 : w.cell? ⟨vb, 0, none⟩ = some (.pointer (some ⟨kb, 0, none⟩)) := by rw [cell_of_row _ _ _ _ _ _ hinv.out.view]; rfl
  have c1 : w.cell? ⟨vb, 1, none⟩ = some (.slice none 0 0) := by rw [cell_of_row _ _ _ _ _ _ hinv.out.view]; rfl
  have c2 : w.cell? ⟨vb, 2, none⟩ = some (.bool false) := by rw [cell_of_row _ _ _ _ _ _ hinv.out.view]; rfl
  have c3 : w.cell? ⟨kb, 10, none⟩ = some (.map (some mb)) := hinv.out.mem
  have lv : vb < w.heap.size := World.block_lt_of_cell? w _ c0
  have lk : kb < w.heap.size := World.block_lt_of_cell? w _ c3
  have hmap : ∀ o, (w.alloc o).ownsMap Trym.prog 2 balElem mb n D := fun o => hinv.out.map.alloc o
  have HM := Kept.mk hmap
  clear hmap
  go_enter Trym.func11, Trym.ntmps11
  go_wp2
  refine wp_loop_rounds 1 ?_
  rw [rounds_succ]
  go_wp2_with (at_lookup; refine wpList_lookup_bal rfl _ _ rfl mb n D (by rfl) (HM.out _) tok (by rfl) htok.out ?_; intro u b r q hat)
  refine bodyPost_ret (v := .tuple #[.agg #[.int .i64 u, .bool b, .int .i64 r, .int .i64 q], .bool (Maps.has D (.int .i64 tok))]) (res_two (g := w.heap.size) rfl rfl ?_) rfl ⟨⟨u, b, r, q, _, rfl, ?_⟩, ?_⟩
  · rw [Below.heap_alloc _ _ _ (by simp)]
    exact heap_alloc_new _ _
  · exact ans_none (by simp) hat
  · exact ((Below.refl _ _).alloc (Nat.le_refl _) _).alloc (by simp) _

/-- the look-up, whatever the view -/
theorem kept_any (mb kb vb : Nat) (sv : Value) (L : List Chg) (n : Nat) (D : DataW Unit) (tok : Int) (w : World)
    (hinv : Inv w mb kb vb false sv L n D) (hL : L.length ≤ 1000000) (htok : (Lit.int .i64 tok).wf = true) :
    Calls Trym.prog 11 #[.pointer (some ⟨vb, 0, none⟩), .int .i64 tok] w fun e w' =>
      (∃ u b r q ok, e = .returned (.tuple #[.agg #[.int .i64 u, .bool b, .int .i64 r, .int .i64 q], .bool ok]) ∧ Ans L D tok u b r q ok) ∧ Below w.heap.size w w' := by
  rcases hinv.row.2 with ⟨rfl, h0⟩ | ⟨g, cap, cur, rfl, _⟩
  · obtain rfl : L = [] := List.eq_nil_of_length_eq_zero h0
    exact kept_nil mb kb vb n D tok w ⟨hinv⟩ ⟨htok⟩
  · exact kept_row mb kb vb g cap L n D tok w ⟨hinv⟩ hL ⟨htok⟩

/-- what a view answers, of either kind -/
def Says (db : Bool) (L : List Chg) (D : DataW Unit) (t : Int) (u : Int) (b : Bool) (r q : Int) (ok : Bool) : Prop :=
  match db with
  | true => u = 0 ∧ b = false ∧ r = 0 ∧ q = 0 ∧ ok = false
  | false => Ans L D t u b r q ok

theorem says_any (mb kb vb : Nat) (db : Bool) (sv : Value) (L : List Chg) (n : Nat) (D : DataW Unit) (tok : Int) (w : World)
    (hinv : Inv w mb kb vb db sv L n D) (hL : L.length ≤ 1000000) (htok : (Lit.int .i64 tok).wf = true) :
    Calls Trym.prog 11 #[.pointer (some ⟨vb, 0, none⟩), .int .i64 tok] w fun e w' =>
      (∃ u b r q ok, e = .returned (.tuple #[.agg #[.int .i64 u, .bool b, .int .i64 r, .int .i64 q], .bool ok]) ∧ Says db L D tok u b r q ok) ∧ Below w.heap.size w w' := by
  cases db
  · exact kept_any mb kb vb sv L n D tok w hinv hL htok
  · refine (kept_db mb kb vb sv L n D tok w ⟨hinv⟩).mono ?_
    rintro e w' ⟨rfl, hb⟩
    exact ⟨⟨0, false, 0, 0, false, rfl, rfl, rfl, rfl, rfl, rfl⟩, hb⟩

theorem res_two7 {tmps : Array Value} {w : World} {g : Nat} {c0 c1 c2 c3 : Value} {ok : Bool} (hp : tmps.getD 4 undef = .pointer (some ⟨g, 0, none⟩)) (h5 : tmps.getD 5 undef = .bool ok)
    (hg : w.heap[g]? = some (.cells #[c0, c1, c2, c3] 28 (0, 0))) : (results Trym.f7 tmps).run Trym.prog w = .ok (.tuple #[.agg #[c0, c1, c2, c3], .bool ok]) w := by
  have hl := run_loadVar_row (P := Trym.prog) w g 28 28 #[c0, c1, c2, c3] (0, 0) _ hg Trym.underlying28 rfl (by kernel_rfl)
  have hp' : tmps[4]?.getD undef = .pointer (some ⟨g, 0, none⟩) := by simpa using hp
  have h5' : tmps[5]?.getD undef = .bool ok := by simpa using h5
  simp [results, Trym.results7, hp', h5', asAddr, hl]

theorem inv_alloc {w : World} {mb kb vb : Nat} {db : Bool} {sv : Value} {L : List Chg} {n : Nat} {D : DataW Unit} (h : Inv w mb kb vb db sv L n D) (o : Obj) : Inv (w.alloc o) mb kb vb db sv L n D := by
  have lv : vb < w.heap.size := (Array.getElem?_eq_some_iff.1 h.view).1
  have lk := h.lt2
  exact ⟨h.lt1, h.lt2, (Below.heap_alloc _ _ _ lv).trans h.view, (World.cell?_of_block (w := w) (Below.heap_alloc _ _ _ (by show kb < _; omega))).trans h.mem, h.map.alloc o, h.row.alloc o⟩

set_option maxRecDepth 100000 in
set_option maxHeartbeats 1000000 in
theorem zz_any (mb kb vb : Nat) (db : Bool) (sv : Value) (L : List Chg) (n : Nat) (D : DataW Unit) (tok : Int) (w : World)
    (hinv : Kept (Inv w mb kb vb db sv L n D)) (hL : Kept (L.length ≤ 1000000)) (htok : Kept ((Lit.int .i64 tok).wf = true)) :
    Calls Trym.prog 7 #[.pointer (some ⟨vb, 0, none⟩), .int .i64 tok] w fun e w' =>
      (∃ u b r q ok, e = .returned (.tuple #[.agg #[.int .i64 u, .bool b, .int .i64 r, .int .i64 q], .bool ok]) ∧ Says db L D tok u b r q ok) ∧ Below w.heap.size w w' := by
  go_enter Trym.func7, Trym.ntmps7
  go_wp2_with fail
  refine (says_any mb kb vb db sv L n D tok _ (inv_alloc hinv.out _) hL.out htok.out).mono ?_
  rintro e w1 ⟨⟨u, b, r, q, ok, rfl, hs⟩, hb⟩
  have HS := Kept.mk hs
  clear hs
  have hres : w1.heap[w.heap.size]? = some (.cells #[.int .i64 0, .bool false, .int .i64 0, .int .i64 0] 28 (0, 0)) := (hb.block _ (by simp)).trans (heap_alloc_new _ _)
  have HB : Kept (Below w.heap.size w w1) := ⟨((Below.refl _ _).alloc (Nat.le_refl _) _).trans (hb.mono (by simp))⟩
  have lr : w.heap.size < w1.heap.size := (Array.getElem?_eq_some_iff.1 hres).1
  have r0 : w1.cell? ⟨w.heap.size, 0, none⟩ = some (.int .i64 0) := by rw [cell_of_row _ _ _ _ _ _ hres]; rfl
  have r1 : w1.cell? ⟨w.heap.size, 1, none⟩ = some (.bool false) := by rw [cell_of_row _ _ _ _ _ _ hres]; rfl
  have r2 : w1.cell? ⟨w.heap.size, 2, none⟩ = some (.int .i64 0) := by rw [cell_of_row _ _ _ _ _ _ hres]; rfl
  have r3 : w1.cell? ⟨w.heap.size, 3, none⟩ = some (.int .i64 0) := by rw [cell_of_row _ _ _ _ _ _ hres]; rfl
  have fz : ∀ j, w1.frozen? ⟨w.heap.size, j, none⟩ = false := fun j => by simp [World.frozen?, hres]
  have HR := Kept.mk hres
  clear hres hb
  go_wp2
  have H4 := four_cells HR.out (.int .i64 u) (.bool b) (.int .i64 r) (.int .i64 q)
  refine bodyPost_ret (v := .tuple #[.agg #[.int .i64 u, .bool b, .int .i64 r, .int .i64 q], .bool ok]) (res_two7 (g := w.heap.size) rfl rfl ?_) rfl ⟨⟨u, b, r, q, ok, rfl, HS.out⟩, ?_⟩
  · rw [Below.heap_alloc _ _ _ (by rw [size_four]; exact lr)]
    exact H4
  · exact (below_four HB.out (Nat.le_refl _) _ _ _ _).alloc (by rw [size_four]; omega) _

end Go.Proofs.Qxb6614557aMods
