import Derived.Test.Qxb6614557aModsLeaf
import Derived.Deep.RegionHeld3
import Derived.Deep.AppendLies
namespace Go.Proofs.Qxb6614557aMods
open Go.RowKit
set_option linter.unusedVariables false

theorem new_any (db : Bool) (w : World) :
    Calls Trym.prog 9 #[.bool db] w fun e w' => e = .returned (.pointer (some ⟨w.heap.size + 2, 0, none⟩)) ∧
      Inv w' w.heap.size (w.heap.size + 1) (w.heap.size + 2) db (.slice none 0 0) [] 0 (.map []) ∧ Below w.heap.size w w' ∧ w.heap.size + 3 = w'.heap.size := by
  refine (new_walk db w).mono ?_
  rintro e w' ⟨rfl, rfl⟩
  refine ⟨rfl, ⟨by omega, by omega, ?_, ?_, ?_, World.ownsRow_nil _ _ _ _⟩, ?_, by simp⟩
  · have := heap_alloc_new ((w.alloc (.map #[] 0)).alloc (.cells (kCells w.heap.size) 75)) (.cells #[.pointer (some ⟨w.heap.size + 1, 0, none⟩), .slice none 0 0, .bool db] 46)
    simpa using this
  · rw [World.cell?_alloc_past _ _ _ (by simp)]
    have := cell_of_row _ _ 10 (kCells w.heap.size) 75 (0, 0) (heap_alloc_new (w.alloc (.map #[] 0)) (.cells (kCells w.heap.size) 75))
    rw [show w.heap.size + 1 = (w.alloc (.map #[] 0)).heap.size by simp]
    rw [this]
    rfl
  · exact ((World.ownsMap_made w Trym.prog 2 balElem).alloc _).alloc _
  · exact (((Below.refl _ _).alloc (Nat.le_refl _) _).alloc (by simp) _).alloc (by simp; omega) _

/-- where an owned row lies -/
theorem row_far {w : World} {base : Nat} {e : TypeId} {size : Nat} {v : Value} {n : Nat} {xs : List Value} (h : w.ownsRow base e size v n xs) {k : Nat} (hk : v.ownBlock = some k) : base ≤ k ∧ k < w.heap.size := by
  rcases h.2 with ⟨rfl, _⟩ | ⟨g, cap, cur, rfl, hb, hg, _⟩
  · simp [Value.ownBlock] at hk
  · simp [Value.ownBlock] at hk
    subst hk
    exact ⟨hb, (Array.getElem?_eq_some_iff.1 hg).1⟩

set_option maxHeartbeats 1000000 in
theorem keep_any (mb kb vb : Nat) (db : Bool) (sv : Value) (L : List Chg) (n : Nat) (D : DataW Unit) (tok u : Int) (b : Bool) (r q : Int) (w : World)
    (hinv : Kept (Inv w mb kb vb db sv L n D)) (hn : n < maxLen) (htok : (Lit.int .i64 tok).wf = true) :
    Calls Trym.prog 10 #[.pointer (some ⟨vb, 0, none⟩), .int .i64 tok, .agg #[.int .i64 u, .bool b, .int .i64 r, .int .i64 q]] w fun e w' =>
      e = .returned (.tuple #[]) ∧ Inv w' mb kb vb db sv L (n + 1) (D.put (.int .i64 tok) (balData u b r q)) ∧ Turn vb mb sv w w' := by
  have c0 : w.cell? ⟨vb, 0, none⟩ = some (.pointer (some ⟨kb, 0, none⟩)) := by rw [cell_of_row _ _ _ _ _ _ hinv.out.view]; rfl
  have c1 := hinv.out.mem
  have lv : vb < w.heap.size := World.block_lt_of_cell? w _ c0
  have lk : kb < w.heap.size := World.block_lt_of_cell? w _ c1
  have hown : ((w.alloc (.cells #[.int .i64 u, .bool b, .int .i64 r, .int .i64 q] 28)).drew).ownsMap Trym.prog 2 balElem mb n D := (hinv.out.map.alloc _).drew
  obtain ⟨w1, hrun, hown1, hturn1⟩ := hown.store law Trym.underlying58 hn (Maps.keyOf_int_mk Trym.underlying2 htok) (balElem_mk u b r q)
  have hg1 := hturn1.grown
  have hne : ∀ k, k ≠ mb → k < w.heap.size + 1 → w1.heap[k]? = (w.alloc (.cells #[.int .i64 u, .bool b, .int .i64 r, .int .i64 q] 28)).heap[k]? := fun k h1 h2 => hg1.block k (by simpa using h2) (by simpa using h1)
  have hmb : mb < w.heap.size := hinv.out.map.lt
  have e0 : w1.cell? ⟨vb, 0, none⟩ = some (.pointer (some ⟨kb, 0, none⟩)) := by
    rw [World.cell?_of_block (hne vb (by have := hinv.out.lt1; have := hinv.out.lt2; omega) (by omega)), World.cell?_alloc_past _ _ _ (by first | omega | (simp; omega))]; exact c0
  have e1 : w1.cell? ⟨kb, 10, none⟩ = some (.map (some mb)) := by
    rw [World.cell?_of_block (hne kb (by have := hinv.out.lt1; omega) (by omega)), World.cell?_alloc_past _ _ _ (by first | omega | (simp; omega))]; exact c1
  have eb : w1.heap[w.heap.size]? = some (.cells #[.int .i64 u, .bool b, .int .i64 r, .int .i64 q] 28) := (hne _ (by omega) (by omega)).trans (heap_alloc_new _ _)
  have e2 : w1.cell? ⟨w.heap.size, 0, none⟩ = some (.int .i64 u) := by rw [cell_of_row _ _ _ _ _ _ eb]; rfl
  have e3 : w1.cell? ⟨w.heap.size, 1, none⟩ = some (.bool b) := by rw [cell_of_row _ _ _ _ _ _ eb]; rfl
  have e4 : w1.cell? ⟨w.heap.size, 2, none⟩ = some (.int .i64 r) := by rw [cell_of_row _ _ _ _ _ _ eb]; rfl
  have e5 : w1.cell? ⟨w.heap.size, 3, none⟩ = some (.int .i64 q) := by rw [cell_of_row _ _ _ _ _ _ eb]; rfl
  have HO : Kept (Inv w1 mb kb vb db sv L (n + 1) (D.put (.int .i64 tok) (balData u b r q)) ∧ Turn vb mb sv w w1) := by
    refine ⟨⟨hinv.out.lt1, hinv.out.lt2, ?_, e1, hown1, ?_⟩, ⟨hg1.os, hg1.tape, hg1.output, by have := hg1.size; simp at this; omega, ?_⟩⟩
    · rw [hne vb (by have := hinv.out.lt1; have := hinv.out.lt2; omega) (by omega), Below.heap_alloc _ _ _ lv]; exact hinv.out.view
    · exact ((hinv.out.row.alloc _).drew).kept hg1 (Or.inr fun h => by
        have := row_far hinv.out.row h
        have := hinv.out.lt1
        have := hinv.out.lt2
        omega)
    · intro k h1 h2 h3 h4
      rw [hne k h3 (by omega), Below.heap_alloc _ _ _ h1]
  clear hown1 hturn1 hown htok hn hg1 hne hmb eb
  go_enter Trym.func10, Trym.ntmps10
  go_wp2
  go_region_held3 (fun w' => w'.cell? ⟨vb, 0, none⟩ = some (.pointer (some ⟨kb, 0, none⟩)) ∧ w'.cell? ⟨kb, 10, none⟩ = some (.map (some mb)) ∧ w'.cell? ⟨w.heap.size, 0, none⟩ = some (.int .i64 u) ∧ w'.cell? ⟨w.heap.size, 1, none⟩ = some (.bool b) ∧ w'.cell? ⟨w.heap.size, 2, none⟩ = some (.int .i64 r) ∧ w'.cell? ⟨w.heap.size, 3, none⟩ = some (.int .i64 q)) (go_keep) (fail)
  go_wp2
  go_end0
  exact ⟨rfl, HO.out.1, HO.out.2⟩
end Go.Proofs.Qxb6614557aMods
