import Derived.Test.Qxb6605842aModsLaw
import Derived.Laws.BytesArg
import Derived.Deep.WholeRow
namespace Go.Proofs.Qxb6605842aMods
open Go.RowKit
set_option linter.unusedVariables false

theorem Trym.cells28 : Trym.prog.cellsOf 28 = 64 := by kernel_rfl
theorem Trym.size28 : (Trym.prog.info? 28).map (·.size) = some 64 := by kernel_rfl

theorem size28_of (cs : Array Value) (h : Kept (cs.size = 64)) : (Trym.prog.info? 28).map (·.size) = some cs.size := by
  rw [h.out]; exact Trym.size28

/-- the digest's bytes as a text, read off the box -/
theorem conv_of (xs : List Int) (cs : Array Value) (w : World) (hl : xs.length = 64) (hc : ∀ i, i < 64 → cs[i]? = some (.int .u8 (xs.getD i 0))) :
    ∃ D : ByteArray, D.size = 64 ∧ (convert 31 9 (.slice (some ⟨w.heap.size, 0, none⟩) 64 64)).run Trym.prog ((w.alloc (.cells cs 28)).alloc (.cells cs 28)) = .ok (.string D) ((w.alloc (.cells cs 28)).alloc (.cells cs 28)) := by
  refine ⟨strOfNums xs, ?_, ?_⟩
  · rw [size_list]
    simp [strOfNums, hl]
  · refine run_convert_bytes_arg _ 31 5 Trym.underlying31 Trym.underlying5 w.heap.size 0 64 64 xs hl (fun i hi => ?_) 9 Trym.underlying9
    rw [World.cell?_alloc_past _ _ _ (by simp), Nat.zero_add, cell_of_row _ _ i cs 28 (0, 0) (heap_alloc_last w _)]
    exact hc i hi

set_option maxRecDepth 100000 in
set_option maxHeartbeats 400000 in
/-- THE LAW, where the text is short -/
theorem mainA (x : ByteArray) (xs : List Int) (cs : Array Value) (w : World) (hx : x.size ≤ 1048448) (hl : Kept (xs.length = 64)) (hcs : Kept (cs.size = 64))
    (hc : Kept (∀ i, i < 64 → cs[i]? = some (.int .u8 (xs.getD i 0)))) :
    Calls Trym.prog 5 #[.string x, .agg cs, .bool false] w fun e w' => e = .returned (.bool true) ∧ Below w.heap.size w w' := by
  obtain ⟨D, hD, hcv⟩ := conv_of xs cs w hl.out hc.out
  have hS : Kept (Shows (x ++ defA ++ D) x) := ⟨showsA x D (by omega) hD⟩
  have hD' : D.size ≤ 64 := by omega
  clear hD
  go_enter Trym.func5, Trym.ntmps5
  go_wp2_with (first | (refine wpList_load_row rfl 28 _ rfl w.heap.size rfl 28 cs (0, 0) _ (heap_alloc_last w _) Trym.underlying28 rfl (size28_of cs hcs) ?_) | (go_at_call 14; refine (bytes_yes _ _ _ _ (by omega)).mono ?_; rintro e w' ⟨rfl, rfl⟩))
  refine (zz_any _ _ _ hS.out).mono ?_
  rintro e w' ⟨rfl, c, rfl⟩
  go_wp2
  go_ret
  exact ⟨rfl, by repeat (first | exact Below.refl _ _ | refine Below.alloc ?_ (by simp <;> omega) _)⟩

set_option maxRecDepth 100000 in
set_option maxHeartbeats 400000 in
/-- THE LAW, where the text is short -/
theorem mainB (x : ByteArray) (xs : List Int) (cs : Array Value) (w : World) (hx : x.size ≤ 1048448) (hl : Kept (xs.length = 64)) (hcs : Kept (cs.size = 64))
    (hc : Kept (∀ i, i < 64 → cs[i]? = some (.int .u8 (xs.getD i 0)))) :
    Calls Trym.prog 5 #[.string x, .agg cs, .bool true] w fun e w' => e = .returned (.bool true) ∧ Below w.heap.size w w' := by
  obtain ⟨D, hD, hcv⟩ := conv_of xs cs w hl.out hc.out
  have hS : Kept (Shows (x ++ defB ++ D) x) := ⟨showsB x D (by omega) hD⟩
  have hD' : D.size ≤ 64 := by omega
  clear hD
  go_enter Trym.func5, Trym.ntmps5
  go_wp2_with (first | (refine wpList_load_row rfl 28 _ rfl w.heap.size rfl 28 cs (0, 0) _ (heap_alloc_last w _) Trym.underlying28 rfl (size28_of cs hcs) ?_) | (go_at_call 14; refine (bytes_yes _ _ _ _ (by omega)).mono ?_; rintro e w' ⟨rfl, rfl⟩))
  refine (zz_any _ _ _ hS.out).mono ?_
  rintro e w' ⟨rfl, c, rfl⟩
  go_wp2
  go_ret
  exact ⟨rfl, by repeat (first | exact Below.refl _ _ | refine Below.alloc ?_ (by simp <;> omega) _)⟩

set_option maxRecDepth 100000 in
set_option maxHeartbeats 400000 in
/-- a text between the two bounds -/
theorem mainMid (x : ByteArray) (cs : Array Value) (b : Bool) (w : World) (h1 : 1048448 < x.size) (h2 : x.size ≤ 1048576) (hcs : Kept (cs.size = 64)) :
    Calls Trym.prog 5 #[.string x, .agg cs, .bool b] w fun e w' => e = .returned (.bool true) ∧ Below w.heap.size w w' := by
  go_enter Trym.func5, Trym.ntmps5
  go_wp2_with (first | (refine wpList_load_row rfl 28 _ rfl w.heap.size rfl 28 cs (0, 0) _ (heap_alloc_last w _) Trym.underlying28 rfl (size28_of cs hcs) ?_) | (go_at_call 14; refine (bytes_yes _ _ _ _ (by omega)).mono ?_; rintro e w' ⟨rfl, rfl⟩))
  go_ret
  exact ⟨rfl, by repeat (first | exact Below.refl _ _ | refine Below.alloc ?_ (by simp <;> omega) _)⟩

set_option maxRecDepth 100000 in
set_option maxHeartbeats 400000 in
/-- a text beyond them -/
theorem mainLong (x : ByteArray) (cs : Array Value) (b : Bool) (w : World) (h1 : 1048576 < x.size) (h2 : x.size ≤ maxLen) (hcs : Kept (cs.size = 64)) :
    Calls Trym.prog 5 #[.string x, .agg cs, .bool b] w fun e w' => e = .returned (.bool true) ∧ Below w.heap.size w w' := by
  go_enter Trym.func5, Trym.ntmps5
  go_wp2_with (first | (refine wpList_load_row rfl 28 _ rfl w.heap.size rfl 28 cs (0, 0) _ (heap_alloc_last w _) Trym.underlying28 rfl (size28_of cs hcs) ?_) | (go_at_call 14; refine (bytes_no _ _ _ _ h1 h2).mono ?_; rintro e w' ⟨rfl, rfl⟩))
  go_ret
  exact ⟨rfl, by repeat (first | exact Below.refl _ _ | refine Below.alloc ?_ (by simp <;> omega) _)⟩

/-- THE LAW, every text, every digest -/
theorem main_any (x : ByteArray) (xs : List Int) (cs : Array Value) (b : Bool) (w : World) (hm : x.size ≤ maxLen) (hl : xs.length = 64) (hcs : cs.size = 64)
    (hc : ∀ i, i < 64 → cs[i]? = some (.int .u8 (xs.getD i 0))) :
    Calls Trym.prog 5 #[.string x, .agg cs, .bool b] w fun e w' => e = .returned (.bool true) ∧ Below w.heap.size w w' := by
  by_cases h1 : x.size ≤ 1048448
  · cases b
    · exact mainA x xs cs w h1 ⟨hl⟩ ⟨hcs⟩ ⟨hc⟩
    · exact mainB x xs cs w h1 ⟨hl⟩ ⟨hcs⟩ ⟨hc⟩
  · by_cases h2 : x.size ≤ 1048576
    · exact mainMid x cs b w (by omega) h2 ⟨hcs⟩
    · exact mainLong x cs b w (by omega) hm ⟨hcs⟩

end Go.Proofs.Qxb6605842aMods
