import Derived.Test.Qxb6614557aModsKeep
import Derived.Test.Qxb6614557aModsRegion
namespace Go.Proofs.Qxb6614557aMods
open Go.RowKit
set_option linter.unusedVariables false

theorem Trym.info57 : (Trym.prog.info? 57).map (fun i => (i.zero, i.size, i.bytes)) = some (some (.agg (chCells 0 0 0 false 0 0).toArray), 32, 288) := by kernel_rfl

theorem heap_setCell_cells {w : World} {b o : Nat} {cs : Array Value} {t : TypeId} {fr : Nat × Nat} (h : w.heap[b]? = some (.cells cs t fr)) (u : Value) :
    (w.setCell ⟨b, o, none⟩ u).heap[b]? = some (.cells (cs.setIfInBounds o u) t fr) := by
  simp [World.setCell, Array.getElem?_modify, h]

theorem cellsOf_snoc (L : List Chg) (k t u : Int) (b : Bool) (r q : Int) : cellsOf (L ++ [⟨k, t, u, b, r, q⟩]) = cellsOf L ++ chCells k t u b r q := by
  simp [cellsOf]

theorem two_new (w : World) (o1 o2 : Obj) : ((w.alloc o1).alloc o2).drew.heap[w.heap.size + 1]? = some o2 := by
  have := heap_alloc_new (w.alloc o1) o2
  rw [show (w.alloc o1).heap.size = w.heap.size + 1 by simp] at this
  exact this

/-- the view's own block behind the append -/
theorem view_kept {mb kb vb : Nat} {db : Bool} {sv : Value} {L : List Chg} {n : Nat} {D : DataW Unit} {w w1 : World} {box el : Obj}
    (hinv : Inv w mb kb vb db sv L n D) (hg : ((w.alloc box).alloc el).drew.grownBy w1 sv.ownBlock) : w1.cell? ⟨vb, 1, none⟩ = some sv ∧ w1.frozen? ⟨vb, 1, none⟩ = false := by
  have lv : vb < w.heap.size := (Array.getElem?_eq_some_iff.1 hinv.view).1
  have hb : w1.heap[vb]? = some (.cells #[.pointer (some ⟨kb, 0, none⟩), sv, .bool db] 46 (0, 0)) := by
    rw [hg.block vb (by simp; omega) (fun h => by have := row_far hinv.row h.symm; omega)]
    show ((w.alloc box).alloc el).heap[vb]? = _
    rw [Below.heap_alloc _ _ _ (by simp; omega), Below.heap_alloc _ _ _ lv]
    exact hinv.view
  exact ⟨by rw [cell_of_row _ _ _ _ _ _ hb]; rfl, by simp [World.frozen?, hb]⟩

/-- what stands behind the append, and behind the store of its header -/
theorem add_fin {mb kb vb : Nat} {db : Bool} {sv sv' : Value} {L : List Chg} {n : Nat} {D : DataW Unit} {kd tok u : Int} {b : Bool} {r q : Int} {w w1 : World} {box el : Obj}
    (hinv : Inv w mb kb vb db sv L n D) (hg : ((w.alloc box).alloc el).drew.grownBy w1 sv.ownBlock) (hown1 : w1.ownsRow (vb + 1) 57 32 sv' (L.length + 1) (cellsOf L ++ chCells kd tok u b r q)) :
    Inv (w1.setCell ⟨vb, 1, none⟩ sv') mb kb vb db sv' (L ++ [⟨kd, tok, u, b, r, q⟩]) n D ∧ Turn vb mb sv w (w1.setCell ⟨vb, 1, none⟩ sv') := by
  have l1 := hinv.lt1
  have l2 := hinv.lt2
  have lv : vb < w.heap.size := (Array.getElem?_eq_some_iff.1 hinv.view).1
  have hb : ∀ k, k < w.heap.size → some k ≠ sv.ownBlock → w1.heap[k]? = w.heap[k]? := fun k h1 h2 => by
    rw [hg.block k (by simp; omega) h2]
    show ((w.alloc box).alloc el).heap[k]? = _
    rw [Below.heap_alloc _ _ _ (by simp; omega), Below.heap_alloc _ _ _ h1]
  have far : ∀ k, k ≤ vb → some k ≠ sv.ownBlock := fun k hk h => by
    have := row_far hinv.row h.symm
    omega
  have hsz : w.heap.size ≤ w1.heap.size := by
    have := hg.size
    simp at this
    omega
  refine ⟨⟨l1, l2, ?_, ?_, ?_, ?_⟩, ⟨hg.os, hg.tape, hg.output, by simpa [World.setCell] using hsz, fun k h1 h2 h3 h4 => ?_⟩⟩
  · rw [heap_setCell_cells ((hb vb lv (far vb (Nat.le_refl _))).trans hinv.view)]
    rfl
  · rw [World.cell?_of_block (w := w1) (Below.heap_setCell _ _ _ _ (by show kb ≠ vb; omega)), World.cell?_of_block (w := w) (hb kb (by omega) (far kb (by omega)))]
    exact hinv.mem
  · refine World.ownsMap.setCell ?_ (by show mb ≠ vb; omega) _
    exact ((hinv.map.alloc box).alloc el).drew.kept hg (far mb (by omega))
  · rw [cellsOf_snoc, List.length_append]
    exact ownsRow_setCell_below hown1 (by show vb < vb + 1; omega) _
  · rw [Below.heap_setCell _ _ _ _ (by show k ≠ vb; exact h2)]
    exact hb k h1 h4

set_option maxRecDepth 100000 in
set_option maxHeartbeats 1000000 in
theorem add_any (mb kb vb : Nat) (db : Bool) (sv : Value) (L : List Chg) (n : Nat) (D : DataW Unit) (kd tok u : Int) (b : Bool) (r q : Int) (w : World)
    (hinv : Kept (Inv w mb kb vb db sv L n D)) (hL : Kept (L.length ≤ 1000000)) :
    Calls Trym.prog 8 #[.pointer (some ⟨vb, 0, none⟩), .int .i64 kd, .int .i64 tok, .agg #[.int .i64 u, .bool b, .int .i64 r, .int .i64 q]] w fun e w' =>
      e = .returned (.tuple #[]) ∧ ∃ sv', Inv w' mb kb vb db sv' (L ++ [⟨kd, tok, u, b, r, q⟩]) n D ∧ Turn vb mb sv w w' := by
  obtain ⟨i0, hi, hz0, hz1, hz2⟩ := info_parts Trym.info57
  have HI : Kept (Trym.prog.info? 57 = some i0 ∧ i0.zero = some (.agg (chCells 0 0 0 false 0 0).toArray) ∧ i0.size = 32 ∧ i0.bytes = 288) := ⟨hi, hz0, hz1, hz2⟩
  clear hi hz0 hz1 hz2
  have c1 : w.cell? ⟨vb, 1, none⟩ = some sv := by rw [cell_of_row _ _ _ _ _ _ hinv.out.view]; rfl
  have lv : vb < w.heap.size := World.block_lt_of_cell? w _ c1
  go_enter Trym.func8, Trym.ntmps8
  go_wp2
  refine region_cut (fun w' => w'.cell? ⟨vb, 1, none⟩ = some sv ∧ w'.cell? ⟨w.heap.size, 0, none⟩ = some (.int .i64 u) ∧ w'.cell? ⟨w.heap.size, 1, none⟩ = some (.bool b) ∧ w'.cell? ⟨w.heap.size, 2, none⟩ = some (.int .i64 r) ∧ w'.cell? ⟨w.heap.size, 3, none⟩ = some (.int .i64 q))
    17 2 (by kernel_rfl) (by kernel_rfl) (by kernel_rfl) (by kernel_rfl) (by kernel_rfl) (fun c a d v w h => by cases d <;> exact h) ?_ ?_
  · go_keep
  intro hS
  simp only [List.take_succ_cons, List.take_zero, List.drop_succ_cons, List.drop_zero]
  iterate 17 (refine takes_cons ?_ rfl (fun w hSw => ?_) ?_; rotate_left; ((try dsimp only at hSw); go_simp; (try rfl)); simp only [Act.put, List.setIfInBounds_toArray, List.set_cons_zero, List.set_cons_succ])
  refine mids_cons rfl (fun K hK => ?_)
  go_simp
  refine hK.out _ _ ?_ ?_
  · go_keep
  clear hK K
  refine mids_cons rfl (fun K hK => ?_)
  refine wp_append_lies _ (.tmp 12) (.tmp 25) 43 rfl (vb + 1) 57 i0 _ 32 288 Trym.underlying43 HI.out.1 HI.out.2.1 HI.out.2.2.1 HI.out.2.2.2 rfl (by omega) sv L.length (cellsOf L) rfl (((hinv.out.row.alloc _).alloc _).drew)
    ⟨w.heap.size + 1, 0, none⟩ 1 1 (chCells kd tok u b r q) rfl rfl (World.news_of_block (cs := (chCells kd tok u b r q).toArray) (t := 57) (fr := (0, 0)) ?_) ?_ (by omega) (by have := hL.out; unfold maxLen; omega) (by have := hL.out; omega) (by simp; omega) _ rfl ?_
  · exact two_new w _ _
  · intro x hx
    simp only [chCells, List.mem_cons, List.not_mem_nil, or_false] at hx
    rcases hx with rfl | rfl | rfl | rfl | rfl | rfl | rfl | rfl | rfl | rfl | rfl | rfl | rfl | rfl | rfl | rfl | rfl | rfl | rfl | rfl | rfl | rfl | rfl | rfl | rfl | rfl | rfl | rfl | rfl | rfl | rfl | rfl <;> rfl
  intro g cap w1 hown1 hgrow hat hlt
  have HF := Kept.mk (add_fin hinv.out hgrow hown1)
  have hfar : some vb ≠ sv.ownBlock := fun h => by have := row_far hinv.out.row h.symm; omega
  have hbf : some w.heap.size ≠ sv.ownBlock := fun h => by have := row_far hinv.out.row h.symm; omega
  refine hK.out _ _ ?_ ?_
  · go_split_ands
    refine ⟨?_, ?_, ?_, ?_, ?_⟩
    · rw [hgrow.cell_far _ (by simp; omega) hfar]; go_keep
    · rw [hgrow.cell_far _ (by simp; omega) hbf]; go_keep
    · rw [hgrow.cell_far _ (by simp; omega) hbf]; go_keep
    · rw [hgrow.cell_far _ (by simp; omega) hbf]; go_keep
    · rw [hgrow.cell_far _ (by simp; omega) hbf]; go_keep
  clear hK K
  obtain ⟨v1, v2⟩ := view_kept hinv.out hgrow
  clear hown1 hgrow hat hlt hfar hbf
  simp only [Mids]
  go_wp2
  go_end0
  exact ⟨rfl, _, HF.out⟩
end Go.Proofs.Qxb6614557aMods
