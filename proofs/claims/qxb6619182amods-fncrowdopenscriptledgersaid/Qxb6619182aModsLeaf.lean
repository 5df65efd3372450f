import Derived.Test.Qxb6619182aModsPlain
import Derived.WalkKit
import Derived.WalkSpells
import Derived.WalkLawsBesides
import Derived.Deep.AppendLies
import Derived.Deep.RegionHeld3
import Derived.BigQuiet
import Derived.Deep.QuietTactic
import Derived.Deep.MidRow
namespace Go.Proofs.Qxb6619182aMods
open Go.RowKit
set_option linter.unusedVariables false

/-- A FACT KEPT FROM THE WALK -/
structure Kept (p : Prop) : Prop where
  out : p

theorem or_ne {a b : Option Ordering} : (a == b || a != b) = true := by simp [bne]

set_option maxHeartbeats 400000 in
theorem same_any (f : Nat) (w : World) :
    Calls Trym.prog 9 #[.float .f64 f, .float .f64 f] w fun e w' => e = .returned (.bool true) ∧ w = w' := by
  go_enter Trym.func9, Trym.ntmps9
  go_wp2_with fail
  all_goals go_ret
  · exact ⟨rfl, rfl⟩
  · exact ⟨congrArg (fun b => Ending.returned (.bool b)) or_ne, rfl⟩

set_option maxHeartbeats 400000 in
theorem new_walk (w : World) :
    Calls Trym.prog 5 #[] w fun e w' => e = .returned (.pointer (some ⟨w.heap.size + 3, 0, none⟩)) ∧
      w' = (((w.alloc (.map #[] 0)).alloc (.map #[] 0)).alloc (.map #[] 0)).alloc (.cells #[.slice none 0 0, .int .i64 0, .map (some w.heap.size), .map (some (w.heap.size + 1)), .map (some (w.heap.size + 2))] 40) := by
  have hmm := @run_makeMap Trym.prog
  go_enter Trym.func5, Trym.ntmps5
  go_wp2
  go_ret
  exact ⟨rfl, rfl⟩

/-- the cells of a period -/
def perCells (p : Int × Int × Nat) : List Value := [.int .i64 p.1, .int .i64 p.2.1, .float .f64 p.2.2, .int .i64 0]

theorem law : Maps.Keyed Trym.prog 3 := Maps.int_keyed Trym.underlying3
theorem zero3 (w : World) : (zeroValue 3).run Trym.prog w = .ok (.int .i64 0) w := by kernel_rfl

/-- WHAT A CROWD IS IN MEMORY: its three maps, itself, its periods' row from cb + 1 on -/
structure CP (w : World) (hb bb lb cb : Nat) (sv : Value) (np : Nat) (cs : List Value) (nh : Nat) (dh : DataW Unit) (nb : Nat) (db : DataW Unit) : Prop where
  lt1 : hb < bb
  lt2 : bb < lb
  lt3 : lb < cb
  blk : w.heap[cb]? = some (.cells #[sv, .int .i64 0, .map (some hb), .map (some bb), .map (some lb)] 40 (0, 0))
  row : w.ownsRow (cb + 1) 43 4 sv np cs
  hold : w.ownsMap (H := Unit) Trym.prog 3 (plainElem Trym.prog 3) hb nh dh
  busy : w.ownsMap (H := Unit) Trym.prog 3 (plainElem Trym.prog 3) bb nb db
  load : w.heap[lb]? = some (.map #[] 0)

/-- .. by the script so far -/
def CInv (w : World) (hb bb lb cb : Nat) (sv : Value) (pr : List (Int × Int × Nat)) (ks : List Int) : Prop :=
  CP w hb bb lb cb sv pr.length (pr.flatMap perCells) pr.length (HD (pr.map (·.1))) ks.length (BD ks)

section
variable {w wr : World} {hb bb lb cb : Nat} {sv : Value} {np : Nat} {cs : List Value} {nh : Nat} {dh : DataW Unit} {nb : Nat} {db : DataW Unit}
theorem CP.lt (h : CP w hb bb lb cb sv np cs nh dh nb db) : cb < w.heap.size := (Array.getElem?_eq_some_iff.1 h.blk).1

theorem CP.cells (h : CP w hb bb lb cb sv np cs nh dh nb db) :
    w.cell? ⟨cb, 0, none⟩ = some sv ∧ w.cell? ⟨cb, 1, none⟩ = some (.int .i64 0) ∧ w.cell? ⟨cb, 2, none⟩ = some (.map (some hb)) ∧ w.cell? ⟨cb, 3, none⟩ = some (.map (some bb)) ∧ w.cell? ⟨cb, 4, none⟩ = some (.map (some lb)) := by
  refine ⟨?_, ?_, ?_, ?_, ?_⟩ <;> (rw [cell_of_row _ _ _ _ _ _ h.blk]; rfl)

theorem CP.free (h : CP w hb bb lb cb sv np cs nh dh nb db) (j : Nat) : w.frozen? ⟨cb, j, none⟩ = false := by simp [World.frozen?, h.blk]

theorem own_below {B mb n : Nat} {D : DataW Unit} (h : w.ownsMap Trym.prog 3 (plainElem Trym.prog 3) mb n D) (hb : Below B w wr) (hlt : mb < B) : wr.ownsMap Trym.prog 3 (plainElem Trym.prog 3) mb n D := by
  obtain ⟨es, clock, h1, h2⟩ := h
  exact ⟨es, clock, (hb.block mb hlt).trans h1, h2⟩

theorem row_below {base : Nat} {e : TypeId} {size : Nat} {v : Value} {n : Nat} {xs : List Value} {B : Nat} (h : w.ownsRow base e size v n xs) (hb : Below B w wr) (hB : w.heap.size ≤ B) : wr.ownsRow base e size v n xs := by
  refine ⟨h.1, ?_⟩
  rcases h.2 with h0 | ⟨g, cap, cur, hv, hg, hh, rest⟩
  · exact .inl h0
  · exact .inr ⟨g, cap, cur, hv, hg, (hb.block g (Nat.lt_of_lt_of_le (Array.getElem?_eq_some_iff.1 hh).1 hB)).trans hh, rest⟩

theorem CP.below (h : CP w hb bb lb cb sv np cs nh dh nb db) (hb' : Below w.heap.size w wr) : CP wr hb bb lb cb sv np cs nh dh nb db := by
  have l1 := h.lt1
  have l2 := h.lt2
  have l3 := h.lt3
  have l4 := h.lt
  exact ⟨l1, l2, l3, (hb'.block cb l4).trans h.blk, row_below h.row hb' (Nat.le_refl _), own_below h.hold hb' (by omega), own_below h.busy hb' (by omega), (hb'.block lb (by omega)).trans h.load⟩

theorem CP.alloc (h : CP w hb bb lb cb sv np cs nh dh nb db) (o : Obj) : CP (w.alloc o) hb bb lb cb sv np cs nh dh nb db := h.below ((Below.refl _ _).alloc (Nat.le_refl _) o)

/-- where an owned row lies -/
theorem row_far {base : Nat} {e : TypeId} {size : Nat} {v : Value} {n : Nat} {xs : List Value} (h : w.ownsRow base e size v n xs) {k : Nat} (hk : v.ownBlock = some k) : base ≤ k ∧ k < w.heap.size := by
  rcases h.2 with ⟨rfl, _⟩ | ⟨g, cap, cur, rfl, hb, hg, _⟩
  · simp [Value.ownBlock] at hk
  · simp [Value.ownBlock] at hk
    subst hk
    exact ⟨hb, (Array.getElem?_eq_some_iff.1 hg).1⟩

/-- the holding map written -/
theorem CP.held (h : CP w hb bb lb cb sv np cs nh dh nb db) {w1 : World} {d1 : DataW Unit} {n1 : Nat} (ho : w1.ownsMap (H := Unit) Trym.prog 3 (plainElem Trym.prog 3) hb n1 d1) (hg : w.grownBy w1 (some hb)) : CP w1 hb bb lb cb sv np cs n1 d1 nb db := by
  have l1 := h.lt1
  have l2 := h.lt2
  have l3 := h.lt3
  have l4 := h.lt
  exact ⟨l1, l2, l3, (hg.block cb l4 (by simp; omega)).trans h.blk, h.row.kept hg (Or.inr fun e => by have := row_far h.row e; omega), ho, h.busy.kept hg (by simp; omega), (hg.block lb (by omega) (by simp; omega)).trans h.load⟩

/-- the busy map written -/
theorem CP.busied (h : CP w hb bb lb cb sv np cs nh dh nb db) {w1 : World} {d1 : DataW Unit} {n1 : Nat} (ho : w1.ownsMap (H := Unit) Trym.prog 3 (plainElem Trym.prog 3) bb n1 d1) (hg : w.grownBy w1 (some bb)) : CP w1 hb bb lb cb sv np cs nh dh n1 d1 := by
  have l1 := h.lt1
  have l2 := h.lt2
  have l3 := h.lt3
  have l4 := h.lt
  exact ⟨l1, l2, l3, (hg.block cb l4 (by simp; omega)).trans h.blk, h.row.kept hg (Or.inr fun e => by have := row_far h.row e; omega), h.hold.kept hg (by simp; omega), ho, (hg.block lb (by omega) (by simp; omega)).trans h.load⟩

theorem heap_setCell_cells {b o : Nat} {cs : Array Value} {t : TypeId} {fr : Nat × Nat} (h : w.heap[b]? = some (.cells cs t fr)) (u : Value) :
    (w.setCell ⟨b, o, none⟩ u).heap[b]? = some (.cells (cs.setIfInBounds o u) t fr) := by
  simp [World.setCell, Array.getElem?_modify, h]

/-- the crowd's own block behind an append to its row -/
theorem CP.view (h : CP w hb bb lb cb sv np cs nh dh nb db) {w1 : World} (hg : w.grownBy w1 sv.ownBlock) : w1.heap[cb]? = some (.cells #[sv, .int .i64 0, .map (some hb), .map (some bb), .map (some lb)] 40 (0, 0)) :=
  (hg.block cb h.lt (fun e => by have := row_far h.row e.symm; omega)).trans h.blk

/-- the row grown, its header stored -/
theorem CP.grown (h : CP w hb bb lb cb sv np cs nh dh nb db) {w1 : World} {sv' : Value} {np' : Nat} {cs' : List Value} (hg : w.grownBy w1 sv.ownBlock) (ho : w1.ownsRow (cb + 1) 43 4 sv' np' cs') : CP (w1.setCell ⟨cb, 0, none⟩ sv') hb bb lb cb sv' np' cs' nh dh nb db := by
  have l1 := h.lt1
  have l2 := h.lt2
  have l3 := h.lt3
  have l4 := h.lt
  have far : ∀ k, k ≤ cb → some k ≠ sv.ownBlock := fun k hk e => by have := row_far h.row e.symm; omega
  refine ⟨l1, l2, l3, ?_, ownsRow_setCell_below ho (by show cb < cb + 1; omega) _, (h.hold.kept hg (far hb (by omega))).setCell (by show hb ≠ cb; omega) _, (h.busy.kept hg (far bb (by omega))).setCell (by show bb ≠ cb; omega) _, ?_⟩
  · rw [heap_setCell_cells (h.view hg)]
    rfl
  · rw [Below.heap_setCell _ _ _ _ (by show lb ≠ cb; omega), hg.block lb (by omega) (far lb (by omega))]
    exact h.load
end

theorem heap3 (w : World) (o1 o2 o3 o4 : Obj) : ((((w.alloc o1).alloc o2).alloc o3).alloc o4).heap[w.heap.size]? = some o1 ∧ ((((w.alloc o1).alloc o2).alloc o3).alloc o4).heap[w.heap.size + 1]? = some o2 ∧
    ((((w.alloc o1).alloc o2).alloc o3).alloc o4).heap[w.heap.size + 2]? = some o3 ∧ ((((w.alloc o1).alloc o2).alloc o3).alloc o4).heap[w.heap.size + 3]? = some o4 := by
  have s1 : (w.alloc o1).heap.size = w.heap.size + 1 := by simp
  have s2 : ((w.alloc o1).alloc o2).heap.size = w.heap.size + 2 := by simp
  have s3 : (((w.alloc o1).alloc o2).alloc o3).heap.size = w.heap.size + 3 := by simp
  refine ⟨?_, ?_, ?_, ?_⟩
  · rw [Below.heap_alloc _ _ _ (by omega), Below.heap_alloc _ _ _ (by omega), Below.heap_alloc _ _ _ (by omega)]; exact heap_alloc_new _ _
  · rw [Below.heap_alloc _ _ _ (by omega), Below.heap_alloc _ _ _ (by omega), ← s1]; exact heap_alloc_new _ _
  · rw [Below.heap_alloc _ _ _ (by omega), ← s2]; exact heap_alloc_new _ _
  · rw [← s3]; exact heap_alloc_new _ _

theorem owns_empty {w : World} {b : Nat} (h : w.heap[b]? = some (.map #[] 0)) : w.ownsMap (H := Unit) Trym.prog 3 (plainElem Trym.prog 3) b 0 (.map []) :=
  ⟨#[], 0, h, ⟨by simp, MapKept.stamped_empty 0, by simp⟩, Nat.le_refl _, rfl⟩

theorem new_any (w : World) :
    Calls Trym.prog 5 #[] w fun e w' => e = .returned (.pointer (some ⟨w.heap.size + 3, 0, none⟩)) ∧
      CInv w' w.heap.size (w.heap.size + 1) (w.heap.size + 2) (w.heap.size + 3) (.slice none 0 0) [] [] ∧ Below w.heap.size w w' := by
  refine (new_walk w).mono ?_
  rintro e w' ⟨rfl, rfl⟩
  obtain ⟨h1, h2, h3, h4⟩ := heap3 w (.map #[] 0) (.map #[] 0) (.map #[] 0) (.cells #[.slice none 0 0, .int .i64 0, .map (some w.heap.size), .map (some (w.heap.size + 1)), .map (some (w.heap.size + 2))] 40)
  exact ⟨rfl, ⟨by omega, by omega, by omega, h4, World.ownsRow_nil _ _ _ _, owns_empty h1, owns_empty h2, h3⟩, ((((Below.refl _ _).alloc (Nat.le_refl _) _).alloc (by simp) _).alloc (by simp; omega) _).alloc (by simp; omega) _⟩

set_option maxHeartbeats 400000 in
theorem len_any (hb bb lb cb : Nat) (sv : Value) (pr : List (Int × Int × Nat)) (ks : List Int) (w : World) (h : Kept (CInv w hb bb lb cb sv pr ks)) :
    Calls Trym.prog 7 #[.pointer (some ⟨cb, 0, none⟩)] w fun e w' => e = .returned (.int .i64 pr.length) ∧ w = w' := by
  obtain ⟨ao, cap, hs⟩ : ∃ ao cap, sv = .slice ao pr.length cap := by
    rcases h.out.row.2 with ⟨rfl, h0⟩ | ⟨g, cap, cur, rfl, _⟩
    · exact ⟨none, 0, by rw [h0]⟩
    · exact ⟨_, cap, rfl⟩
  obtain ⟨c0, _⟩ := h.out.cells
  rw [hs] at c0
  clear hs
  go_enter Trym.func7, Trym.ntmps7
  go_wp2
  go_ret
  exact ⟨rfl, rfl⟩

set_option maxHeartbeats 400000 in
theorem ended_any (hb bb lb cb : Nat) (sv : Value) (pr : List (Int × Int × Nat)) (ks : List Int) (w : World) (h : Kept (CInv w hb bb lb cb sv pr ks)) :
    Calls Trym.prog 10 #[.pointer (some ⟨cb, 0, none⟩)] w fun e w' => e = .returned (.int .i64 0) ∧ w = w' := by
  obtain ⟨_, c1, _⟩ := h.out.cells
  go_enter Trym.func10, Trym.ntmps10
  go_wp2
  go_ret
  exact ⟨rfl, rfl⟩

set_option maxHeartbeats 400000 in
theorem load_any (hb bb lb cb : Nat) (sv : Value) (pr : List (Int × Int × Nat)) (ks : List Int) (w : World) (h : Kept (CInv w hb bb lb cb sv pr ks)) :
    Calls Trym.prog 11 #[.pointer (some ⟨cb, 0, none⟩)] w fun e w' => e = .returned (.int .i64 0) ∧ w = w' := by
  obtain ⟨_, _, _, _, c4⟩ := h.out.cells
  have hown : w.ownsMap (H := Unit) Trym.prog 62 (fun _ => none) lb 0 (.map []) := ⟨#[], 0, h.out.load, ⟨by simp, MapKept.stamped_empty 0, by simp⟩, Nat.le_refl _, rfl⟩
  have HO := Kept.mk hown
  clear hown
  go_enter Trym.func11, Trym.ntmps11
  go_wp2_with (at_len; refine wpList_len_own _ rfl _ 37 rfl 62 3 Trym.underlying37 _ lb 0 (.map []) rfl HO.out ?_)
  go_ret
  exact ⟨rfl, rfl⟩

set_option maxHeartbeats 400000 in
theorem holdLen_any (hb bb lb cb : Nat) (sv : Value) (pr : List (Int × Int × Nat)) (ks : List Int) (w : World) (h : Kept (CInv w hb bb lb cb sv pr ks)) :
    Calls Trym.prog 14 #[.pointer (some ⟨cb, 0, none⟩)] w fun e w' => e = .returned (.int .i64 (dist (pr.map (·.1)))) ∧ w = w' := by
  obtain ⟨_, _, c2, _⟩ := h.out.cells
  go_enter Trym.func14, Trym.ntmps14
  go_wp2_with (at_len; refine wpList_len_own _ rfl _ 36 rfl 3 3 Trym.underlying36 _ hb _ _ rfl h.out.hold ?_)
  go_ret
  exact ⟨by rw [← HD_size]; rfl, rfl⟩

set_option maxHeartbeats 400000 in
theorem busyLen_any (hb bb lb cb : Nat) (sv : Value) (pr : List (Int × Int × Nat)) (ks : List Int) (w : World) (h : Kept (CInv w hb bb lb cb sv pr ks)) :
    Calls Trym.prog 16 #[.pointer (some ⟨cb, 0, none⟩)] w fun e w' => e = .returned (.int .i64 (dist ks)) ∧ w = w' := by
  obtain ⟨_, _, _, c3, _⟩ := h.out.cells
  go_enter Trym.func16, Trym.ntmps16
  go_wp2_with (at_len; refine wpList_len_own _ rfl _ 36 rfl 3 3 Trym.underlying36 _ bb _ _ rfl h.out.busy ?_)
  go_ret
  exact ⟨by rw [← BD_size]; rfl, rfl⟩

theorem lit_inj {a b : Int} (h : (DataW.lit (.int .i64 a) : DataW Unit) = .lit (.int .i64 b)) : b = a := by
  injection h with h
  injection h with _ h
  exact h.symm

set_option maxHeartbeats 400000 in
theorem hold_any (hb bb lb cb : Nat) (sv : Value) (pr : List (Int × Int × Nat)) (ks : List Int) (x : Int) (w : World) (h : Kept (CInv w hb bb lb cb sv pr ks)) (hx : Kept ((Lit.int .i64 x).wf = true)) :
    Calls Trym.prog 13 #[.pointer (some ⟨cb, 0, none⟩), .int .i64 x] w fun e w' => e = .returned (.tuple #[.int .i64 (la (pr.map (·.1)) x), .bool ((pr.map (·.1)).contains x)]) ∧ w = w' := by
  obtain ⟨_, _, c2, _⟩ := h.out.cells
  go_enter Trym.func13, Trym.ntmps13
  go_wp2_with (at_lookup; refine wpList_lookup_own_ok_int _ rfl _ _ 36 rfl 3 3 .i64 law Trym.underlying36 Trym.underlying3 (zero3 _) hb _ _ rfl h.out.hold _ _ rfl (Maps.keyOf_int_mk Trym.underlying3 hx.out) ?_; intro c hat hwc)
  go_ret2
  rw [HD_at] at hat
  have hc := lit_inj hat
  subst hc
  exact ⟨by rw [← HD_has]; rfl, rfl⟩

set_option maxHeartbeats 400000 in
theorem busy_any (hb bb lb cb : Nat) (sv : Value) (pr : List (Int × Int × Nat)) (ks : List Int) (x : Int) (w : World) (h : Kept (CInv w hb bb lb cb sv pr ks)) (hx : Kept ((Lit.int .i64 x).wf = true)) :
    Calls Trym.prog 15 #[.pointer (some ⟨cb, 0, none⟩), .int .i64 x] w fun e w' => e = .returned (.tuple #[.int .i64 (ks.count x), .bool (ks.contains x)]) ∧ w = w' := by
  obtain ⟨_, _, _, c3, _⟩ := h.out.cells
  go_enter Trym.func15, Trym.ntmps15
  go_wp2_with (at_lookup; refine wpList_lookup_own_ok_int _ rfl _ _ 36 rfl 3 3 .i64 law Trym.underlying36 Trym.underlying3 (zero3 _) bb _ _ rfl h.out.busy _ _ rfl (Maps.keyOf_int_mk Trym.underlying3 hx.out) ?_; intro c hat hwc)
  go_ret2
  rw [BD_at] at hat
  have hc := lit_inj hat
  subst hc
  exact ⟨by rw [← BD_has]; rfl, rfl⟩

end Go.Proofs.Qxb6619182aMods
