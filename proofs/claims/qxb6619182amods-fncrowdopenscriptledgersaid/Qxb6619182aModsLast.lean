import Derived.Test.Qxb6619182aModsEnv
namespace Go.Proofs.Qxb6619182aMods
open Go.RowKit
set_option linter.unusedVariables false

/-! THE LAST PLACE of a number among the first ones -/
theorem la_first {xs : List Int} {k : Nat} {x : Int} (hk : k < xs.length) (hx : Kept (x = xs.getD k 0)) : Kept (k = la (xs.take (k + 1)) x) :=
  ⟨by rw [take_snoc xs k hk, la_snoc, if_pos hx.out.symm, List.length_take]; omega⟩
theorem la_hit {xs : List Int} {j : Nat} {x y : Int} (hj : j < xs.length) (hy : Kept (y = xs.getD j 0)) (h : (y == x) = true) : Kept (j = la (xs.take (j + 1)) x) :=
  ⟨by rw [take_snoc xs j hj, la_snoc, ← hy.out, if_pos (beq_iff_eq.1 h), List.length_take]; omega⟩
theorem la_miss {xs : List Int} {j l : Nat} {x y : Int} (hj : j < xs.length) (hl : Kept (l = la (xs.take j) x)) (hy : Kept (y = xs.getD j 0)) (h : (y == x) = false) : Kept (l = la (xs.take (j + 1)) x) :=
  ⟨by rw [take_snoc xs j hj, la_snoc, ← hy.out, if_neg (beq_eq_false_iff_ne.1 h)]; exact hl.out⟩
theorem take_has {xs : List Int} {k n : Nat} {x : Int} (hk : k < n) (hn : n ≤ xs.length) (hx : Kept (x = xs.getD k 0)) : (xs.take n).contains x = true := occ_hit hk (by omega) hx.out.symm

/-! THE LIST OF KEYS in memory -/
def cells (xs : List Int) : List Value := xs.map (.int .i64)
theorem cells_snoc (xs : List Int) (x : Int) : cells (xs ++ [x]) = cells xs ++ [.int .i64 x] := by simp [cells]
theorem cells_KS0 {xs ss : List Int} {k : Nat} {x s : Int} (hx : Kept (x = xs.getD k 0)) (hs : Kept (s = ss.getD k 0)) (h : ¬ 0 ≤ s) : KS xs ss (k + 1) = KS xs ss k ++ [x] := by
  rw [KS_succ, ← hx.out, ← hs.out, if_neg h]
theorem cells_KS1 {xs ss : List Int} {k : Nat} {x s : Int} (hx : Kept (x = xs.getD k 0)) (hs : Kept (s = ss.getD k 0)) (h : 0 ≤ s) : KS xs ss (k + 1) = (KS xs ss k ++ [x]) ++ [s] := by
  rw [KS_succ, ← hx.out, ← hs.out, if_pos h, List.append_assoc]; rfl
theorem rowI_of {w : World} {base g m cap : Nat} {xs : List Int} (h : w.ownsRow base 3 1 (.slice (some ⟨g, 0, none⟩) m cap) m (cells xs)) : RowI w (some ⟨g, 0, none⟩) m xs := fun _ => by
  have hl : xs.length = m := by have := h.1; simpa [cells] using this
  refine ⟨g, 0, rfl, (h.lt g rfl).2, fun j hj => ?_⟩
  have := h.cells rfl j (.int .i64 (xs.getD j 0)) (by simp [cells, hl ▸ hj])
  rw [Addr.add_mid] at this
  exact this

theorem Trym.info3 : (Trym.prog.info? 3).map (fun i => (i.zero, i.size, i.bytes)) = some (some (.int .i64 0), 1, 8) := by kernel_rfl

theorem one_int (x : Int) : ∀ u ∈ [Value.int .i64 x], u.oneCell' = true := by
  intro u hu
  rw [List.mem_singleton] at hu
  rw [hu]
  rfl
/-- the keys' row grown by one -/
theorem keys_step {w wr w1 : World} {o : Obj} {g m cap g1 cap1 : Nat} {ks : List Int} {x : Int} (hb : Kept (Below w.heap.size w wr)) (ho : Kept (wr.ownsRow w.heap.size 3 1 (.slice (some ⟨g, 0, none⟩) m cap) m (cells ks)))
    (hg : (wr.alloc o).grownBy w1 (Value.ownBlock (.slice (some ⟨g, 0, none⟩) m cap))) (h1 : w1.ownsRow w.heap.size 3 1 (.slice (some ⟨g1, 0, none⟩) (m + 1) cap1) (m + 1) (cells ks ++ [.int .i64 x])) :
    Kept (Below w.heap.size w w1) ∧ Kept (w1.ownsRow w.heap.size 3 1 (.slice (some ⟨g1, 0, none⟩) (m + 1) cap1) (m + 1) (cells (ks ++ [x]))) := by
  refine ⟨⟨(hb.out.alloc hb.out.size o).grown hg (by have := hb.out.size; simp; omega) fun k hk => ?_⟩, ⟨by rw [cells_snoc]; exact h1⟩⟩
  exact (ho.out.lt k hk).1

end Go.Proofs.Qxb6619182aMods
