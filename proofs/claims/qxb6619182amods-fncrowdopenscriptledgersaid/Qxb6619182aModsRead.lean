import Derived.Test.Qxb6619182aModsOpen
import Derived.Deep.WholeRow
namespace Go.Proofs.Qxb6619182aMods
open Go.RowKit
set_option linter.unusedVariables false

/-- an element's address, the slice's own address told by an equation -/
theorem wpList_index_at {P : Program} {w : World} {ops : Array Oper} {rest : List Oper} {o : Oper} {a : Act} {Q : Exit → Act → World → Prop} (hg : Region.wanted o (yielded ops a.tmps) = true) (t : TypeId) (x i : Operand) (ho : o.op = .indexAddr t x i)
    (e : TypeId) (ht : P.underlying t = some (.slice e)) (hsz : ∀ w, (sizeOf e).run P w = .ok 1 w) (ao : Option Addr) (len cap k b off : Nat) (hao : ao = some ⟨b, off, none⟩) (hk : k < len)
    (hx : a.eval x = .slice ao len cap) (hi : a.eval i = .int .i64 (k : Int)) (h : wpList P ops Q rest (a.put o.dst (.pointer (some ⟨b, off + k, none⟩))) w) : wpList P ops Q (o :: rest) a w := by
  subst hao
  unfold wpList
  rw [if_pos hg]
  refine .inl ?_
  unfold Oper.wp execOp
  have h0 : (0 : Int) ≤ (k : Int) ∧ (k : Int) < (len : Int) := ⟨by omega, by omega⟩
  simp only [ho, hx, hi, Instr.indexAt, asIntOf, Sem.run_bind, Sem.run_pure, run_underlying ht, Result.andThen_ok, if_pos h0, hsz, Int.toNat_natCast, Addr.add_mid, Nat.mul_one]
  exact h

/-- a whole struct laid into the block that was made last -/
theorem wpList_store_new {P : Program} {w : World} {ops : Array Oper} {rest : List Oper} {o : Oper} {a : Act} {Q : Exit → Act → World → Prop} (hg : o.guard = none) (ty : TypeId) (x y : Operand) (ho : o.op = .store ty x y)
    (c c' : Array Value) (hx : a.eval x = .pointer (some ⟨w.heap.size, 0, none⟩)) (hy : a.eval y = .agg c') (hi : (P.info? ty).map (·.size) = some c'.size) (hs : c.size = c'.size) (h1 : c'.all (·.oneCell') = true)
    (h : wpList P ops Q rest (a.put o.dst undef) (w.alloc (.cells c' ty))) : wpList P ops Q (o :: rest) a (w.alloc (.cells c ty)) := by
  refine wpList_plain hg fun K hK => ?_
  unfold Oper.wp execOp
  simp only [ho, hx, hy, Sem.run_bind, run_storeAt_new w ty c c' hi hs h1, Result.andThen_ok]
  exact hK _ _ h

theorem size3 (w : World) : (sizeOf 3).run Trym.prog w = .ok 1 w := by kernel_rfl
theorem size28 (w : World) : (sizeOf 28).run Trym.prog w = .ok 1 w := by kernel_rfl

/-- a slice of ints in memory: its first 'len' numbers are those of the list -/
def RowI (w : World) (ao : Option Addr) (len : Nat) (xs : List Int) : Prop :=
  0 < len → ∃ b off, ao = some ⟨b, off, none⟩ ∧ b < w.heap.size ∧ ∀ j, j < len → w.cell? ⟨b, off + j, none⟩ = some (.int .i64 (xs.getD j 0))
def RowF (w : World) (ao : Option Addr) (len : Nat) (fs : List Nat) : Prop :=
  0 < len → ∃ b off, ao = some ⟨b, off, none⟩ ∧ b < w.heap.size ∧ ∀ j, j < len → w.cell? ⟨b, off + j, none⟩ = some (.float .f64 (fs.getD j 0))

theorem RowI.below {w wr : World} {ao : Option Addr} {len : Nat} {xs : List Int} (h : RowI w ao len xs) (hb : Below w.heap.size w wr) : RowI wr ao len xs := fun hl => by
  obtain ⟨b, off, e, hlt, hc⟩ := h hl
  exact ⟨b, off, e, Nat.lt_of_lt_of_le hlt hb.size, fun j hj => (hb.cell (p := ⟨b, off + j, none⟩) hlt).trans (hc j hj)⟩
theorem RowF.below {w wr : World} {ao : Option Addr} {len : Nat} {fs : List Nat} (h : RowF w ao len fs) (hb : Below w.heap.size w wr) : RowF wr ao len fs := fun hl => by
  obtain ⟨b, off, e, hlt, hc⟩ := h hl
  exact ⟨b, off, e, Nat.lt_of_lt_of_le hlt hb.size, fun j hj => (hb.cell (p := ⟨b, off + j, none⟩) hlt).trans (hc j hj)⟩

/-- does v stand among the first i? -/
def occ (xs : List Int) (i : Nat) (v : Int) : Bool := (xs.take i).contains v

theorem occ_zero (xs : List Int) (v : Int) : occ xs 0 v = false := by simp [occ]
theorem occ_hit {xs : List Int} {i k : Nat} {v : Int} (hk : k < i) (hl : k < xs.length) (h : xs.getD k 0 = v) : occ xs i v = true := by
  subst h
  unfold occ
  rw [List.contains_iff_mem, List.mem_take_iff_getElem]
  exact ⟨k, by omega, by simp [hl]⟩
theorem occ_miss {xs : List Int} {k : Nat} {v : Int} (hl : k < xs.length) (h0 : occ xs k v = false) (h : xs.getD k 0 ≠ v) : occ xs (k + 1) v = false := by
  unfold occ at *
  rw [take_snoc xs k hl]
  rw [List.contains_eq_mem] at *
  simp only [List.mem_append, List.mem_singleton, decide_eq_false_iff_not] at *
  rintro (h1 | h1)
  · exact h0 h1
  · exact h h1.symm

set_option maxRecDepth 100000 in
set_option maxHeartbeats 400000 in
theorem occ_any (ao : Option Addr) (len cap i : Nat) (v : Int) (xs : List Int) (w : World) (hi : i ≤ len) (hl : len ≤ 100000) (hx : len ≤ xs.length) (hr : Kept (RowI w ao len xs)) :
    Calls Trym.prog 12 #[.slice ao len cap, .int .i64 i, .int .i64 v] w fun e w' => e = .returned (.bool (occ xs i v)) ∧ w = w' := by
  go_enter Trym.func12, Trym.ntmps12
  go_wp2
  go_loop [7] (fun j => ∃ k : Nat, k ≤ i ∧ j = .int .i64 k ∧ Kept (occ xs k v = false)) (fun j => i - (intOf j).toNat)
  case atStart => exact ⟨0, Nat.zero_le _, rfl, ⟨occ_zero xs v⟩⟩
  case round =>
    obtain ⟨k, hk, rfl, hocc⟩ := hrel
    by_cases hlt : k < i
    · obtain ⟨b, off, hao, hbw, hc⟩ := hr.out (by omega)
      have HA := Kept.mk hao
      have hkl : k < len := by omega
      have hcell := hc k hkl
      clear hao hc
      by_cases hv : xs.getD k 0 = v
      · have hv' : (xs.getD k 0 == v) = true := beq_iff_eq.2 hv
        have HV := Kept.mk hv
        clear hv
        obtain ⟨z, hz⟩ : ∃ z, z = xs.getD k 0 := ⟨_, rfl⟩
        rw [← hz] at hcell hv'
        have HZ := Kept.mk hz
        clear hz
        go_wp2_with (refine wpList_index_at (by rfl) 22 _ _ rfl 3 Trym.underlying22 size3 _ _ _ k b off HA.out hkl (by rfl) (by rfl) ?_)
        go_ret
        exact ⟨by rw [occ_hit hlt (by omega) HV.out]; rfl, rfl⟩
      · have hv' : (xs.getD k 0 == v) = false := by rw [beq_eq_false_iff_ne]; exact hv
        have HV := Kept.mk hv
        clear hv
        obtain ⟨z, hz⟩ : ∃ z, z = xs.getD k 0 := ⟨_, rfl⟩
        rw [← hz] at hcell hv'
        have HZ := Kept.mk hz
        clear hz
        go_wp2_with (refine wpList_index_at (by rfl) 22 _ _ rfl 3 Trym.underlying22 size3 _ _ _ k b off HA.out hkl (by rfl) (by rfl) ?_)
        go_round
        case rel => exact ⟨k + 1, by omega, by go_num, ⟨occ_miss (by omega) hocc.out HV.out⟩⟩
        case measure => (simp [intOf]; try omega)
    · obtain rfl : k = i := by omega
      go_wp2
      go_ret
      exact ⟨by rw [hocc.out]; rfl, rfl⟩

/-- a period's cells in the row -/
theorem flat_at : ∀ (pr : List (Int × Int × Nat)) (m : Nat) (p : Int × Int × Nat) (j : Nat), pr[m]? = some p → j < 4 → (pr.flatMap perCells)[m * 4 + j]? = (perCells p)[j]?
  | [], m, c, j, h, _ => by simp at h
  | x :: pr, 0, c, j, h, hj => by
    simp at h
    subst h
    have hl : (perCells x).length = 4 := rfl
    simp only [List.flatMap_cons, Nat.zero_mul, Nat.zero_add]
    rw [List.getElem?_append_left (by omega)]
  | x :: pr, m + 1, c, j, h, hj => by
    have hl : (perCells x).length = 4 := rfl
    have ih := flat_at pr m c j (by simpa using h) hj
    simp only [List.flatMap_cons]
    rw [List.getElem?_append_right (by omega), hl, show (m + 1) * 4 + j - 4 = m * 4 + j by omega]
    exact ih

theorem row_cells {w : World} {base g cap : Nat} {pr : List (Int × Int × Nat)} (h : w.ownsRow base 43 4 (.slice (some ⟨g, 0, none⟩) pr.length cap) pr.length (pr.flatMap perCells)) {m : Nat} {p : Int × Int × Nat} (hp : pr[m]? = some p) :
    w.rangeAt g (m * 4) (perCells p) := by
  intro j v hv
  have hj : j < 4 := (List.getElem?_eq_some_iff.1 hv).1
  have hm : m < pr.length := (List.getElem?_eq_some_iff.1 hp).1
  rcases h.2 with ⟨h1, _⟩ | ⟨g', cap', cur, h1, _, hg, _, _, _, ht⟩
  · simp at h1
  · simp at h1
    obtain ⟨rfl, rfl⟩ := h1
    rw [cell_of_row _ _ _ _ _ _ hg]
    have e := flat_at pr m p j hp hj
    rw [hv, ← ht, List.getElem?_take_of_lt (by omega)] at e
    simpa using e

theorem all_per (x s : Int) (f : Nat) : (#[Value.int .i64 x, .int .i64 s, .float .f64 f, .int .i64 0] : Array Value).all (·.oneCell') = true := by simp [Value.oneCell']

theorem Trym.size43 : (Trym.prog.info? 43).map (·.size) = some 4 := by kernel_rfl

set_option maxRecDepth 100000 in
set_option maxHeartbeats 1000000 in
theorem period_any (hb bb lb cb : Nat) (sv : Value) (pr : List (Int × Int × Nat)) (ks : List Int) (k : Nat) (x s : Int) (f : Nat) (w : World) (h : Kept (CInv w hb bb lb cb sv pr ks)) (hp : pr.length ≤ 10000) (hk : k < pr.length) (hkp : Kept (pr[k]? = some (x, s, f))) :
    Calls Trym.prog 8 #[.pointer (some ⟨cb, 0, none⟩), .int .i64 k] w fun e w' => e = .returned (.tuple #[.int .i64 x, .int .i64 s, .float .f64 f, .int .i64 0]) ∧ Below w.heap.size w w' := by
  obtain ⟨g, cap, hsv⟩ : ∃ g cap, sv = .slice (some ⟨g, 0, none⟩) pr.length cap := by
    rcases h.out.row.2 with ⟨rfl, h0⟩ | ⟨g, cap, cur, rfl, _⟩
    · omega
    · exact ⟨g, cap, rfl⟩
  subst hsv
  obtain ⟨c0, c1, c2, c3, c4⟩ := h.out.cells
  have hrange : w.rangeAt g (k * 4) [.int .i64 x, .int .i64 s, .float .f64 f, .int .i64 0] := row_cells h.out.row hkp.out
  have hk1 : (k : Int) < (pr.length : Int) := by omega
  go_enter Trym.func8, Trym.ntmps8
  go_wp2_with (first | (refine wpList_load_mid rfl 43 (.tmp 14) rfl g (k * 4) (by rfl) _ _ hrange Trym.underlying43 rfl (by exact Trym.size43) ?_) | (refine wpList_store_new rfl 43 (.tmp 8) (.tmp 15) rfl _ #[.int .i64 x, .int .i64 s, .float .f64 f, .int .i64 0] (by rfl) (by rfl) (by exact Trym.size43) (by rfl) (all_per x s f) ?_))
  go_region_held3 (fun w' => w'.cell? ⟨w.heap.size, 0, none⟩ = some (.int .i64 x) ∧ w'.cell? ⟨w.heap.size, 1, none⟩ = some (.int .i64 s) ∧ w'.cell? ⟨w.heap.size, 2, none⟩ = some (.float .f64 f) ∧ w'.cell? ⟨w.heap.size, 3, none⟩ = some (.int .i64 0)) (go_keep) (fail)
  go_wp2
  exact bodyPost_ret (v := .tuple #[.int .i64 x, .int .i64 s, .float .f64 f, .int .i64 0]) (by simp [results, Trym.results8, go_sem]) rfl ⟨rfl, ((Below.refl _ _).alloc (Nat.le_refl _) _).drew⟩

end Go.Proofs.Qxb6619182aMods
