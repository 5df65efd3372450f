import Derived.Test.Qxb6614557aModsRead
import Derived.Deep.RegionHeld3
namespace Go.Proofs.Qxb6614557aMods
open Go.RowKit
set_option linter.unusedVariables false

/-- an element's address, the slice's own address told by an equation -/
theorem wpList_index_at {P : Program} {w : World} {ops : Array Oper} {rest : List Oper} {o : Oper} {a : Act} {Q : Exit → Act → World → Prop} (hg : Region.wanted o (yielded ops a.tmps) = true) (t : TypeId) (x i : Operand) (ho : o.op = .indexAddr t x i)
    (e : TypeId) (size : Nat) (ht : P.underlying t = some (.slice e)) (hsz : ∀ w, (sizeOf e).run P w = .ok size w) (ao : Option Addr) (len cap k b off : Nat) (hao : ao = some ⟨b, off, none⟩) (hk : k < len)
    (hx : a.eval x = .slice ao len cap) (hi : a.eval i = .int .i64 (k : Int)) (h : wpList P ops Q rest (a.put o.dst (.pointer (some ⟨b, off + k * size, none⟩))) w) : wpList P ops Q (o :: rest) a w := by
  subst hao
  unfold wpList
  rw [if_pos hg]
  refine .inl ?_
  unfold Oper.wp execOp
  have h0 : (0 : Int) ≤ (k : Int) ∧ (k : Int) < (len : Int) := ⟨by omega, by omega⟩
  simp only [ho, hx, hi, Instr.indexAt, asIntOf, Sem.run_bind, Sem.run_pure, run_underlying ht, Result.andThen_ok, if_pos h0, hsz, Int.toNat_natCast, Addr.add_mid]
  exact h

theorem size37 (w : World) : (sizeOf 37).run Trym.prog w = .ok 5 w := by kernel_rfl
theorem size26 (w : World) : (sizeOf 26).run Trym.prog w = .ok 6 w := by kernel_rfl
theorem Trym.size37' : (Trym.prog.info? 37).map (·.size) = some 5 := by kernel_rfl
theorem Trym.size26' : (Trym.prog.info? 26).map (·.size) = some 6 := by kernel_rfl

/-- the two slices that came in -/
def RowsC (w : World) (ao : Option Addr) (len : Nat) : Prop :=
  0 < len → ∃ b off, ao = some ⟨b, off, none⟩ ∧ b < w.heap.size ∧ ∀ k, k < len → ∃ kd tk u c r q, w.rangeAt b (off + k * 6) [.int .i64 kd, .int .i64 tk, .int .i64 u, .bool c, .int .i64 r, .int .i64 q]
def RowsK (w : World) (ao : Option Addr) (len : Nat) : Prop :=
  0 < len → ∃ b off, ao = some ⟨b, off, none⟩ ∧ b < w.heap.size ∧ ∀ k, k < len → ∃ tk u c r q, (Lit.int .i64 tk).wf = true ∧ w.rangeAt b (off + k * 5) [.int .i64 tk, .int .i64 u, .bool c, .int .i64 r, .int .i64 q]

theorem inv_drew {w : World} {mb kb vb : Nat} {db : Bool} {sv : Value} {L : List Chg} {n : Nat} {D : DataW Unit} (h : Inv w mb kb vb db sv L n D) : Inv w.drew mb kb vb db sv L n D :=
  ⟨h.lt1, h.lt2, h.view, h.mem, h.map.drew, h.row.drew⟩

theorem turn_below {B : Nat} {w W w2 : World} {vb mb : Nat} {sv : Value} (hb : Below B w W) (ht : Turn vb mb sv W w2) (h1 : B ≤ vb) (h2 : B ≤ mb) (h3 : ∀ k, sv.ownBlock = some k → B ≤ k) (hB : B ≤ W.heap.size) : Below B w w2 :=
  hb.trans ⟨ht.os, ht.tape, ht.output, ht.size, fun k hk => ht.block k (by omega) (by omega) (by omega) (fun h => by have := h3 k h.symm; omega)⟩

/-- a box that lies beside the view stays as it was -/
theorem turn_cell {W w2 : World} {vb mb : Nat} {sv : Value} (ht : Turn vb mb sv W w2) {X j : Nat} {v : Value} (hX : W.cell? ⟨X, j, none⟩ = some v) (h1 : X ≠ vb) (h2 : X ≠ mb) (h3 : some X ≠ sv.ownBlock) : w2.cell? ⟨X, j, none⟩ = some v := by
  have hlt : X < W.heap.size := World.block_lt_of_cell? W _ hX
  rw [World.cell?_of_block (w := W) (ht.block X hlt h1 h2 h3)]
  exact hX

theorem box_turn {wr w2 : World} {cs : Array Value} {t : TypeId} {bl : Obj} {vb mb : Nat} {sv : Value} (ht : Turn vb mb sv ((wr.alloc (.cells cs t)).alloc bl).drew w2) (h1 : vb < wr.heap.size) (h2 : mb < wr.heap.size) (h3 : ∀ k, sv.ownBlock = some k → k < wr.heap.size) (j : Nat) :
    w2.cell? ⟨wr.heap.size, j, none⟩ = cs[j]? := by
  have hb : w2.heap[wr.heap.size]? = some (.cells cs t) := by
    rw [ht.block wr.heap.size (by simp; omega) (by omega) (by omega) (fun h => by have := h3 _ h.symm; omega)]
    show ((wr.alloc (.cells cs t)).alloc bl).heap[wr.heap.size]? = _
    rw [Below.heap_alloc _ _ _ (by simp)]
    exact heap_alloc_new _ _
  exact cell_of_row _ _ _ _ _ _ hb

set_option maxRecDepth 100000 in
set_option maxHeartbeats 2000000 in
theorem build_any (db : Bool) (a0 a1 : Option Addr) (l0 l1 p0 p1 : Nat) (w : World) (h0 : l0 ≤ 8192) (h1 : l1 ≤ 8192) (hc : Kept (RowsC w a0 l0)) (hk : Kept (RowsK w a1 l1)) :
    Calls Trym.prog 6 #[.bool db, .slice a0 l0 p0, .slice a1 l1 p1] w fun e w' =>
      ∃ mb kb vb sv L n D, e = .returned (.pointer (some ⟨vb, 0, none⟩)) ∧ Inv w' mb kb vb db sv L n D ∧ w.heap.size ≤ mb ∧ L.length ≤ 8192 ∧ Below w.heap.size w w' := by
  go_enter Trym.func6, Trym.ntmps6
  go_wp2_with (go_at_call 9; refine (new_any db _).mono ?_; rintro e w1 ⟨rfl, hi1, hb1, hz1⟩)
  have HI : Kept (∃ D, Inv w1 w.heap.size (w.heap.size + 1) (w.heap.size + 2) db (.slice none 0 0) [] 0 D) := ⟨_, hi1⟩
  have HB := Kept.mk hb1
  clear hi1 hb1 hz1
  go_loopw [8] (fun i wr => ∃ k : Nat, k ≤ l1 ∧ i = .int .i64 k ∧ Kept (∃ D, Inv wr w.heap.size (w.heap.size + 1) (w.heap.size + 2) db (.slice none 0 0) [] k D) ∧ Kept (Below w.heap.size w wr)) (fun i _ => l1 - (intOf i).toNat)
  case atStart => exact ⟨0, Nat.zero_le _, rfl, HI, HB⟩
  case round =>
    obtain ⟨k, hkl, rfl, hinv, hbel⟩ := hrel
    by_cases hlt : k < l1
    · obtain ⟨b, off, hao, hbw, hrows⟩ := hk.out (by omega)
      have HA := Kept.mk hao
      obtain ⟨tk, u, c, r, q, hwf, hr⟩ := hrows k hlt
      have hrange : wr.rangeAt b (off + k * 5) [.int .i64 tk, .int .i64 u, .bool c, .int .i64 r, .int .i64 q] := range_below hr hbel.out hbw
      obtain ⟨D, hinvD⟩ := hinv.out
      have HV := Kept.mk hinvD
      have hvb : w.heap.size + 2 < wr.heap.size := (Array.getElem?_eq_some_iff.1 hinvD.view).1
      clear hao hrows hr hinvD hinv
      go_wp2_with (first | (refine wpList_index_at (by rfl) 23 (.tmp 20) (.tmp 21) rfl 37 5 Trym.underlying23 size37 _ _ _ k b off HA.out hlt (by rfl) (by rfl) ?_) | (refine wpList_load_mid rfl 37 (.tmp 22) rfl b (off + k * 5) (by rfl) _ _ hrange Trym.underlying37 rfl (by exact Trym.size37') ?_))
      go_region_held3 (fun w' => w'.cell? ⟨wr.heap.size, 0, none⟩ = some (.int .i64 tk) ∧ w'.cell? ⟨wr.heap.size, 1, none⟩ = some (.int .i64 u) ∧ w'.cell? ⟨wr.heap.size, 2, none⟩ = some (.bool c) ∧ w'.cell? ⟨wr.heap.size, 3, none⟩ = some (.int .i64 r) ∧ w'.cell? ⟨wr.heap.size, 4, none⟩ = some (.int .i64 q))
        (first | go_keep | exact hbox)
        (first | (go_at_call 5; refine (bal_any u c r q _).mono ?_; rintro e w' ⟨rfl, rfl⟩) | (go_at_call 10; refine (keep_any w.heap.size (w.heap.size + 1) (w.heap.size + 2) db (.slice none 0 0) [] k D tk u c r q _ ⟨inv_drew (inv_alloc (inv_alloc HV.out _) _)⟩ (by unfold maxLen; omega) hwf).mono ?_; rintro e w2 ⟨rfl, hi2, ht2⟩; have hbox := And.intro (box_turn ht2 (by omega) (by omega) (by simp [Value.ownBlock]) 0) (And.intro (box_turn ht2 (by omega) (by omega) (by simp [Value.ownBlock]) 1) (And.intro (box_turn ht2 (by omega) (by omega) (by simp [Value.ownBlock]) 2) (And.intro (box_turn ht2 (by omega) (by omega) (by simp [Value.ownBlock]) 3) (box_turn ht2 (by omega) (by omega) (by simp [Value.ownBlock]) 4))))))
      have HN : Kept (∃ D, Inv w2 w.heap.size (w.heap.size + 1) (w.heap.size + 2) db (.slice none 0 0) [] (k + 1) D) := ⟨_, hi2⟩
      have HL : Kept (Below w.heap.size w w2) := ⟨turn_below (((hbel.out.alloc (by omega) _).alloc (by simp; omega) _).drew) ht2 (by omega) (by omega) (by simp [Value.ownBlock]) (by simp; omega)⟩
      clear hi2 ht2
      go_wp2
      go_roundw
      case rel => exact ⟨k + 1, by omega, by go_num, HN, HL⟩
      case measure => (simp [intOf]; try omega)
    · have HV : Kept (∃ sv L n D, L.length = 0 ∧ Inv wr w.heap.size (w.heap.size + 1) (w.heap.size + 2) db sv L n D) := by
        obtain ⟨D, h⟩ := hinv.out
        exact ⟨_, [], _, D, rfl, h⟩
      clear hinv
      go_wp2
      go_loopw [10] (fun i wr => ∃ k : Nat, k ≤ l0 ∧ i = .int .i64 k ∧ Kept (∃ sv L n D, L.length = k ∧ Inv wr w.heap.size (w.heap.size + 1) (w.heap.size + 2) db sv L n D) ∧ Kept (Below w.heap.size w wr)) (fun i _ => l0 - (intOf i).toNat)
      case atStart => exact ⟨0, Nat.zero_le _, rfl, HV, hbel⟩
      case round =>
        clear HV hbel
        obtain ⟨m, hml, rfl, hinv, hbel⟩ := hrel
        by_cases hmt : m < l0
        · obtain ⟨b, off, hao, hbw, hrows⟩ := hc.out (by omega)
          have HA := Kept.mk hao
          obtain ⟨kd, tk, u, c, r, q, hr⟩ := hrows m hmt
          have hrange : wr.rangeAt b (off + m * 6) [.int .i64 kd, .int .i64 tk, .int .i64 u, .bool c, .int .i64 r, .int .i64 q] := range_below hr hbel.out hbw
          obtain ⟨sv, L, n, D, hLl, hinvD⟩ := hinv.out
          have HV := Kept.mk hinvD
          have HLl := Kept.mk hLl
          have hvb : w.heap.size + 2 < wr.heap.size := (Array.getElem?_eq_some_iff.1 hinvD.view).1
          have hfar : ∀ k, sv.ownBlock = some k → w.heap.size ≤ k ∧ k < wr.heap.size := fun k hk => by have := row_far hinvD.row hk; omega
          have HF := Kept.mk hfar
          clear hao hrows hr hinvD hinv hLl hfar
          go_wp2_with (first | (refine wpList_index_at (by rfl) 22 (.tmp 43) (.tmp 44) rfl 26 6 Trym.underlying22 size26 _ _ _ m b off HA.out hmt (by rfl) (by rfl) ?_) | (refine wpList_load_mid rfl 26 (.tmp 45) rfl b (off + m * 6) (by rfl) _ _ hrange Trym.underlying26 rfl (by exact Trym.size26') ?_))
          go_region_held3 (fun w' => w'.cell? ⟨wr.heap.size, 0, none⟩ = some (.int .i64 kd) ∧ w'.cell? ⟨wr.heap.size, 1, none⟩ = some (.int .i64 tk) ∧ w'.cell? ⟨wr.heap.size, 2, none⟩ = some (.int .i64 u) ∧ w'.cell? ⟨wr.heap.size, 3, none⟩ = some (.bool c) ∧ w'.cell? ⟨wr.heap.size, 4, none⟩ = some (.int .i64 r) ∧ w'.cell? ⟨wr.heap.size, 5, none⟩ = some (.int .i64 q))
            (first | go_keep | exact hbox)
            (first | (go_at_call 5; refine (bal_any u c r q _).mono ?_; rintro e w' ⟨rfl, rfl⟩) | (go_at_call 8; refine (add_any w.heap.size (w.heap.size + 1) (w.heap.size + 2) db sv L n D kd tk u c r q _ ⟨inv_drew (inv_alloc (inv_alloc HV.out _) _)⟩ ⟨by have := HLl.out; omega⟩).mono ?_; rintro e w2 ⟨rfl, sv2, hi2, ht2⟩; have hbox := And.intro (box_turn ht2 (by omega) (by omega) (fun k hk => (HF.out k hk).2) 0) (And.intro (box_turn ht2 (by omega) (by omega) (fun k hk => (HF.out k hk).2) 1) (And.intro (box_turn ht2 (by omega) (by omega) (fun k hk => (HF.out k hk).2) 2) (And.intro (box_turn ht2 (by omega) (by omega) (fun k hk => (HF.out k hk).2) 3) (And.intro (box_turn ht2 (by omega) (by omega) (fun k hk => (HF.out k hk).2) 4) (box_turn ht2 (by omega) (by omega) (fun k hk => (HF.out k hk).2) 5)))))))
          have HN : Kept (∃ sv L n D, L.length = m + 1 ∧ Inv w2 w.heap.size (w.heap.size + 1) (w.heap.size + 2) db sv L n D) := ⟨sv2, _, n, D, by rw [List.length_append, HLl.out]; rfl, hi2⟩
          have HL : Kept (Below w.heap.size w w2) := ⟨turn_below (((hbel.out.alloc (by omega) _).alloc (by simp; omega) _).drew) ht2 (by omega) (by omega) (fun k hk => (HF.out k hk).1) (by simp; omega)⟩
          clear hi2 ht2
          go_wp2
          go_roundw
          case rel => exact ⟨m + 1, by omega, by go_num, HN, HL⟩
          case measure => (simp [intOf]; try omega)
        · go_wp2
          go_ret
          obtain ⟨sv, L, n, D, hLl, hinvD⟩ := hinv.out
          exact ⟨w.heap.size, w.heap.size + 1, w.heap.size + 2, sv, L, n, D, rfl, hinvD, Nat.le_refl _, by omega, hbel.out⟩
end Go.Proofs.Qxb6614557aMods
