import Derived.Test.Qxb6614557aModsBuild
namespace Go.Proofs.Qxb6614557aMods
open Go.RowKit
set_option linter.unusedVariables false

set_option maxHeartbeats 400000 in
theorem bytes_yes (a0 a1 : Option Addr) (l0 l1 p0 p1 : Nat) (t o u : Int) (b : Bool) (r q : Int) (w : World) (h : l0 + l1 ≤ 1048576) :
    Calls Trym.prog 4 #[.slice a0 l0 p0, .slice a1 l1 p1, .int .i64 t, .int .i64 o, .int .i64 u, .bool b, .int .i64 r, .int .i64 q] w fun e w' => e = .returned (.bool true) ∧ w = w' := by
  go_enter Trym.func4, Trym.ntmps4
  go_wp2
  go_ret
  exact ⟨rfl, rfl⟩

set_option maxHeartbeats 400000 in
theorem bytes_no (a0 a1 : Option Addr) (l0 l1 p0 p1 : Nat) (t o u : Int) (b : Bool) (r q : Int) (w : World) (h : 1048576 < l0 + l1) (m0 : l0 ≤ maxLen) (m1 : l1 ≤ maxLen) :
    Calls Trym.prog 4 #[.slice a0 l0 p0, .slice a1 l1 p1, .int .i64 t, .int .i64 o, .int .i64 u, .bool b, .int .i64 r, .int .i64 q] w fun e w' => e = .returned (.bool false) ∧ w = w' := by
  unfold maxLen at m0 m1
  by_cases h0 : 1048576 < l0
  · go_enter Trym.func4, Trym.ntmps4
    go_wp2
    go_ret
    exact ⟨rfl, rfl⟩
  · by_cases h1 : 1048576 < l1
    · go_enter Trym.func4, Trym.ntmps4
      go_wp2
      go_ret
      exact ⟨rfl, rfl⟩
    · go_enter Trym.func4, Trym.ntmps4
      go_wp2
      go_ret
      exact ⟨rfl, rfl⟩

/-! the plain law -/
theorem ans_new {L : List Chg} {D : DataW Unit} {t u : Int} {b : Bool} {r q : Int} {u' : Int} {b' : Bool} {r' q' : Int} {ok : Bool} (h : Ans (L ++ [⟨5, t, u, b, r, q⟩]) D t u' b' r' q' ok) : u = u' ∧ b = b' ∧ r = r' ∧ q = q' ∧ true = ok := by
  unfold Ans at h
  have e : (L ++ [(⟨5, t, u, b, r, q⟩ : Chg)]).reverse.find? (hit t) = some ⟨5, t, u, b, r, q⟩ := by simp [hit]
  rw [e] at h
  obtain ⟨h1, h2, h3, h4, h5⟩ := h
  exact ⟨h1.symm, h2.symm, h3.symm, h4.symm, h5.symm⟩

theorem bal_inj {u u' : Int} {b b' : Bool} {r r' q q' : Int} (h : balData u b r q = balData u' b' r' q') : u = u' ∧ b = b' ∧ r = r' ∧ q = q' := by
  simpa [balData] using h

theorem ans_same {L : List Chg} {D : DataW Unit} {o t x : Int} {y : Bool} {z v : Int} {u u' : Int} {b b' : Bool} {r r' q q' : Int} {ok ok' : Bool} (hne : o ≠ t) (h : Ans L D o u b r q ok) (h' : Ans (L ++ [⟨5, t, x, y, z, v⟩]) D o u' b' r' q' ok') :
    u = u' ∧ b = b' ∧ r = r' ∧ q = q' ∧ ok = ok' := by
  unfold Ans at h h'
  have e : (L ++ [(⟨5, t, x, y, z, v⟩ : Chg)]).reverse.find? (hit o) = L.reverse.find? (hit o) := by
    simp [hit, Ne.symm hne]
  rw [e] at h'
  cases hf : L.reverse.find? (hit o) with
  | some c =>
    rw [hf] at h h'
    obtain ⟨rfl, rfl, rfl, rfl, rfl⟩ := h
    obtain ⟨h1, h2, h3, h4, h5⟩ := h'
    exact ⟨h1.symm, h2.symm, h3.symm, h4.symm, h5.symm⟩
  | none =>
    rw [hf] at h h'
    obtain ⟨h1, h2⟩ := h
    obtain ⟨h3, h4⟩ := h'
    obtain ⟨e1, e2, e3, e4⟩ := bal_inj (h3.symm.trans h1)
    exact ⟨e1.symm, e2.symm, e3.symm, e4.symm, (h4.trans h2.symm).symm⟩

/-! carrying what is known from world to world -/
theorem rowsC_later {w w' : World} {ao : Option Addr} {len : Nat} (h : RowsC w ao len) (hb : Below w.heap.size w w') : RowsC w' ao len := fun hl => by
  obtain ⟨b, off, e, hlt, hr⟩ := h hl
  refine ⟨b, off, e, Nat.lt_of_lt_of_le hlt hb.size, fun k hk => ?_⟩
  obtain ⟨kd, tk, u, c, r, q, hh⟩ := hr k hk
  exact ⟨kd, tk, u, c, r, q, range_below hh hb hlt⟩
theorem rowsK_later {w w' : World} {ao : Option Addr} {len : Nat} (h : RowsK w ao len) (hb : Below w.heap.size w w') : RowsK w' ao len := fun hl => by
  obtain ⟨b, off, e, hlt, hr⟩ := h hl
  refine ⟨b, off, e, Nat.lt_of_lt_of_le hlt hb.size, fun k hk => ?_⟩
  obtain ⟨tk, u, c, r, q, hw, hh⟩ := hr k hk
  exact ⟨tk, u, c, r, q, hw, range_below hh hb hlt⟩

theorem inv_below {w w' : World} {mb kb vb : Nat} {db : Bool} {sv : Value} {L : List Chg} {n : Nat} {D : DataW Unit} (h : Inv w mb kb vb db sv L n D) (hb : Below w.heap.size w w') : Inv w' mb kb vb db sv L n D := by
  have lv : vb < w.heap.size := (Array.getElem?_eq_some_iff.1 h.view).1
  have lk := h.lt2
  refine ⟨h.lt1, h.lt2, (hb.block vb lv).trans h.view, (hb.cell (p := ⟨kb, 10, none⟩) (by show kb < _; omega)).trans h.mem, own_below h.map hb h.map.lt, ?_⟩
  refine ⟨h.row.1, ?_⟩
  rcases h.row.2 with h0 | ⟨g, cap, cur, hv, hg, hh, rest⟩
  · exact .inl h0
  · exact .inr ⟨g, cap, cur, hv, hg, (hb.block g (Array.getElem?_eq_some_iff.1 hh).1).trans hh, rest⟩

/-- a box of balances -/
def Box (w : World) (X : Nat) (u : Int) (b : Bool) (r q : Int) : Prop := w.heap[X]? = some (.cells #[.int .i64 u, .bool b, .int .i64 r, .int .i64 q] 28 (0, 0))

theorem Box.cells {w : World} {X : Nat} {u : Int} {b : Bool} {r q : Int} (h : Box w X u b r q) : w.cell? ⟨X, 0, none⟩ = some (.int .i64 u) ∧ w.cell? ⟨X, 1, none⟩ = some (.bool b) ∧ w.cell? ⟨X, 2, none⟩ = some (.int .i64 r) ∧ w.cell? ⟨X, 3, none⟩ = some (.int .i64 q) ∧ X < w.heap.size := by
  refine ⟨?_, ?_, ?_, ?_, (Array.getElem?_eq_some_iff.1 h).1⟩ <;> (rw [cell_of_row _ _ _ _ _ _ h]; rfl)

theorem Box.below {w w' : World} {B X : Nat} {u : Int} {b : Bool} {r q : Int} (h : Box w X u b r q) (hb : Below B w w') (hX : X < B) : Box w' X u b r q := (hb.block X hX).trans h
theorem Box.turn {w w' : World} {X : Nat} {u : Int} {b : Bool} {r q : Int} {vb mb : Nat} {sv : Value} (h : Box w X u b r q) (ht : Turn vb mb sv w w') (h1 : X ≠ vb) (h2 : X ≠ mb) (h3 : some X ≠ sv.ownBlock) : Box w' X u b r q := (ht.block X (Array.getElem?_eq_some_iff.1 h).1 h1 h2 h3).trans h

set_option maxRecDepth 100000 in
theorem eq_same (u : Int) (b : Bool) (r q : Int) (w : World) : (Op.equalIn 10000 28 (.agg #[.int .i64 u, .bool b, .int .i64 r, .int .i64 q]) (.agg #[.int .i64 u, .bool b, .int .i64 r, .int .i64 q])).run Trym.prog w = .ok true w := by
  have hp : Trym.prog.stoodInHeld 28 = false := by kernel_rfl
  have h1 := run_equalIn_struct (P := Trym.prog) w 9999 28 #[.int .i64 u, .bool b, .int .i64 r, .int .i64 q] #[.int .i64 u, .bool b, .int .i64 r, .int .i64 q] (by kernel_rfl) hp
  rw [h1]
  go_simp

set_option maxRecDepth 100000 in
set_option maxHeartbeats 2000000 in
theorem main_walk (a0 a1 : Option Addr) (l0 l1 p0 p1 : Nat) (t o u : Int) (b : Bool) (r q : Int) (w : World) (h0 : l0 ≤ 8192) (h1 : l1 ≤ 8192) (hc : Kept (RowsC w a0 l0)) (hk : Kept (RowsK w a1 l1))
    (ht : Kept ((Lit.int .i64 t).wf = true)) (ho : Kept ((Lit.int .i64 o).wf = true)) :
    Calls Trym.prog 3 #[.slice a0 l0 p0, .slice a1 l1 p1, .int .i64 t, .int .i64 o, .int .i64 u, .bool b, .int .i64 r, .int .i64 q] w fun e w' => e = .returned (.bool true) ∧ Below w.heap.size w w' := by
  go_enter Trym.func3, Trym.ntmps3
  go_wp2_with (go_at_call 4; refine (bytes_yes _ _ _ _ _ _ _ _ _ _ _ _ _ (by omega)).mono ?_; rintro e w' ⟨rfl, rfl⟩)
  go_loop [17] (fun i => ∃ k : Nat, k ≤ l0 ∧ i = .int .i64 k) (fun i => l0 - (intOf i).toNat)
  case atStart => exact ⟨0, Nat.zero_le _, rfl⟩
  case round =>
    obtain ⟨k, hkl, rfl⟩ := hrel
    by_cases hlt : k < l0
    · obtain ⟨b0, off, hao, hbw, hrows⟩ := hc.out (by omega)
      have HA := Kept.mk hao
      obtain ⟨kd, tk, u', c', r', q', hr⟩ := hrows k hlt
      have hcell : w.cell? ⟨b0, off + k * 6, none⟩ = some (.int .i64 kd) := hr 0 _ rfl
      clear hao hrows hr
      by_cases hneg : kd < 0
      · go_wp2_with (refine wpList_index_at (by rfl) 22 _ _ rfl 26 6 Trym.underlying22 size26 _ _ _ k b0 off HA.out hlt (by rfl) (by rfl) ?_)
        go_ret
        exact ⟨rfl, Below.refl _ _⟩
      · by_cases h5 : 5 < kd
        · go_wp2_with (refine wpList_index_at (by rfl) 22 _ _ rfl 26 6 Trym.underlying22 size26 _ _ _ k b0 off HA.out hlt (by rfl) (by rfl) ?_)
          go_ret
          exact ⟨rfl, Below.refl _ _⟩
        · go_wp2_with (refine wpList_index_at (by rfl) 22 _ _ rfl 26 6 Trym.underlying22 size26 _ _ _ k b0 off HA.out hlt (by rfl) (by rfl) ?_)
          go_round
          case rel => exact ⟨k + 1, by omega, by go_num⟩
          case measure => (simp [intOf]; try omega)
    · go_wp2_with fail
      refine (bal_any u b r q _).mono ?_
      rintro e x1 ⟨rfl, rfl⟩
      go_wp2_with fail
      have hb0 : Below w.heap.size w ((w.alloc (.cells #[.int .i64 u, .bool b, .int .i64 r, .int .i64 q] 28)).alloc (.cells #[.int .i64 u, .bool b, .int .i64 r, .int .i64 q] 28)) := ((Below.refl _ _).alloc (Nat.le_refl _) _).alloc (by simp) _
      refine (build_any false a0 a1 l0 l1 p0 p1 _ h0 h1 ⟨rowsC_later hc.out hb0⟩ ⟨rowsK_later hk.out hb0⟩).mono ?_
      rintro e w1 ⟨mb, kb, vb, sv, L, n, D, rfl, hinv, hmb, hL, hb1⟩
      have bx1 : Box w1 (w.heap.size + 1) u b r q := (hb1.block _ (by simp)).trans (by have := heap_alloc_new (w.alloc (.cells #[.int .i64 u, .bool b, .int .i64 r, .int .i64 q] 28)) (.cells #[.int .i64 u, .bool b, .int .i64 r, .int .i64 q] 28); simpa using this)
      have HW1 : Kept (Below w.heap.size w w1) := ⟨hb0.trans (hb1.mono (by simp; omega))⟩
      have HI := Kept.mk hinv
      have HM : Kept (w.heap.size + 2 ≤ mb) := ⟨by simpa using hmb⟩
      have HL := Kept.mk hL
      have HX := Kept.mk bx1
      clear hb0 hinv hmb hL hb1 bx1
      go_wp2_with fail
      refine (zz_any mb kb vb false sv L n D o _ HI ⟨by have := HL.out; omega⟩ ho).mono ?_
      rintro e w2 ⟨⟨u2, b2, r2, q2, ok2, rfl, hans2⟩, hb2⟩
      have HA2 := Kept.mk (show Ans L D o u2 b2 r2 q2 ok2 from hans2)
      have HI2 := Kept.mk (inv_below HI.out hb2)
      have HX2 := Kept.mk (HX.out.below hb2 HX.out.cells.2.2.2.2)
      have HW2 : Kept (Below w.heap.size w w2) := ⟨HW1.out.trans (hb2.mono HW1.out.size)⟩
      clear hans2 hb2 HI HX HW1
      obtain ⟨x20, x21, x22, x23, x24⟩ := HX2.out.cells
      go_wp2_with fail
      refine (add_any mb kb vb false sv L n D 5 t u b r q _ ⟨inv_alloc HI2.out _⟩ ⟨by have := HL.out; omega⟩).mono ?_
      rintro e w3 ⟨rfl, sv3, hinv3, ht3⟩
      have hv2 : vb < w2.heap.size := (Array.getElem?_eq_some_iff.1 HI2.out.view).1
      have l1 := HI2.out.lt1
      have l2 := HI2.out.lt2
      have hm2 := HM.out
      have hfar : ∀ k, sv.ownBlock = some k → vb + 1 ≤ k ∧ k < w2.heap.size := fun k hk => row_far HI2.out.row hk
      have HX3 : Kept (Box w3 (w.heap.size + 1) u b r q) := ⟨Box.turn (w := w2.alloc _) ((Below.heap_alloc _ _ _ x24).trans HX2.out) ht3 (by omega) (by omega) (fun h => by have := hfar _ h.symm; omega)⟩
      have HY3 : Kept (Box w3 w2.heap.size u2 b2 r2 q2) := ⟨Box.turn (w := w2.alloc _) (heap_alloc_new _ _) ht3 (by omega) (by omega) (fun h => by have := hfar _ h.symm; omega)⟩
      have HW3 : Kept (Below w.heap.size w w3) := ⟨turn_below (HW2.out.alloc (by omega) _) ht3 (by omega) (by omega) (fun k hk => by have := hfar k hk; omega) (by simp; omega)⟩
      have HI3 := Kept.mk hinv3
      clear hinv3 ht3 hfar hv2 l1 l2 hm2 HI2 HX2 HW2 x20 x21 x22 x23 x24
      go_wp2_with fail
      refine (zz_any mb kb vb false sv3 _ n D t _ HI3 ⟨by have := HL.out; simp; omega⟩ ht).mono ?_
      rintro e w4 ⟨⟨u4, b4, r4, q4, ok4, he4, hans4⟩, hb4⟩
      obtain ⟨rfl, rfl, rfl, rfl, rfl⟩ := ans_new (show Ans _ D t u4 b4 r4 q4 ok4 from hans4)
      subst he4
      have HI4 := Kept.mk (inv_below HI3.out hb4)
      have HX4 := Kept.mk (HX3.out.below hb4 HX3.out.cells.2.2.2.2)
      have HY4 := Kept.mk (HY3.out.below hb4 HY3.out.cells.2.2.2.2)
      have HW4 : Kept (Below w.heap.size w w4) := ⟨HW3.out.trans (hb4.mono HW3.out.size)⟩
      clear hans4 hb4 HI3 HX3 HY3 HW3
      obtain ⟨x40, x41, x42, x43, x44⟩ := HX4.out.cells
      obtain ⟨y40, y41, y42, y43, y44⟩ := HY4.out.cells
      have heq := eq_same
      by_cases hot : o = t
      · have hot' : (o == t) = true := by simp [hot]
        clear hot
        go_wp2_with fail
        have HB : Below w.heap.size w (w4.alloc (.cells #[.int .i64 u, .bool b, .int .i64 r, .int .i64 q] 28)) := HW4.out.alloc HW4.out.size _
        refine (build_any true a0 a1 l0 l1 p0 p1 _ h0 h1 ⟨rowsC_later hc.out HB⟩ ⟨rowsK_later hk.out HB⟩).mono ?_
        rintro e w6 ⟨mb6, kb6, vb6, sv6, L6, n6, D6, rfl, hinv6, hmb6, hL6, hb6⟩
        have HI6 := Kept.mk hinv6
        have hlx := HX4.out.cells.2.2.2.2
        have HX6 : Kept (Box w6 (w.heap.size + 1) u b r q) := ⟨Box.below (w := w4.alloc _) ((Below.heap_alloc _ _ _ hlx).trans HX4.out) hb6 (by simp; omega)⟩
        have HW6 : Kept (Below w.heap.size w w6) := ⟨HB.trans (hb6.mono HB.size)⟩
        have HL6 := Kept.mk hL6
        have HM6 : Kept (w.heap.size ≤ mb6) := ⟨Nat.le_trans HB.size hmb6⟩
        clear hinv6 hmb6 hL6 hb6 HB hlx
        obtain ⟨z0, z1, z2, z3, z4⟩ := HX6.out.cells
        go_wp2_with fail
        refine (add_any mb6 kb6 vb6 true sv6 L6 n6 D6 5 t u b r q _ HI6 ⟨by have := HL6.out; omega⟩).mono ?_
        rintro e w7 ⟨rfl, sv7, hinv7, ht7⟩
        have HI7 := Kept.mk hinv7
        have HW7 : Kept (Below w.heap.size w w7) := by
          have l1 := HI6.out.lt1
          have l2 := HI6.out.lt2
          have l3 := HM6.out
          exact ⟨turn_below HW6.out ht7 (by omega) (by omega) (fun k hk => by have := row_far HI6.out.row hk; omega) HW6.out.size⟩
        clear hinv7 ht7
        go_wp2_with fail
        refine (zz_any mb6 kb6 vb6 true sv7 _ n6 D6 t _ HI7 ⟨by have := HL6.out; simp; omega⟩ ht).mono ?_
        rintro e w8 ⟨⟨u8, b8, r8, q8, ok8, he8, hs8⟩, hb8⟩
        obtain ⟨rfl, rfl, rfl, rfl, rfl⟩ := (show u8 = 0 ∧ b8 = false ∧ r8 = 0 ∧ q8 = 0 ∧ ok8 = false from hs8)
        subst he8
        have HW8 : Kept (Below w.heap.size w w8) := ⟨HW7.out.trans (hb8.mono HW7.out.size)⟩
        clear hs8 hb8
        go_wp2
        go_ret
        exact ⟨rfl, HW8.out.alloc HW8.out.size _⟩
      · have hot' : (o == t) = false := by simp [hot]
        have HO := Kept.mk hot
        clear hot
        go_wp2_with fail
        refine (zz_any mb kb vb false sv3 _ n D o _ ⟨inv_alloc HI4.out _⟩ ⟨by have := HL.out; simp; omega⟩ ho).mono ?_
        rintro e w5 ⟨⟨u5, b5, r5, q5, ok5, he5, hans5⟩, hb5⟩
        obtain ⟨rfl, rfl, rfl, rfl, rfl⟩ := ans_same HO.out HA2.out (show Ans _ D o u5 b5 r5 q5 ok5 from hans5)
        subst he5
        have HX5 : Kept (Box w5 (w.heap.size + 1) u b r q) := ⟨Box.below (w := w4.alloc _) ((Below.heap_alloc _ _ _ x44).trans HX4.out) hb5 (by simp; omega)⟩
        have HY5 : Kept (Box w5 w2.heap.size u2 b2 r2 q2) := ⟨Box.below (w := w4.alloc _) ((Below.heap_alloc _ _ _ y44).trans HY4.out) hb5 (by simp; omega)⟩
        have HW5 : Kept (Below w.heap.size w w5) := ⟨(HW4.out.alloc HW4.out.size _).trans (hb5.mono (Nat.le_trans HW4.out.size (by simp)))⟩
        clear hans5 hb5 HI4 HX4 HY4 HW4 x40 x41 x42 x43 x44 y40 y41 y42 y43 y44
        obtain ⟨x50, x51, x52, x53, x54⟩ := HX5.out.cells
        obtain ⟨y50, y51, y52, y53, y54⟩ := HY5.out.cells
        go_wp2_with fail
        have HB : Below w.heap.size w (w5.alloc (.cells #[.int .i64 u2, .bool b2, .int .i64 r2, .int .i64 q2] 28)) := HW5.out.alloc HW5.out.size _
        refine (build_any true a0 a1 l0 l1 p0 p1 _ h0 h1 ⟨rowsC_later hc.out HB⟩ ⟨rowsK_later hk.out HB⟩).mono ?_
        rintro e w6 ⟨mb6, kb6, vb6, sv6, L6, n6, D6, rfl, hinv6, hmb6, hL6, hb6⟩
        have HI6 := Kept.mk hinv6
        have hlx := HX5.out.cells.2.2.2.2
        have HX6 : Kept (Box w6 (w.heap.size + 1) u b r q) := ⟨Box.below (w := w5.alloc _) ((Below.heap_alloc _ _ _ hlx).trans HX5.out) hb6 (by simp; omega)⟩
        have HW6 : Kept (Below w.heap.size w w6) := ⟨HB.trans (hb6.mono HB.size)⟩
        have HL6 := Kept.mk hL6
        have HM6 : Kept (w.heap.size ≤ mb6) := ⟨Nat.le_trans HB.size hmb6⟩
        clear hinv6 hmb6 hL6 hb6 HB hlx
        obtain ⟨z0, z1, z2, z3, z4⟩ := HX6.out.cells
        go_wp2_with fail
        refine (add_any mb6 kb6 vb6 true sv6 L6 n6 D6 5 t u b r q _ HI6 ⟨by have := HL6.out; omega⟩).mono ?_
        rintro e w7 ⟨rfl, sv7, hinv7, ht7⟩
        have HI7 := Kept.mk hinv7
        have HW7 : Kept (Below w.heap.size w w7) := by
          have l1 := HI6.out.lt1
          have l2 := HI6.out.lt2
          have l3 := HM6.out
          exact ⟨turn_below HW6.out ht7 (by omega) (by omega) (fun k hk => by have := row_far HI6.out.row hk; omega) HW6.out.size⟩
        clear hinv7 ht7
        go_wp2_with fail
        refine (zz_any mb6 kb6 vb6 true sv7 _ n6 D6 t _ HI7 ⟨by have := HL6.out; simp; omega⟩ ht).mono ?_
        rintro e w8 ⟨⟨u8, b8, r8, q8, ok8, he8, hs8⟩, hb8⟩
        obtain ⟨rfl, rfl, rfl, rfl, rfl⟩ := (show u8 = 0 ∧ b8 = false ∧ r8 = 0 ∧ q8 = 0 ∧ ok8 = false from hs8)
        subst he8
        have HW8 : Kept (Below w.heap.size w w8) := ⟨HW7.out.trans (hb8.mono HW7.out.size)⟩
        clear hs8 hb8
        go_wp2
        go_ret
        exact ⟨rfl, HW8.out.alloc HW8.out.size _⟩

set_option maxHeartbeats 400000 in
theorem main_long (a0 a1 : Option Addr) (l0 l1 p0 p1 : Nat) (t o u : Int) (b : Bool) (r q : Int) (w : World) (h : 1048576 < l0 + l1) (m0 : l0 ≤ maxLen) (m1 : l1 ≤ maxLen) :
    Calls Trym.prog 3 #[.slice a0 l0 p0, .slice a1 l1 p1, .int .i64 t, .int .i64 o, .int .i64 u, .bool b, .int .i64 r, .int .i64 q] w fun e w' => e = .returned (.bool true) ∧ Below w.heap.size w w' := by
  go_enter Trym.func3, Trym.ntmps3
  go_wp2_with (go_at_call 4; refine (bytes_no _ _ _ _ _ _ _ _ _ _ _ _ _ h m0 m1).mono ?_; rintro e w' ⟨rfl, rfl⟩)
  go_ret
  exact ⟨rfl, Below.refl _ _⟩

set_option maxHeartbeats 400000 in
theorem main_mid0 (a0 a1 : Option Addr) (l0 l1 p0 p1 : Nat) (t o u : Int) (b : Bool) (r q : Int) (w : World) (h : l0 + l1 ≤ 1048576) (h0 : 8192 < l0) :
    Calls Trym.prog 3 #[.slice a0 l0 p0, .slice a1 l1 p1, .int .i64 t, .int .i64 o, .int .i64 u, .bool b, .int .i64 r, .int .i64 q] w fun e w' => e = .returned (.bool true) ∧ Below w.heap.size w w' := by
  go_enter Trym.func3, Trym.ntmps3
  go_wp2_with (go_at_call 4; refine (bytes_yes _ _ _ _ _ _ _ _ _ _ _ _ _ h).mono ?_; rintro e w' ⟨rfl, rfl⟩)
  go_ret
  exact ⟨rfl, Below.refl _ _⟩

set_option maxHeartbeats 400000 in
theorem main_mid1 (a0 a1 : Option Addr) (l0 l1 p0 p1 : Nat) (t o u : Int) (b : Bool) (r q : Int) (w : World) (h : l0 + l1 ≤ 1048576) (h0 : l0 ≤ 8192) (h1 : 8192 < l1) :
    Calls Trym.prog 3 #[.slice a0 l0 p0, .slice a1 l1 p1, .int .i64 t, .int .i64 o, .int .i64 u, .bool b, .int .i64 r, .int .i64 q] w fun e w' => e = .returned (.bool true) ∧ Below w.heap.size w w' := by
  go_enter Trym.func3, Trym.ntmps3
  go_wp2_with (go_at_call 4; refine (bytes_yes _ _ _ _ _ _ _ _ _ _ _ _ _ h).mono ?_; rintro e w' ⟨rfl, rfl⟩)
  go_ret
  exact ⟨rfl, Below.refl _ _⟩

/-- THE LAW, every input -/
theorem main_any (a0 a1 : Option Addr) (l0 l1 p0 p1 : Nat) (t o u : Int) (b : Bool) (r q : Int) (w : World) (m0 : l0 ≤ maxLen) (m1 : l1 ≤ maxLen) (hc : RowsC w a0 l0) (hk : RowsK w a1 l1)
    (ht : (Lit.int .i64 t).wf = true) (ho : (Lit.int .i64 o).wf = true) :
    Calls Trym.prog 3 #[.slice a0 l0 p0, .slice a1 l1 p1, .int .i64 t, .int .i64 o, .int .i64 u, .bool b, .int .i64 r, .int .i64 q] w fun e w' => e = .returned (.bool true) ∧ Below w.heap.size w w' := by
  by_cases h : 1048576 < l0 + l1
  · exact main_long a0 a1 l0 l1 p0 p1 t o u b r q w h m0 m1
  · by_cases h0 : 8192 < l0
    · exact main_mid0 a0 a1 l0 l1 p0 p1 t o u b r q w (by omega) h0
    · by_cases h1 : 8192 < l1
      · exact main_mid1 a0 a1 l0 l1 p0 p1 t o u b r q w (by omega) (by omega) h1
      · exact main_walk a0 a1 l0 l1 p0 p1 t o u b r q w (by omega) (by omega) ⟨hc⟩ ⟨hk⟩ ⟨ht⟩ ⟨ho⟩

end Go.Proofs.Qxb6614557aMods
