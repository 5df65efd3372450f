import Derived.Test.Qxb6619182aModsLeaf
namespace Go.Proofs.Qxb6619182aMods
open Go.RowKit
set_option linter.unusedVariables false

theorem Trym.info43 : (Trym.prog.info? 43).map (fun i => (i.zero, i.size, i.bytes)) = some (some (.agg #[.int .i64 0, .int .i64 0, .float .f64 0, .int .i64 0]), 4, 32) := by kernel_rfl

theorem wf_nat (n : Nat) (h : n ≤ 100000) : (Lit.int .i64 (n : Int)).wf = true := WalkArith.wf_i64 (by omega)

theorem one_per (x s : Int) (f : Nat) : ∀ u ∈ [Value.int .i64 x, .int .i64 s, .float .f64 f, .int .i64 0], u.oneCell' = true := by
  intro u hu
  simp only [List.mem_cons, List.not_mem_nil, or_false] at hu
  rcases hu with rfl | rfl | rfl | rfl <;> rfl

theorem grown_below {B : Nat} {w w1 : World} {row : Option Nat} (hg : w.grownBy w1 row) (hr : ∀ k, row = some k → B ≤ k) (hB : B ≤ w.heap.size) : Below B w w1 := (Below.refl _ _).grown hg hB hr

/-- the crowd's cells behind the append -/
theorem blk_facts {w : World} {cb hb bb lb : Nat} {sv : Value} (h : w.heap[cb]? = some (.cells #[sv, .int .i64 0, .map (some hb), .map (some bb), .map (some lb)] 40 (0, 0))) :
    w.cell? ⟨cb, 0, none⟩ = some sv ∧ w.frozen? ⟨cb, 0, none⟩ = false ∧ w.cell? ⟨cb, 3, none⟩ = some (.map (some bb)) :=
  ⟨by rw [cell_of_row _ _ _ _ _ _ h]; rfl, by simp [World.frozen?, h], by rw [cell_of_row _ _ _ _ _ _ h]; rfl⟩

theorem per_snoc (pr : List (Int × Int × Nat)) (x s : Int) (f : Nat) : (pr ++ [(x, s, f)]).flatMap perCells = pr.flatMap perCells ++ [.int .i64 x, .int .i64 s, .float .f64 f, .int .i64 0] := by simp [perCells]

theorem below_store {w w1 w2 : World} {hb bb lb cb : Nat} {sv sv' : Value} {np : Nat} {cs : List Value} {nh : Nat} {dh : DataW Unit} {nb : Nat} {db : DataW Unit} {el : Obj} (h : CP w1 hb bb lb cb sv np cs nh dh nb db) (hb1 : Below hb w w1) (hg : (w1.alloc el).grownBy w2 sv.ownBlock) :
    Below hb w (w2.setCell ⟨cb, 0, none⟩ sv') := by
  have l1 := h.lt1
  have l2 := h.lt2
  have l3 := h.lt3
  have l4 := h.lt
  exact ((hb1.alloc (by omega) el).grown hg (by simp; omega) (fun k hk => by have := row_far h.row hk; omega)).setCell (p := ⟨cb, 0, none⟩) (by show hb ≤ cb; omega) _

set_option maxRecDepth 100000 in
set_option maxHeartbeats 1000000 in
theorem open_walk (hb bb lb cb : Nat) (sv : Value) (pr : List (Int × Int × Nat)) (ks : List Int) (x s : Int) (f : Nat) (w : World) (h : Kept (CInv w hb bb lb cb sv pr ks)) (hx : Kept ((Lit.int .i64 x).wf = true)) (hs : Kept ((Lit.int .i64 s).wf = true))
    (hp : pr.length ≤ 10000) (hk : ks.length ≤ 20000) (hpos : 0 ≤ s) :
    Calls Trym.prog 17 #[.pointer (some ⟨cb, 0, none⟩), .int .i64 x, .int .i64 s, .float .f64 f] w fun e w' => e = .returned (.tuple #[]) ∧
      (∃ sv', CInv w' hb bb lb cb sv' (pr ++ [(x, s, f)]) (ks ++ [x, s])) ∧ Below hb w w' := by
  obtain ⟨i0, hi, hz0, hz1, hz2⟩ := info_parts Trym.info43
  have HI : Kept (Trym.prog.info? 43 = some i0 ∧ i0.zero = some (.agg #[.int .i64 0, .int .i64 0, .float .f64 0, .int .i64 0]) ∧ i0.size = 4 ∧ i0.bytes = 32) := ⟨hi, hz0, hz1, hz2⟩
  clear hi hz0 hz1 hz2
  obtain ⟨ao, cap, hsv⟩ : ∃ ao cap, sv = .slice ao pr.length cap := by
    rcases h.out.row.2 with ⟨rfl, h0⟩ | ⟨g, cap, cur, rfl, _⟩
    · exact ⟨none, 0, by rw [h0]⟩
    · exact ⟨_, cap, rfl⟩
  subst hsv
  obtain ⟨c0, c1, c2, c3, c4⟩ := h.out.cells
  obtain ⟨w1, hrun, hown1, hturn1⟩ := World.ownsMap.store (w := w.drew) h.out.hold.drew law Trym.underlying36 (by unfold maxLen; omega) (Maps.keyOf_int_mk Trym.underlying3 hx.out) (plainElem_int Trym.underlying3 (wf_nat pr.length (by omega)))
  have hg1 : w.grownBy w1 (some hb) := by
    have := hturn1.grown
    exact ⟨this.os, this.tape, this.output, this.size, this.block⟩
  have H1 := Kept.mk (CP.held h.out hown1 hg1)
  have HB1 := Kept.mk (grown_below (B := hb) hg1 (by simp) (by have := h.out.lt; have := h.out.lt1; have := h.out.lt2; have := h.out.lt3; omega))
  obtain ⟨d0, d1, d2, d3, d4⟩ := H1.out.cells
  clear hown1 hturn1 hg1
  have hcx : ks.count x ≤ 20000 := Nat.le_trans List.count_le_length hk
  have hcs : (ks ++ [x]).count s ≤ 20001 := Nat.le_trans List.count_le_length (by simp; omega)
  go_enter Trym.func17, Trym.ntmps17
  go_wp2
  go_region_held3 (fun w' => w'.cell? ⟨cb, 0, none⟩ = some (.slice ao pr.length cap) ∧ w'.cell? ⟨cb, 2, none⟩ = some (.map (some hb))) (go_keep) (fail)
  go_wp2_with (first
    | (at_builtin; refine wpList_append_lies _ rfl (.tmp 22) (.tmp 27) 38 rfl (cb + 1) 43 i0 _ 4 32 Trym.underlying38 HI.out.1 HI.out.2.1 HI.out.2.2.1 HI.out.2.2.2 rfl (by omega) (.slice ao pr.length cap) pr.length _ rfl (H1.out.row.alloc _) ⟨w1.heap.size, 0, none⟩ 1 1 [.int .i64 x, .int .i64 s, .float .f64 f, .int .i64 0] rfl rfl (World.news_of_block (cs := #[.int .i64 x, .int .i64 s, .float .f64 f, .int .i64 0]) (t := 43) (fr := (0, 0)) (heap_alloc_new w1 _)) (one_per x s f) (by omega) (by unfold maxLen; omega) (by omega) (by have := H1.out.lt; simp; omega) _ rfl ?_; intro g cap2 w2 hown2 hgrow2 hat2 hlt2; have H3 := Kept.mk (CP.grown (CP.alloc H1.out _) hgrow2 hown2); obtain ⟨e0, e1, e3⟩ := blk_facts (CP.view (CP.alloc H1.out _) hgrow2); have HG2 := Kept.mk hgrow2; clear hown2 hgrow2 hat2 hlt2)
    | (at_lookup; refine wpList_lookup_own_int _ rfl (.tmp 34) (.tmp 35) 36 rfl 3 3 .i64 law Trym.underlying36 Trym.underlying3 (zero3 _) bb _ _ rfl H3.out.busy _ _ rfl (Maps.keyOf_int_mk Trym.underlying3 hx.out) ?_; intro c1 hat1 hwc1; rw [BD_at] at hat1; obtain rfl := lit_inj hat1; clear hat1 hwc1)
    | (at_mapUpdate; refine wpList_mapUpdate_own _ rfl (.tmp 34) (.tmp 35) (.tmp 37) 36 rfl 3 3 law Trym.underlying36 _ bb _ _ rfl H3.out.busy (by unfold maxLen; omega) _ _ _ rfl rfl (Maps.keyOf_int_mk Trym.underlying3 hx.out) _ [] (plainElem_int Trym.underlying3 (WalkArith.wf_i64 (by omega))) ?_; intro w4 hown4 hgrow4; rw [← BD_snoc] at hown4; have H4 := Kept.mk (CP.busied H3.out hown4 hgrow4); have HG4 := Kept.mk hgrow4; obtain ⟨f0, f1, f3⟩ := blk_facts H4.out.blk; clear hown4 hgrow4)
    | (at_lookup; refine wpList_lookup_own_int _ rfl (.tmp 43) (.tmp 44) 36 rfl 3 3 .i64 law Trym.underlying36 Trym.underlying3 (zero3 _) bb _ _ rfl H4.out.busy _ _ rfl (Maps.keyOf_int_mk Trym.underlying3 hs.out) ?_; intro c2 hat2 hwc2; rw [BD_at] at hat2; have HC2 := Kept.mk (lit_inj hat2); have hb20 : 0 ≤ c2 := by rw [HC2.out]; omega
       have hb21 : c2 ≤ 20001 := by rw [HC2.out]; omega
       clear hat2 hwc2)
    | (at_mapUpdate; refine wpList_mapUpdate_own _ rfl (.tmp 43) (.tmp 44) (.tmp 46) 36 rfl 3 3 law Trym.underlying36 _ bb _ _ rfl H4.out.busy (by unfold maxLen; omega) _ _ _ rfl rfl (Maps.keyOf_int_mk Trym.underlying3 hs.out) _ [] (plainElem_int Trym.underlying3 (WalkArith.wf_i64 (by omega))) ?_; intro w5 hown5 hgrow5; rw [HC2.out, ← BD_snoc] at hown5; have H5 := Kept.mk (CP.busied H4.out hown5 hgrow5); have HG5 := Kept.mk hgrow5; clear hown5 hgrow5))
  go_end0
  refine ⟨rfl, ⟨.slice (some ⟨g, 0, none⟩) (pr.length + 1) cap2, ?_⟩, ?_⟩
  · have e := H5.out
    unfold CInv
    rw [per_snoc, List.map_append, List.map_cons, List.map_nil, HD_snoc, List.length_append, List.length_append, List.length_map]
    rw [show ks ++ [x, s] = ks ++ [x] ++ [s] by simp]
    exact e
  · have b3 := below_store (sv' := .slice (some ⟨g, 0, none⟩) (pr.length + 1) cap2) H1.out HB1.out HG2.out
    have l1 := H4.out.lt1
    have l2 := H4.out.lt2
    have l3 := H4.out.lt3
    have z3 := H3.out.lt
    have z4 := H4.out.lt
    exact (b3.grown HG4.out (by omega) (by simp; omega)).grown HG5.out (by omega) (by simp; omega)

set_option maxRecDepth 100000 in
set_option maxHeartbeats 1000000 in
theorem open_neg (hb bb lb cb : Nat) (sv : Value) (pr : List (Int × Int × Nat)) (ks : List Int) (x s : Int) (f : Nat) (w : World) (h : Kept (CInv w hb bb lb cb sv pr ks)) (hx : Kept ((Lit.int .i64 x).wf = true)) (hs : Kept ((Lit.int .i64 s).wf = true))
    (hp : pr.length ≤ 10000) (hk : ks.length ≤ 20000) (hneg : s < 0) :
    Calls Trym.prog 17 #[.pointer (some ⟨cb, 0, none⟩), .int .i64 x, .int .i64 s, .float .f64 f] w fun e w' => e = .returned (.tuple #[]) ∧
      (∃ sv', CInv w' hb bb lb cb sv' (pr ++ [(x, s, f)]) (ks ++ [x])) ∧ Below hb w w' := by
  obtain ⟨i0, hi, hz0, hz1, hz2⟩ := info_parts Trym.info43
  have HI : Kept (Trym.prog.info? 43 = some i0 ∧ i0.zero = some (.agg #[.int .i64 0, .int .i64 0, .float .f64 0, .int .i64 0]) ∧ i0.size = 4 ∧ i0.bytes = 32) := ⟨hi, hz0, hz1, hz2⟩
  clear hi hz0 hz1 hz2
  obtain ⟨ao, cap, hsv⟩ : ∃ ao cap, sv = .slice ao pr.length cap := by
    rcases h.out.row.2 with ⟨rfl, h0⟩ | ⟨g, cap, cur, rfl, _⟩
    · exact ⟨none, 0, by rw [h0]⟩
    · exact ⟨_, cap, rfl⟩
  subst hsv
  obtain ⟨c0, c1, c2, c3, c4⟩ := h.out.cells
  obtain ⟨w1, hrun, hown1, hturn1⟩ := World.ownsMap.store (w := w.drew) h.out.hold.drew law Trym.underlying36 (by unfold maxLen; omega) (Maps.keyOf_int_mk Trym.underlying3 hx.out) (plainElem_int Trym.underlying3 (wf_nat pr.length (by omega)))
  have hg1 : w.grownBy w1 (some hb) := by
    have := hturn1.grown
    exact ⟨this.os, this.tape, this.output, this.size, this.block⟩
  have H1 := Kept.mk (CP.held h.out hown1 hg1)
  have HB1 := Kept.mk (grown_below (B := hb) hg1 (by simp) (by have := h.out.lt; have := h.out.lt1; have := h.out.lt2; have := h.out.lt3; omega))
  obtain ⟨d0, d1, d2, d3, d4⟩ := H1.out.cells
  clear hown1 hturn1 hg1
  have hcx : ks.count x ≤ 20000 := Nat.le_trans List.count_le_length hk
  go_enter Trym.func17, Trym.ntmps17
  go_wp2
  go_region_held3 (fun w' => w'.cell? ⟨cb, 0, none⟩ = some (.slice ao pr.length cap) ∧ w'.cell? ⟨cb, 2, none⟩ = some (.map (some hb))) (go_keep) (fail)
  go_wp2_with (first
    | (at_builtin; refine wpList_append_lies _ rfl (.tmp 22) (.tmp 27) 38 rfl (cb + 1) 43 i0 _ 4 32 Trym.underlying38 HI.out.1 HI.out.2.1 HI.out.2.2.1 HI.out.2.2.2 rfl (by omega) (.slice ao pr.length cap) pr.length _ rfl (H1.out.row.alloc _) ⟨w1.heap.size, 0, none⟩ 1 1 [.int .i64 x, .int .i64 s, .float .f64 f, .int .i64 0] rfl rfl (World.news_of_block (cs := #[.int .i64 x, .int .i64 s, .float .f64 f, .int .i64 0]) (t := 43) (fr := (0, 0)) (heap_alloc_new w1 _)) (one_per x s f) (by omega) (by unfold maxLen; omega) (by omega) (by have := H1.out.lt; simp; omega) _ rfl ?_; intro g cap2 w2 hown2 hgrow2 hat2 hlt2; have H3 := Kept.mk (CP.grown (CP.alloc H1.out _) hgrow2 hown2); obtain ⟨e0, e1, e3⟩ := blk_facts (CP.view (CP.alloc H1.out _) hgrow2); have HG2 := Kept.mk hgrow2; clear hown2 hgrow2 hat2 hlt2)
    | (at_lookup; refine wpList_lookup_own_int _ rfl (.tmp 34) (.tmp 35) 36 rfl 3 3 .i64 law Trym.underlying36 Trym.underlying3 (zero3 _) bb _ _ rfl H3.out.busy _ _ rfl (Maps.keyOf_int_mk Trym.underlying3 hx.out) ?_; intro c1 hat1 hwc1; rw [BD_at] at hat1; obtain rfl := lit_inj hat1; clear hat1 hwc1)
    | (at_mapUpdate; refine wpList_mapUpdate_own _ rfl (.tmp 34) (.tmp 35) (.tmp 37) 36 rfl 3 3 law Trym.underlying36 _ bb _ _ rfl H3.out.busy (by unfold maxLen; omega) _ _ _ rfl rfl (Maps.keyOf_int_mk Trym.underlying3 hx.out) _ [] (plainElem_int Trym.underlying3 (WalkArith.wf_i64 (by omega))) ?_; intro w4 hown4 hgrow4; rw [← BD_snoc] at hown4; have H4 := Kept.mk (CP.busied H3.out hown4 hgrow4); have HG4 := Kept.mk hgrow4; obtain ⟨f0, f1, f3⟩ := blk_facts H4.out.blk; clear hown4 hgrow4))
  go_end0
  refine ⟨rfl, ⟨.slice (some ⟨g, 0, none⟩) (pr.length + 1) cap2, ?_⟩, ?_⟩
  · have e := H4.out
    unfold CInv
    rw [per_snoc, List.map_append, List.map_cons, List.map_nil, HD_snoc, List.length_append, List.length_append, List.length_map]
    exact e
  · have b3 := below_store (sv' := .slice (some ⟨g, 0, none⟩) (pr.length + 1) cap2) H1.out HB1.out HG2.out
    have l1 := H4.out.lt1
    have l2 := H4.out.lt2
    have l3 := H4.out.lt3
    have z3 := H3.out.lt
    have z4 := H4.out.lt
    exact b3.grown HG4.out (by omega) (by simp; omega)


/-- the keys that one opening counts -/
def addKeys (ks : List Int) (x s : Int) : List Int := ks ++ (x :: if 0 ≤ s then [s] else [])
theorem addKeys_KS (xs ss : List Int) (k : Nat) : addKeys (KS xs ss k) (xs.getD k 0) (ss.getD k 0) = KS xs ss (k + 1) := rfl

/-- a period opened, whatever its server -/
theorem open_any (hb bb lb cb : Nat) (sv : Value) (pr : List (Int × Int × Nat)) (ks : List Int) (x s : Int) (f : Nat) (w : World) (h : CInv w hb bb lb cb sv pr ks) (hx : (Lit.int .i64 x).wf = true) (hs : (Lit.int .i64 s).wf = true)
    (hp : pr.length ≤ 10000) (hk : ks.length ≤ 20000) :
    Calls Trym.prog 17 #[.pointer (some ⟨cb, 0, none⟩), .int .i64 x, .int .i64 s, .float .f64 f] w fun e w' => e = .returned (.tuple #[]) ∧
      (∃ sv', CInv w' hb bb lb cb sv' (pr ++ [(x, s, f)]) (addKeys ks x s)) ∧ Below hb w w' := by
  unfold addKeys
  by_cases h0 : 0 ≤ s
  · rw [if_pos h0]
    exact open_walk hb bb lb cb sv pr ks x s f w ⟨h⟩ ⟨hx⟩ ⟨hs⟩ hp hk h0
  · rw [if_neg h0]
    exact open_neg hb bb lb cb sv pr ks x s f w ⟨h⟩ ⟨hx⟩ ⟨hs⟩ hp hk (by omega)

set_option maxHeartbeats 400000 in
theorem zzopen_any (hb bb lb cb : Nat) (sv : Value) (pr : List (Int × Int × Nat)) (ks : List Int) (x s : Int) (f : Nat) (w : World) (h : Kept (CInv w hb bb lb cb sv pr ks)) (hx : Kept ((Lit.int .i64 x).wf = true)) (hs : Kept ((Lit.int .i64 s).wf = true))
    (hp : Kept (pr.length ≤ 10000)) (hk : Kept (ks.length ≤ 20000)) :
    Calls Trym.prog 6 #[.pointer (some ⟨cb, 0, none⟩), .int .i64 x, .int .i64 s, .float .f64 f] w fun e w' => e = .returned (.tuple #[]) ∧
      (∃ sv', CInv w' hb bb lb cb sv' (pr ++ [(x, s, f)]) (addKeys ks x s)) ∧ Below hb w w' := by
  go_enter Trym.func6, Trym.ntmps6
  go_wp2_with fail
  refine (open_any hb bb lb cb sv pr ks x s f _ h.out hx.out hs.out hp.out hk.out).mono ?_
  rintro e w' ⟨rfl, hc, hb'⟩
  have H := Kept.mk hc
  have HB := Kept.mk hb'
  clear hc hb'
  go_wp2
  go_end0
  exact ⟨rfl, H.out, HB.out⟩

end Go.Proofs.Qxb6619182aMods
