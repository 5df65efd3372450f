import Derived.Test.Qxb6614557aModsMain
import Derived.Deep.Slices
import Derived.ProofKit
import Derived.OpenShut
import Derived.ShutString
import Derived.ChangeOld
import Derived.Below
namespace Go.Proofs.Qxb6614557aMods
open Go.ChangeShapes Go.WideShapes Go.ChangeAt Go.RowKit
set_option linter.unusedVariables false

theorem own : ownKnob Trym.prog.godebug = none := by kernel_rfl
theorem laidOut : laidOutB Trym.prog = true := by kernel_rfl
theorem Trym.cells26 : Trym.prog.cellsOf 26 = 6 := by kernel_rfl
theorem Trym.cells37 : Trym.prog.cellsOf 37 = 5 := by kernel_rfl
theorem Trym.cells2 : Trym.prog.cellsOf 2 = 1 := by kernel_rfl
theorem Trym.cells3 : Trym.prog.cellsOf 3 = 1 := by kernel_rfl
theorem Trym.cells4 : Trym.prog.cellsOf 4 = 1 := by kernel_rfl

section
variable {H : Type} {enc : TypeId × Value → H} {P : Program} {w : World} {base : Nat} {spare : Nat → Bool} {held : Bool}

/-- a slice that came in, of elements of m cells: where it lies, and that each element reads -/
theorem slice_rows {t e : TypeId} {fuel : Nat} {ao : Option Addr} {len cap m : Nat} {x : DataW H × List MemPlace} (ht : P.underlying t = some (.slice e)) (hce : P.cellsOf e = m) (hm : 0 < m)
    (h : DataW.trod enc P w base spare held fuel t [.slice ao len cap] = some x) :
    len ≤ maxLen ∧ (0 < len → ∃ b off, ao = some ⟨b, off, none⟩ ∧ b < w.heap.size ∧ ∀ k, k < len → ∃ cs n y, w.rangeAt b (off + k * m) cs ∧ cs.length = m ∧ DataW.trod enc P w base spare held n e cs = some y) := by
  rcases Deep.open_slice ht h with ⟨hcs, _⟩ | ⟨a, len', cap', M, n, D, Pl, hcs, _, hl, hmx, hM, _, hel⟩
  · simp at hcs
    obtain ⟨_, rfl, _⟩ := hcs
    exact ⟨Nat.zero_le _, fun h => by omega⟩
  · simp at hcs
    obtain ⟨rfl, rfl, rfl⟩ := hcs
    have hlM : len ≤ M := by rw [hM]; split <;> omega
    refine ⟨by omega, fun hpos => ?_⟩
    obtain ⟨c0, h0, _⟩ := hel 0 (by omega)
    rw [hce] at h0
    obtain ⟨_, hc0, hcell0⟩ := World.cells?_some h0
    have hfirst := hcell0 0 hm
    have ha : (a.add (0 * m)).add 0 = a := by simp [Addr.add]
    rw [ha, List.getElem?_eq_getElem (by omega)] at hfirst
    obtain ⟨b, off, sp⟩ := a
    have hsp : sp = none := by
      cases sp with
      | none => rfl
      | some z =>
        unfold World.cell? at hfirst
        simp at hfirst
        split at hfirst <;> simp at hfirst
    subst hsp
    refine ⟨b, off, rfl, World.block_lt_of_cell? w _ hfirst, fun k hk => ?_⟩
    obtain ⟨cs, hc, htr⟩ := hel k (by omega)
    rw [hce] at hc
    obtain ⟨_, hcl, hcell⟩ := World.cells?_some hc
    refine ⟨cs, n, _, fun j v hv => ?_, hcl, htr⟩
    have hj : j < m := by have := (List.getElem?_eq_some_iff.1 hv).1; omega
    have := hcell j hj
    rw [Addr.add_mid, Addr.add_mid] at this
    rw [this, hv]

theorem int_at {t : TypeId} {n : Nat} {cs : List Value} {o c : Nat} {y : Option (DataW H × List MemPlace)} {k : IntKind} (ht : P.underlying t = some (.int k)) (hc : P.cellsOf t = 1) (h : DataW.trod enc P w base spare held n t ((cs.drop o).take (P.cellsOf t)) = y) (hy : y.isSome = true) :
    ∃ z, cs[o]? = some (.int k z) ∧ (Lit.int k z).wf = true := by
  obtain ⟨y', rfl⟩ := Option.isSome_iff_exists.1 hy
  obtain ⟨z, e, _, hw⟩ := DataW.trod_int ht h
  refine ⟨z, ?_, hw⟩
  rw [hc] at e
  have h2 := congrArg (fun l => l[0]?) e
  simpa [List.getElem?_take, List.getElem?_drop] using h2

theorem bool_at {t : TypeId} {n : Nat} {cs : List Value} {o c : Nat} {y : Option (DataW H × List MemPlace)} (ht : P.underlying t = some .bool) (hc : P.cellsOf t = 1) (h : DataW.trod enc P w base spare held n t ((cs.drop o).take (P.cellsOf t)) = y) (hy : y.isSome = true) :
    ∃ z, cs[o]? = some (.bool z) := by
  obtain ⟨y', rfl⟩ := Option.isSome_iff_exists.1 hy
  obtain ⟨z, e, _⟩ := DataW.trod_bool ht h
  refine ⟨z, ?_⟩
  rw [hc] at e
  have h2 := congrArg (fun l => l[0]?) e
  simpa [List.getElem?_take, List.getElem?_drop] using h2
end

section
variable {H : Type} {enc : TypeId × Value → H} {w : World} {base : Nat} {spare : Nat → Bool} {held : Bool}

theorem list6 {cs : List Value} {a b c d e f : Value} (hl : cs.length = 6) (h0 : cs[0]? = some a) (h1 : cs[1]? = some b) (h2 : cs[2]? = some c) (h3 : cs[3]? = some d) (h4 : cs[4]? = some e) (h5 : cs[5]? = some f) : cs = [a, b, c, d, e, f] := by
  match cs, hl with
  | [x0, x1, x2, x3, x4, x5], _ => simp at h0 h1 h2 h3 h4 h5; simp [h0, h1, h2, h3, h4, h5]
theorem list5 {cs : List Value} {a b c d e : Value} (hl : cs.length = 5) (h0 : cs[0]? = some a) (h1 : cs[1]? = some b) (h2 : cs[2]? = some c) (h3 : cs[3]? = some d) (h4 : cs[4]? = some e) : cs = [a, b, c, d, e] := by
  match cs, hl with
  | [x0, x1, x2, x3, x4], _ => simp at h0 h1 h2 h3 h4; simp [h0, h1, h2, h3, h4]

theorem some_at {α : Type} {xs : List α} {n i : Nat} (hl : xs.length = n) (hi : i < n) : xs[i]?.isSome = true := by simp [hl, hi]

theorem rowsC_of {fuel : Nat} {ao : Option Addr} {len cap : Nat} {x : DataW H × List MemPlace} (h : DataW.trod enc Trym.prog w base spare held fuel 22 [.slice ao len cap] = some x) : len ≤ maxLen ∧ RowsC w ao len := by
  obtain ⟨hm, hr⟩ := slice_rows Trym.underlying22 Trym.cells26 (by omega) h
  refine ⟨hm, fun hpos => ?_⟩
  obtain ⟨b, off, e, hlt, hk⟩ := hr hpos
  refine ⟨b, off, e, hlt, fun k hkl => ?_⟩
  obtain ⟨cs, n, y, hrange, hl, htr⟩ := hk k hkl
  obtain ⟨xs, m, _, _, _, hxl, hf⟩ := DataW.trod_struct Trym.underlying26 htr
  have hxl' : xs.length = 6 := hxl
  obtain ⟨z0, e0, _⟩ := int_at (c := 0) Trym.underlying3 Trym.cells3 (hf 0 _ rfl) (some_at hxl' (by omega))
  obtain ⟨z1, e1, _⟩ := int_at (c := 0) Trym.underlying2 Trym.cells2 (hf 1 _ rfl) (some_at hxl' (by omega))
  obtain ⟨z2, e2, _⟩ := int_at (c := 0) Trym.underlying2 Trym.cells2 (hf 2 _ rfl) (some_at hxl' (by omega))
  obtain ⟨z3, e3⟩ := bool_at (c := 0) Trym.underlying4 Trym.cells4 (hf 3 _ rfl) (some_at hxl' (by omega))
  obtain ⟨z4, e4, _⟩ := int_at (c := 0) Trym.underlying2 Trym.cells2 (hf 4 _ rfl) (some_at hxl' (by omega))
  obtain ⟨z5, e5, _⟩ := int_at (c := 0) Trym.underlying2 Trym.cells2 (hf 5 _ rfl) (some_at hxl' (by omega))
  refine ⟨z0, z1, z2, z3, z4, z5, ?_⟩
  rw [list6 hl e0 e1 e2 e3 e4 e5] at hrange
  exact hrange

theorem rowsK_of {fuel : Nat} {ao : Option Addr} {len cap : Nat} {x : DataW H × List MemPlace} (h : DataW.trod enc Trym.prog w base spare held fuel 23 [.slice ao len cap] = some x) : len ≤ maxLen ∧ RowsK w ao len := by
  obtain ⟨hm, hr⟩ := slice_rows Trym.underlying23 Trym.cells37 (by omega) h
  refine ⟨hm, fun hpos => ?_⟩
  obtain ⟨b, off, e, hlt, hk⟩ := hr hpos
  refine ⟨b, off, e, hlt, fun k hkl => ?_⟩
  obtain ⟨cs, n, y, hrange, hl, htr⟩ := hk k hkl
  obtain ⟨xs, m, _, _, _, hxl, hf⟩ := DataW.trod_struct Trym.underlying37 htr
  have hxl' : xs.length = 5 := hxl
  obtain ⟨z0, e0, w0⟩ := int_at (c := 0) Trym.underlying2 Trym.cells2 (hf 0 _ rfl) (some_at hxl' (by omega))
  obtain ⟨z1, e1, _⟩ := int_at (c := 0) Trym.underlying2 Trym.cells2 (hf 1 _ rfl) (some_at hxl' (by omega))
  obtain ⟨z2, e2⟩ := bool_at (c := 0) Trym.underlying4 Trym.cells4 (hf 2 _ rfl) (some_at hxl' (by omega))
  obtain ⟨z3, e3, _⟩ := int_at (c := 0) Trym.underlying2 Trym.cells2 (hf 3 _ rfl) (some_at hxl' (by omega))
  obtain ⟨z4, e4, _⟩ := int_at (c := 0) Trym.underlying2 Trym.cells2 (hf 4 _ rfl) (some_at hxl' (by omega))
  refine ⟨z0, z1, z2, z3, z4, w0, ?_⟩
  rw [list5 hl e0 e1 e2 e3 e4] at hrange
  exact hrange
end

set_option maxRecDepth 100000 in
theorem lifted (os : Os) (started : os.Started) (H : Type) (enc : TypeId × Value → H) :
    ReturnsInHanded {} Trym.checked os 3 .any (Rows.fnKeptBalancesNewReadShadowsSpec.pre6 enc Trym.prog Trym.f3 Rows.fnKeptBalancesNewReadShadowsRow.domain false) (Rows.fnKeptBalancesNewReadShadowsSpec.post enc Trym.prog Trym.f3 false true false false) := by
  refine returnsInHanded_of_change (C := Trym.checked) own started (by kernel_rfl) Trym.func3
    (ChangeSpec.witness6 (enc := enc) (C := Trym.checked) false ⟨#[], #[.slice none 0 0, .slice none 0 0, .int .i64 0, .int .i64 0, .int .i64 0, .bool false, .int .i64 0, .int .i64 0], []⟩ 8 (by kernel_rfl) (by kernel_rfl) (by kernel_rfl) (by kernel_rfl)) ?_
  intro W base args ds gs before hval0 hW hcnd _
  have hval : ∀ (j : Nat) t v, Trym.f3.params[j]? = some t → args[j]? = some v → Value.okWide Trym.prog W .any base t v := hval0
  have hW' := hW
  obtain ⟨p, q, hA0, hV, rfl, hfz, hnd⟩ := hW
  have hA : DataW.TrodAll enc Trym.prog W 0 (fun _ => true) true Trym.f3.params.toList args.toList ds p := hA0
  rw [Trym.params3] at hA hval
  obtain ⟨v0, vs0, d0, ds0, p0, q0, hargs, rfl, rfl, h0, r0⟩ := trodAll_cons hA
  obtain ⟨v1, vs1, d1, ds1, p1, q1, rfl, rfl, rfl, h1, r1⟩ := trodAll_cons r0
  obtain ⟨v2, vs2, d2, ds2, p2, q2, rfl, rfl, rfl, h2, r2⟩ := trodAll_cons r1
  obtain ⟨v3, vs3, d3, ds3, p3, q3, rfl, rfl, rfl, h3, r3⟩ := trodAll_cons r2
  obtain ⟨v4, vs4, d4, ds4, p4, q4, rfl, rfl, rfl, h4, r4⟩ := trodAll_cons r3
  obtain ⟨v5, vs5, d5, ds5, p5, q5, rfl, rfl, rfl, h5, r5⟩ := trodAll_cons r4
  obtain ⟨v6, vs6, d6, ds6, p6, q6, rfl, rfl, rfl, h6, r6⟩ := trodAll_cons r5
  obtain ⟨v7, vs7, d7, ds7, p7, q7, rfl, rfl, rfl, h7, r7⟩ := trodAll_cons r6
  obtain ⟨rfl, rfl, rfl⟩ := trodAll_nil r7
  obtain rfl : args = #[v0, v1, v2, v3, v4, v5, v6, v7] := by cases args; simp_all
  obtain ⟨rfl, rfl⟩ := trodVars_none hV
  obtain ⟨a0, len0, cap0, rfl⟩ := okWide_slice Trym.underlying22 (hval 0 22 v0 rfl rfl)
  obtain ⟨a1, len1, cap1, rfl⟩ := okWide_slice Trym.underlying23 (hval 1 23 v1 rfl rfl)
  have k0 := h0
  have k1 := h1
  have lt0 : ∀ x ∈ p0, x.block < W.heap.size := by obtain ⟨m, hm⟩ := k0; exact DataW.trod_lt m _ _ _ hm
  have lt1 : ∀ x ∈ p1, x.block < W.heap.size := by obtain ⟨m, hm⟩ := k1; exact DataW.trod_lt m _ _ _ hm
  obtain ⟨m0, hc⟩ : len0 ≤ maxLen ∧ RowsC W a0 len0 := by
    obtain ⟨fuel, hf⟩ := h0
    exact rowsC_of (by simpa [Value.cells] using hf)
  obtain ⟨m1, hk⟩ : len1 ≤ maxLen ∧ RowsK W a1 len1 := by
    obtain ⟨fuel, hf⟩ := h1
    exact rowsK_of (by simpa [Value.cells] using hf)
  obtain ⟨x2, rfl, rfl, rfl, w2⟩ := open_int Trym.underlying2 (hval 2 2 v2 rfl rfl) h2
  obtain ⟨x3, rfl, rfl, rfl, w3⟩ := open_int Trym.underlying2 (hval 3 2 v3 rfl rfl) h3
  obtain ⟨x4, rfl, rfl, rfl, w4⟩ := open_int Trym.underlying2 (hval 4 2 v4 rfl rfl) h4
  obtain ⟨x5, rfl, rfl, rfl⟩ := open_bool Trym.underlying4 (hval 5 4 v5 rfl rfl) h5
  obtain ⟨x6, rfl, rfl, rfl, w6⟩ := open_int Trym.underlying2 (hval 6 2 v6 rfl rfl) h6
  obtain ⟨x7, rfl, rfl, rfl, w7⟩ := open_int Trym.underlying2 (hval 7 2 v7 rfl rfl) h7
  clear hA0 hval0
  refine (main_any a0 a1 len0 len1 cap0 cap1 x2 x3 x4 x5 x6 x7 W m0 m1 hc hk w2 w3).mono fun e W' ⟨he, bel⟩ => ?_
  subst he
  exact ⟨_, rfl, _, _, _, [], _, [], hW', trodAll_mk1 (shut_bool Trym.underlying4 _), (trodAll_cons_mk (Below.trod laidOut (by kernel_rfl) (of_decide_eq_true (by kernel_rfl)) k0 bel lt0) (trodAll_cons_mk (Below.trod laidOut (by kernel_rfl) (of_decide_eq_true (by kernel_rfl)) k1 bel lt1) (trodAll_cons_mk (shut_int Trym.underlying2 w2) (trodAll_cons_mk (shut_int Trym.underlying2 w3) (trodAll_cons_mk (shut_int Trym.underlying2 w4) (trodAll_cons_mk (shut_bool Trym.underlying4 x5) (trodAll_cons_mk (shut_int Trym.underlying2 w6) (trodAll_cons_mk (shut_int Trym.underlying2 w7) trodAll_mk0)))))))), rfl, bel.frame _, fun h => by cases h⟩

theorem over : Rows.fnKeptBalancesNewReadShadowsRow.holds Trym.pinned (OpenSpec.ofChange Rows.fnKeptBalancesNewReadShadowsSpec) :=
  OpenClaim.holds_of_wide 3 Trym.f3 rfl rfl rfl rfl rfl rfl rfl ⟨rfl, rfl, rfl, rfl, rfl⟩ rfl rfl rfl rfl rfl (by kernel_rfl) Trym.func3 (by kernel_rfl)
    (of_decide_eq_true (by kernel_rfl)) (by unfold Func.isWrapper; first | (rw [if_pos (by decide +kernel)]; kernel_rfl) | (rw [if_neg (by decide +kernel)]; exact ⟨rfl, rfl⟩))
    (fun os started H enc _ => lifted os started H enc)

/-- THE STATEMENT -/
theorem new_read_shadows_proved : Rows.FnKeptBalancesNewReadShadowsSaid :=
  over
#print axioms new_read_shadows_proved
end Go.Proofs.Qxb6614557aMods
