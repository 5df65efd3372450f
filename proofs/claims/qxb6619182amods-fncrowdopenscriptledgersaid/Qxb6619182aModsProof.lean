import Derived.Test.Qxb6619182aModsMain
import Derived.Deep.Slices
import Derived.ProofKit
import Derived.OpenShut
import Derived.ShutString
import Derived.ChangeOld
import Derived.Below
namespace Go.Proofs.Qxb6619182aMods
open Go.ChangeShapes Go.WideShapes Go.ChangeAt Go.RowKit
set_option linter.unusedVariables false

theorem own : ownKnob Trym.prog.godebug = none := by kernel_rfl
theorem laidOut : laidOutB Trym.prog = true := by kernel_rfl
theorem Trym.cells3 : Trym.prog.cellsOf 3 = 1 := by kernel_rfl
theorem Trym.cells28 : Trym.prog.cellsOf 28 = 1 := by kernel_rfl

section
variable {H : Type} {enc : TypeId × Value → H} {P : Program} {w : World} {base : Nat} {spare : Nat → Bool} {held : Bool}

/-- a slice that came in, of elements of m cells: where it lies, and that each element reads -/
theorem slice_rows {t e : TypeId} {fuel : Nat} {ao : Option Addr} {len cap m : Nat} {x : DataW H × List MemPlace} (ht : P.underlying t = some (.slice e)) (hce : P.cellsOf e = m) (hm : 0 < m)
    (h : DataW.trod enc P w base spare held fuel t [.slice ao len cap] = some x) :
    len ≤ maxLen ∧ (0 < len → ∃ b off, ao = some ⟨b, off, none⟩ ∧ b < w.heap.size ∧ ∀ k, k < len → ∃ cs n y, w.rangeAt b (off + k * m) cs ∧ cs.length = m ∧ DataW.trod enc P w base spare held n e cs = some y) := by
  rcases Deep.open_slice ht h with ⟨hcs, _⟩ | ⟨a, len', cap', M, n, D, Pl, hcs, _, hl, hmx, hM, _, hel⟩
  · simp at hcs
    obtain ⟨_, rfl, _⟩ := hcs
    exact ⟨Nat.zero_le _, fun h => by omega⟩
  · simp at hcs
    obtain ⟨rfl, rfl, rfl⟩ := hcs
    have hlM : len ≤ M := by rw [hM]; split <;> omega
    refine ⟨by omega, fun hpos => ?_⟩
    obtain ⟨c0, h0, _⟩ := hel 0 (by omega)
    rw [hce] at h0
    obtain ⟨_, hc0, hcell0⟩ := World.cells?_some h0
    have hfirst := hcell0 0 hm
    have ha : (a.add (0 * m)).add 0 = a := by simp [Addr.add]
    rw [ha, List.getElem?_eq_getElem (by omega)] at hfirst
    obtain ⟨b, off, sp⟩ := a
    have hsp : sp = none := by
      cases sp with
      | none => rfl
      | some z =>
        unfold World.cell? at hfirst
        simp at hfirst
        split at hfirst <;> simp at hfirst
    subst hsp
    refine ⟨b, off, rfl, World.block_lt_of_cell? w _ hfirst, fun k hk => ?_⟩
    obtain ⟨cs, hc, htr⟩ := hel k (by omega)
    rw [hce] at hc
    obtain ⟨_, hcl, hcell⟩ := World.cells?_some hc
    refine ⟨cs, n, _, fun j v hv => ?_, hcl, htr⟩
    have hj : j < m := by have := (List.getElem?_eq_some_iff.1 hv).1; omega
    have := hcell j hj
    rw [Addr.add_mid, Addr.add_mid] at this
    rw [this, hv]

theorem float_cell {t : TypeId} {fuel : Nat} {cs : List Value} {k : FloatKind} {x : DataW H × List MemPlace} (ht : P.underlying t = some (.float k)) (h : DataW.trod enc P w base spare held fuel t cs = some x) : ∃ z, cs = [.float k z] := by
  cases fuel with
  | zero => simp [DataW.trod] at h
  | succ n =>
    unfold DataW.trod at h
    rw [ht] at h
    split at h <;> simp_all

/-- a list of what is there at each place -/
theorem list_of {α : Type} (d : α) : ∀ (n : Nat) (R : Nat → α → Prop), (∀ k, k < n → ∃ x, R k x) → ∃ xs : List α, xs.length = n ∧ ∀ k, k < n → R k (xs.getD k d)
  | 0, R, _ => ⟨[], rfl, fun k hk => by omega⟩
  | n + 1, R, h => by
    obtain ⟨xs, hl, hx⟩ := list_of d n R fun k hk => h k (by omega)
    obtain ⟨x, hr⟩ := h n (by omega)
    refine ⟨xs ++ [x], by simp [hl], fun k hk => ?_⟩
    by_cases hkn : k < n
    · have e : (xs ++ [x]).getD k d = xs.getD k d := by simp [List.getElem?_append_left (show k < xs.length by omega)]
      rw [e]
      exact hx k hkn
    · obtain rfl : k = n := by omega
      have e : (xs ++ [x]).getD k d = x := by subst hl; simp
      rw [e]
      exact hr
end

section
variable {H : Type} {enc : TypeId × Value → H} {w : World} {base : Nat} {spare : Nat → Bool} {held : Bool}

theorem rowI_in {fuel : Nat} {ao : Option Addr} {len cap : Nat} {x : DataW H × List MemPlace} (h : DataW.trod enc Trym.prog w base spare held fuel 22 [.slice ao len cap] = some x) :
    len ≤ maxLen ∧ ∃ xs : List Int, xs.length = len ∧ RowI w ao len xs ∧ ∀ j, j < len → (Lit.int .i64 (xs.getD j 0)).wf = true := by
  obtain ⟨hm, hr⟩ := slice_rows Trym.underlying22 Trym.cells3 (by omega) h
  refine ⟨hm, ?_⟩
  by_cases hpos : 0 < len
  · obtain ⟨b, off, e, hlt, hk⟩ := hr hpos
    obtain ⟨xs, hl, hx⟩ := list_of (0 : Int) len (fun k z => w.cell? ⟨b, off + k, none⟩ = some (.int .i64 z) ∧ (Lit.int .i64 z).wf = true) fun k hkl => by
      obtain ⟨cs, n, y, hrange, _, htr⟩ := hk k hkl
      obtain ⟨z, rfl, _, hw⟩ := DataW.trod_int Trym.underlying3 htr
      refine ⟨z, ?_, hw⟩
      have := hrange 0 _ rfl
      simpa using this
    exact ⟨xs, hl, fun _ => ⟨b, off, e, hlt, fun j hj => (hx j hj).1⟩, fun j hj => (hx j hj).2⟩
  · obtain rfl : len = 0 := by omega
    exact ⟨[], rfl, fun h => by omega, fun j hj => by omega⟩

theorem rowF_in {fuel : Nat} {ao : Option Addr} {len cap : Nat} {x : DataW H × List MemPlace} (h : DataW.trod enc Trym.prog w base spare held fuel 23 [.slice ao len cap] = some x) :
    len ≤ maxLen ∧ ∃ fs : List Nat, RowF w ao len fs := by
  obtain ⟨hm, hr⟩ := slice_rows Trym.underlying23 Trym.cells28 (by omega) h
  refine ⟨hm, ?_⟩
  by_cases hpos : 0 < len
  · obtain ⟨b, off, e, hlt, hk⟩ := hr hpos
    obtain ⟨xs, hl, hx⟩ := list_of (0 : Nat) len (fun k z => w.cell? ⟨b, off + k, none⟩ = some (.float .f64 z)) fun k hkl => by
      obtain ⟨cs, n, y, hrange, _, htr⟩ := hk k hkl
      obtain ⟨z, rfl⟩ := float_cell Trym.underlying28 htr
      refine ⟨z, ?_⟩
      have := hrange 0 _ rfl
      simpa using this
    exact ⟨xs, fun _ => ⟨b, off, e, hlt, fun j hj => hx j hj⟩⟩
  · exact ⟨[], fun h => by omega⟩
end

/-- THE CALL, whatever comes in -/
theorem main_any (a0 a1 a2 : Option Addr) (l0 l1 l2 p0 p1 p2 : Nat) (w : World) (m0 : l0 ≤ maxLen) (m1 : l1 ≤ maxLen) (m2 : l2 ≤ maxLen)
    (h0 : ∃ xs : List Int, xs.length = l0 ∧ RowI w a0 l0 xs ∧ ∀ j, j < l0 → (Lit.int .i64 (xs.getD j 0)).wf = true) (h1 : ∃ xs : List Int, xs.length = l1 ∧ RowI w a1 l1 xs ∧ ∀ j, j < l1 → (Lit.int .i64 (xs.getD j 0)).wf = true) (h2 : ∃ fs : List Nat, RowF w a2 l2 fs) :
    Calls Trym.prog 3 #[.slice a0 l0 p0, .slice a1 l1 p1, .slice a2 l2 p2] w fun e w' => e = .returned (.bool true) ∧ Below w.heap.size w w' := by
  obtain ⟨xs, hx, rx, fx⟩ := h0
  obtain ⟨ss, hs, rs, fs'⟩ := h1
  obtain ⟨fs, rf⟩ := h2
  by_cases hbig : 4096 < l0 ∨ 4096 < l1 ∨ 4096 < l2
  · exact main_big a0 a1 a2 l0 l1 l2 p0 p1 p2 w m0 m1 m2 hbig
  · exact main_small a0 a1 a2 l0 l1 l2 p0 p1 p2 (min (min l0 l1) l2) xs ss fs w ⟨rx, rs, rf, fx, fs', by omega, by omega, by omega, by omega, by omega, by omega, by omega, by omega⟩ rfl

set_option maxRecDepth 100000 in
theorem lifted (os : Os) (started : os.Started) (H : Type) (enc : TypeId × Value → H) :
    ReturnsInHanded {} Trym.checked os 3 .any (Rows.fnCrowdOpenScriptLedgerSpec.pre6 enc Trym.prog Trym.f3 Rows.fnCrowdOpenScriptLedgerRow.domain false) (Rows.fnCrowdOpenScriptLedgerSpec.post enc Trym.prog Trym.f3 false true false false) := by
  refine returnsInHanded_of_change (C := Trym.checked) own started (by kernel_rfl) Trym.func3
    (ChangeSpec.witness6 (enc := enc) (C := Trym.checked) false ⟨#[], #[.slice none 0 0, .slice none 0 0, .slice none 0 0], []⟩ 8 (by kernel_rfl) (by kernel_rfl) (by kernel_rfl) (by kernel_rfl)) ?_
  intro W base args ds gs before hval0 hW hcnd _
  have hval : ∀ (j : Nat) t v, Trym.f3.params[j]? = some t → args[j]? = some v → Value.okWide Trym.prog W .any base t v := hval0
  have hW' := hW
  obtain ⟨p, q, hA0, hV, rfl, hfz, hnd⟩ := hW
  have hA : DataW.TrodAll enc Trym.prog W 0 (fun _ => true) true Trym.f3.params.toList args.toList ds p := hA0
  rw [Trym.params3] at hA hval
  obtain ⟨v0, vs0, d0, ds0, p0, q0, hargs, rfl, rfl, h0, r0⟩ := trodAll_cons hA
  obtain ⟨v1, vs1, d1, ds1, p1, q1, rfl, rfl, rfl, h1, r1⟩ := trodAll_cons r0
  obtain ⟨v2, vs2, d2, ds2, p2, q2, rfl, rfl, rfl, h2, r2⟩ := trodAll_cons r1
  obtain ⟨rfl, rfl, rfl⟩ := trodAll_nil r2
  obtain rfl : args = #[v0, v1, v2] := by cases args; simp_all
  obtain ⟨rfl, rfl⟩ := trodVars_none hV
  obtain ⟨a0, len0, cap0, rfl⟩ := okWide_slice Trym.underlying22 (hval 0 22 v0 rfl rfl)
  obtain ⟨a1, len1, cap1, rfl⟩ := okWide_slice Trym.underlying22 (hval 1 22 v1 rfl rfl)
  obtain ⟨a2, len2, cap2, rfl⟩ := okWide_slice Trym.underlying23 (hval 2 23 v2 rfl rfl)
  have k0 := h0
  have k1 := h1
  have k2 := h2
  have lt0 : ∀ x ∈ p0, x.block < W.heap.size := by obtain ⟨m, hm⟩ := k0; exact DataW.trod_lt m _ _ _ hm
  have lt1 : ∀ x ∈ p1, x.block < W.heap.size := by obtain ⟨m, hm⟩ := k1; exact DataW.trod_lt m _ _ _ hm
  have lt2 : ∀ x ∈ p2, x.block < W.heap.size := by obtain ⟨m, hm⟩ := k2; exact DataW.trod_lt m _ _ _ hm
  obtain ⟨m0, hr0⟩ : len0 ≤ maxLen ∧ ∃ xs : List Int, xs.length = len0 ∧ RowI W a0 len0 xs ∧ ∀ j, j < len0 → (Lit.int .i64 (xs.getD j 0)).wf = true := by
    obtain ⟨fuel, hf⟩ := h0
    exact rowI_in (by simpa [Value.cells] using hf)
  obtain ⟨m1, hr1⟩ : len1 ≤ maxLen ∧ ∃ xs : List Int, xs.length = len1 ∧ RowI W a1 len1 xs ∧ ∀ j, j < len1 → (Lit.int .i64 (xs.getD j 0)).wf = true := by
    obtain ⟨fuel, hf⟩ := h1
    exact rowI_in (by simpa [Value.cells] using hf)
  obtain ⟨m2, hr2⟩ : len2 ≤ maxLen ∧ ∃ fs : List Nat, RowF W a2 len2 fs := by
    obtain ⟨fuel, hf⟩ := h2
    exact rowF_in (by simpa [Value.cells] using hf)
  clear hA0 hval0
  refine (main_any a0 a1 a2 len0 len1 len2 cap0 cap1 cap2 W m0 m1 m2 hr0 hr1 hr2).mono fun e W' ⟨he, bel⟩ => ?_
  subst he
  exact ⟨_, rfl, _, _, _, [], _, [], hW', trodAll_mk1 (shut_bool Trym.underlying4 _), (trodAll_cons_mk (Below.trod laidOut (by kernel_rfl) (of_decide_eq_true (by kernel_rfl)) k0 bel lt0) (trodAll_cons_mk (Below.trod laidOut (by kernel_rfl) (of_decide_eq_true (by kernel_rfl)) k1 bel lt1) (trodAll_cons_mk (Below.trod laidOut (by kernel_rfl) (of_decide_eq_true (by kernel_rfl)) k2 bel lt2) trodAll_mk0))), rfl, bel.frame _, fun h => by cases h⟩

theorem over : Rows.fnCrowdOpenScriptLedgerRow.holds Trym.pinned (OpenSpec.ofChange Rows.fnCrowdOpenScriptLedgerSpec) :=
  OpenClaim.holds_of_wide 3 Trym.f3 rfl rfl rfl rfl rfl rfl rfl ⟨rfl, rfl, rfl, rfl, rfl⟩ rfl rfl rfl rfl rfl (by kernel_rfl) Trym.func3 (by kernel_rfl)
    (of_decide_eq_true (by kernel_rfl)) (by unfold Func.isWrapper; first | (rw [if_pos (by decide +kernel)]; kernel_rfl) | (rw [if_neg (by decide +kernel)]; exact ⟨rfl, rfl⟩))
    (fun os started H enc _ => lifted os started H enc)

/-- THE STATEMENT -/
theorem open_script_ledger_proved : Rows.FnCrowdOpenScriptLedgerSaid :=
  over
#print axioms open_script_ledger_proved
end Go.Proofs.Qxb6619182aMods
