import Derived.Test.Qxb6605842aModsMain
import Derived.ProofKit
import Derived.OpenShut
import Derived.ShutString
import Derived.ChangeOld
import Derived.Below
namespace Go.Proofs.Qxb6605842aMods
open Go.ChangeShapes Go.WideShapes Go.ChangeAt Go.RowKit
open Go.ChangeMaps (open_string shut_string)
set_option linter.unusedVariables false

theorem own : ownKnob Trym.prog.godebug = none := by kernel_rfl
theorem laidOut : laidOutB Trym.prog = true := by kernel_rfl
theorem Trym.cells5 : Trym.prog.cellsOf 5 = 1 := by kernel_rfl

theorem okWide_array {P : Program} {w : World} {r : Reach} {base : Nat} {t : TypeId} {v : Value} {n : Nat} {e : TypeId} (ht : P.underlying t = some (.array n e)) (h : Value.okWide P w r base t v) : ∃ cs, v = .agg cs ∧ cs.size = P.cellsOf t := by
  simp only [Value.okWide, ht] at h
  obtain ⟨cs, h1, h2, _⟩ := h
  exact ⟨cs, h1, h2⟩

def numOf : Option Value → Int
  | some (.int _ n) => n
  | _ => 0

/-- the digest that came in: 64 numbers -/
theorem digest_of {H : Type} {enc : TypeId × Value → H} {w : World} {base : Nat} {spare : Nat → Bool} {held : Bool} {fuel : Nat} {cs : Array Value} {x : DataW H × List MemPlace}
    (h : DataW.trod enc Trym.prog w base spare held fuel 28 cs.toList = some x) : ∃ xs : List Int, xs.length = 64 ∧ ∀ i, i < 64 → cs[i]? = some (.int .u8 (xs.getD i 0)) := by
  obtain ⟨ys, m, rfl, _, _, hl, hel⟩ := DataW.trod_array Trym.underlying28 h
  have key : ∀ i, i < 64 → ∃ n : Int, cs[i]? = some (.int .u8 n) := by
    intro i hi
    have h1 := hel i hi
    rw [List.getElem?_eq_getElem (by omega)] at h1
    obtain ⟨n, e, _, _⟩ := DataW.trod_int Trym.underlying5 h1
    refine ⟨n, ?_⟩
    rw [Trym.cells5, Nat.mul_one] at e
    have h2 := congrArg (fun l => l[0]?) e
    simpa [List.getElem?_take, List.getElem?_drop] using h2
  refine ⟨(List.range 64).map fun i => numOf cs[i]?, by simp, fun i hi => ?_⟩
  obtain ⟨n, hn⟩ := key i hi
  have : ((List.range 64).map fun i => numOf cs[i]?).getD i 0 = n := by
    rw [List.getD_eq_getElem?_getD, List.getElem?_map, List.getElem?_range hi]
    simp [hn, numOf]
  rw [this, hn]

set_option maxRecDepth 100000 in
theorem lifted (os : Os) (started : os.Started) (H : Type) (enc : TypeId × Value → H) :
    ReturnsInHanded {} Trym.checked os 5 .any (Rows.fnShownStripsTheDigestSpec.pre6 enc Trym.prog Trym.f5 Rows.fnShownStripsTheDigestRow.domain false) (Rows.fnShownStripsTheDigestSpec.post enc Trym.prog Trym.f5 false true false false) := by
  refine returnsInHanded_of_change (C := Trym.checked) own started (by kernel_rfl) Trym.func5
    (ChangeSpec.witness6 (enc := enc) (C := Trym.checked) false ⟨#[], #[.string ⟨#[]⟩, .agg (Array.replicate 64 (.int .u8 0)), .bool false], []⟩ 8 (by kernel_rfl) (by kernel_rfl) (by kernel_rfl) (by kernel_rfl)) ?_
  intro W base args ds gs before hval0 hW hcnd _
  have hval : ∀ (j : Nat) t v, Trym.f5.params[j]? = some t → args[j]? = some v → Value.okWide Trym.prog W .any base t v := hval0
  have hW' := hW
  obtain ⟨p, q, hA0, hV, rfl, hfz, hnd⟩ := hW
  have hA : DataW.TrodAll enc Trym.prog W 0 (fun _ => true) true Trym.f5.params.toList args.toList ds p := hA0
  rw [Trym.params5] at hA hval
  obtain ⟨v0, vs0, d0, ds0, p0, q0, hargs, rfl, rfl, h0, r0⟩ := trodAll_cons hA
  obtain ⟨v1, vs1, d1, ds1, p1, q1, rfl, rfl, rfl, h1, r1⟩ := trodAll_cons r0
  obtain ⟨v2, vs2, d2, ds2, p2, q2, rfl, rfl, rfl, h2, r2⟩ := trodAll_cons r1
  obtain ⟨rfl, rfl, rfl⟩ := trodAll_nil r2
  obtain rfl : args = #[v0, v1, v2] := by cases args; simp_all
  obtain ⟨rfl, rfl⟩ := trodVars_none hV
  have k1 := h1
  have lt1 : ∀ x ∈ p1, x.block < W.heap.size := by obtain ⟨m, hm⟩ := k1; exact DataW.trod_lt m _ _ _ hm
  obtain ⟨s, rfl, rfl, rfl, hs⟩ := open_string Trym.underlying9 (hval 0 9 v0 rfl rfl) h0
  obtain ⟨cs, rfl, hcs0⟩ := okWide_array Trym.underlying28 (hval 1 28 v1 rfl rfl)
  have hcs : cs.size = 64 := hcs0.trans Trym.cells28
  obtain ⟨xs, hl, hc⟩ : ∃ xs : List Int, xs.length = 64 ∧ ∀ i, i < 64 → cs[i]? = some (.int .u8 (xs.getD i 0)) := by
    obtain ⟨fuel, hf⟩ := h1
    exact digest_of (by simpa [Value.cells] using hf)
  obtain ⟨b, rfl, rfl, rfl⟩ := open_bool Trym.underlying4 (hval 2 4 v2 rfl rfl) h2
  clear hA0 hval0
  refine (main_any s xs cs b W hs hl hcs hc).mono fun e W' ⟨he, bel⟩ => ?_
  subst he
  exact ⟨_, rfl, _, _, _, [], _, [], hW', trodAll_mk1 (shut_bool Trym.underlying4 _), (trodAll_cons_mk (shut_string Trym.underlying9 hs) (trodAll_cons_mk (Below.trod laidOut (by kernel_rfl) (of_decide_eq_true (by kernel_rfl)) k1 bel lt1) (trodAll_cons_mk (shut_bool Trym.underlying4 b) trodAll_mk0))), rfl, bel.frame _, fun h => by cases h⟩

theorem over : Rows.fnShownStripsTheDigestRow.holds Trym.pinned (OpenSpec.ofChange Rows.fnShownStripsTheDigestSpec) :=
  OpenClaim.holds_of_wide 5 Trym.f5 rfl rfl rfl rfl rfl rfl rfl ⟨rfl, rfl, rfl, rfl, rfl⟩ rfl rfl rfl rfl rfl (by kernel_rfl) Trym.func5 (by kernel_rfl)
    (of_decide_eq_true (by kernel_rfl)) (by unfold Func.isWrapper; first | (rw [if_pos (by decide +kernel)]; kernel_rfl) | (rw [if_neg (by decide +kernel)]; exact ⟨rfl, rfl⟩))
    (fun os started H enc _ => lifted os started H enc)

/-- THE STATEMENT -/
theorem shown_strips_proved : Rows.FnShownStripsTheDigestSaid :=
  over
#print axioms shown_strips_proved
end Go.Proofs.Qxb6605842aMods
