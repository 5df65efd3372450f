import Derived.Test.Qxb6619182aModsEnv
namespace Go.Proofs.Qxb6619182aMods
open Go.RowKit
set_option linter.unusedVariables false

/-- one round of the script -/
theorem open_step {xs ss : List Int} {fs : List Nat} {k f : Nat} {x s : Int} (hx : Kept (x = xs.getD k 0)) (hs : Kept (s = ss.getD k 0)) (hf : Kept (f = fs.getD k 0)) :
    prTo xs ss fs k ++ [(x, s, f)] = prTo xs ss fs (k + 1) ∧ addKeys (KS xs ss k) x s = KS xs ss (k + 1) := by
  refine ⟨by rw [prTo_succ, ← hx.out, ← hs.out, ← hf.out], ?_⟩
  rw [hx.out, hs.out]
  rfl

theorem bytes_any (a0 a1 a2 : Option Addr) (l0 l1 l2 p0 p1 p2 : Nat) (w : World) (h0 : l0 ≤ maxLen) (h1 : l1 ≤ maxLen) (h2 : l2 ≤ maxLen) :
    Calls Trym.prog 4 #[.slice a0 l0 p0, .slice a1 l1 p1, .slice a2 l2 p2] w fun e w' => (∃ b, e = .returned (.bool b)) ∧ w = w' := by
  unfold maxLen at h0 h1 h2
  go_enter Trym.func4, Trym.ntmps4
  go_wp2
  all_goals go_ret
  all_goals exact ⟨⟨_, rfl⟩, rfl⟩

end Go.Proofs.Qxb6619182aMods
