import Derived.Test.Qxb6605842aModsRows
import Derived.WalkKit
import Derived.WalkSpells
import Derived.WalkLawsBesides
namespace Go.Proofs.Qxb6605842aMods
open Go.RowKit
set_option linter.unusedVariables false

/-- A FACT KEPT FROM THE WALK -/
structure Kept (p : Prop) : Prop where
  out : p

/-- what Go's HasPrefix answers -/
def pre (s p : ByteArray) : Bool := decide (p.size ≤ s.size) && ((s.extract 0 p.size).toList == p.toList)

set_option maxHeartbeats 400000 in
theorem lite_any (s p : ByteArray) (w : World) (hs : s.size ≤ maxLen) (hp : p.size ≤ maxLen) :
    Calls Trym.prog 48 #[.string s, .string p] w fun e w' => e = .returned (.bool (pre s p)) ∧ w' = w := by
  unfold maxLen at hs hp
  by_cases h : p.size ≤ s.size
  · go_enter Trym.func48, Trym.ntmps48
    go_wp2
    go_ret
    exact ⟨by simp [pre, h], rfl⟩
  · go_enter Trym.func48, Trym.ntmps48
    go_wp2
    go_ret
    exact ⟨by simp [pre, h], rfl⟩

set_option maxHeartbeats 400000 in
theorem has_any (s p : ByteArray) (w : World) (hs : s.size ≤ maxLen) (hp : p.size ≤ maxLen) :
    Calls Trym.prog 46 #[.string s, .string p] w fun e w' => e = .returned (.bool (pre s p)) ∧ w' = w := by
  go_enter Trym.func46, Trym.ntmps46
  go_wp2_with (go_at_call 48; refine (lite_any _ _ _ hs hp).mono ?_; rintro e w' ⟨rfl, rfl⟩)
  go_ret
  exact ⟨rfl, rfl⟩

theorem has_is (s p : ByteArray) (b : Bool) (w : World) (hs : s.size ≤ maxLen) (hp : p.size ≤ maxLen) (h : Kept (pre s p = b)) :
    Calls Trym.prog 46 #[.string s, .string p] w fun e w' => e = .returned (.bool b) ∧ w' = w := by
  have h' : pre s p = b := h.out
  subst h'
  exact has_any s p w hs hp

def defA : ByteArray := ⟨#[59, 32, 100, 101, 102, 105, 110, 101, 100, 32, 97, 115, 32]⟩
def defB : ByteArray := ⟨#[59, 32, 100, 101, 102, 105, 110, 101, 100, 32, 98, 121, 32, 111, 105, 100, 115, 32, 97, 115, 32]⟩

theorem small (s : ByteArray) (a b : Nat) (h : s.size ≤ 2097152) : (s.extract a b).size ≤ maxLen := by
  unfold maxLen
  rw [ByteArray.size_extract]
  omega

set_option maxHeartbeats 400000 in
theorem shownA (s : ByteArray) (w : World) (h1 : s.size ≤ 2097152) (h2 : 77 ≤ s.size) (HP : Kept (pre (s.extract (s.size - 13 - 64) s.size) defA = true)) :
    Calls Trym.prog 35 #[.string s] w fun e w' => e = .returned (.string (s.extract 0 (s.size - 13 - 64))) ∧ ∃ c, w' = w.alloc (.cells c 9) := by
  go_enter Trym.func35, Trym.ntmps35
  go_wp2
  refine wp_loop_rounds 2 ?_
  rw [rounds_succ]
  go_wp2_with (go_at_call 46; refine (has_is _ _ true _ (small _ _ _ h1) (by decide) HP).mono ?_; rintro e w' ⟨rfl, rfl⟩)
  go_ret
  exact ⟨rfl, _, rfl⟩

set_option maxHeartbeats 400000 in
theorem shownB (s : ByteArray) (w : World) (h1 : s.size ≤ 2097152) (h2 : 85 ≤ s.size) (HA : Kept (pre (s.extract (s.size - 13 - 64) s.size) defA = false)) (HB : Kept (pre (s.extract (s.size - 21 - 64) s.size) defB = true)) :
    Calls Trym.prog 35 #[.string s] w fun e w' => e = .returned (.string (s.extract 0 (s.size - 21 - 64))) ∧ ∃ c, w' = w.alloc (.cells c 9) := by
  go_enter Trym.func35, Trym.ntmps35
  go_wp2
  refine wp_loop_rounds 2 ?_
  rw [rounds_succ]
  go_wp2_with fail
  refine (has_is _ _ false _ (small _ _ _ h1) (by decide) HA).mono ?_
  rintro e w' ⟨rfl, rfl⟩
  go_wp2_with fail
  rw [rounds_succ]
  go_wp2_with fail
  refine (has_is _ _ true _ (small _ _ _ h1) (by decide) HB).mono ?_
  rintro e w' ⟨rfl, rfl⟩
  go_wp2
  go_ret
  exact ⟨rfl, _, rfl⟩

end Go.Proofs.Qxb6605842aMods
