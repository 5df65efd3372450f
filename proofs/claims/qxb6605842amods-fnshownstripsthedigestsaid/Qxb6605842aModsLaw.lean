import Derived.Test.Qxb6605842aModsPlain
namespace Go.Proofs.Qxb6605842aMods
open Go.RowKit
set_option linter.unusedVariables false

/-- what is asked of the text and of what is shown of it -/
def Shows (s r : ByteArray) : Prop :=
  ∀ w : World, Calls Trym.prog 35 #[.string s] w fun e w' => e = .returned (.string r) ∧ ∃ c, w' = w.alloc (.cells c 9)

theorem showsA (x z : ByteArray) (hx : x.size ≤ 1048576) (hz : z.size = 64) : Shows (x ++ defA ++ z) x := by
  intro w
  have hA : defA.size = 13 := rfl
  have hs := cat_size x defA z
  have e : (x ++ defA ++ z).size - 13 - 64 = x.size := by omega
  have h := shownA (x ++ defA ++ z) w (by omega) (by omega) ⟨by rw [e]; exact pre_hit x defA z⟩
  rw [e, cat_head] at h
  exact h

theorem showsB (x z : ByteArray) (hx : x.size ≤ 1048576) (hz : z.size = 64) : Shows (x ++ defB ++ z) x := by
  intro w
  have hB : defB.size = 21 := rfl
  have hs := cat_size x defB z
  have e : (x ++ defB ++ z).size - 21 - 64 = x.size := by omega
  have e8 : (x ++ defB ++ z).size - 13 - 64 = x.size + 8 := by omega
  have h := shownB (x ++ defB ++ z) w (by omega) (by omega) ⟨by rw [e8]; exact pre_miss x z⟩ ⟨by rw [e]; exact pre_hit x defB z⟩
  rw [e, cat_head] at h
  exact h

set_option maxHeartbeats 400000 in
theorem zz_any (s r : ByteArray) (w : World) (h : Shows s r) :
    Calls Trym.prog 15 #[.string s] w fun e w' => e = .returned (.string r) ∧ ∃ c, w' = w.alloc (.cells c 9) := by
  go_enter Trym.func15, Trym.ntmps15
  go_wp2_with (go_at_call 35; refine (h _).mono ?_; rintro e w' ⟨rfl, c, rfl⟩)
  go_ret
  exact ⟨rfl, _, rfl⟩

set_option maxHeartbeats 400000 in
theorem bytes_yes (s : ByteArray) (cs : Array Value) (b : Bool) (w : World) (hs : s.size ≤ 1048576) :
    Calls Trym.prog 14 #[.string s, .agg cs, .bool b] w fun e w' => e = .returned (.bool true) ∧ w' = w.alloc (.cells cs 28) := by
  go_enter Trym.func14, Trym.ntmps14
  go_wp2
  go_ret
  exact ⟨rfl, rfl⟩

set_option maxHeartbeats 400000 in
theorem bytes_no (s : ByteArray) (cs : Array Value) (b : Bool) (w : World) (hs : 1048576 < s.size) (hm : s.size ≤ maxLen) :
    Calls Trym.prog 14 #[.string s, .agg cs, .bool b] w fun e w' => e = .returned (.bool false) ∧ w' = w.alloc (.cells cs 28) := by
  unfold maxLen at hm
  go_enter Trym.func14, Trym.ntmps14
  go_wp2
  go_ret
  exact ⟨rfl, rfl⟩

end Go.Proofs.Qxb6605842aMods
