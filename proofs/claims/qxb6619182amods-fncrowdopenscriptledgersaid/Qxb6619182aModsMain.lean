import Derived.Test.Qxb6619182aModsT1
namespace Go.Proofs.Qxb6619182aMods
open Go.RowKit
set_option linter.unusedVariables false

set_option maxRecDepth 100000 in
set_option maxHeartbeats 1000000 in
theorem main_small (a0 a1 a2 : Option Addr) (l0 l1 l2 p0 p1 p2 n : Nat) (xs ss : List Int) (fs : List Nat) (w : World) (E : Env w a0 a1 a2 l0 l1 l2 n xs ss fs) (hn : n = min (min l0 l1) l2) :
    Calls Trym.prog 3 #[.slice a0 l0 p0, .slice a1 l1 p1, .slice a2 l2 p2] w fun e w' => e = .returned (.bool true) ∧ Below w.heap.size w w' := by
  have h0 := E.m0
  have h1 := E.m1
  have h2 := E.m2
  have hsum : l0 + l1 + l2 ≤ 1048576 := by omega
  have C4 := Kept.mk (bytes_yes a0 a1 a2 l0 l1 l2 p0 p1 p2 w hsum)
  go_enter Trym.func3, Trym.ntmps3
  refine wp_seq_k fun K hK => ?_
  have HK := Kept.mk hK
  clear hK
  go_wp2
  refine HK.out _ _ ?_
  clear HK
  refine wp_seq_k fun K hK => ?_
  have HK := Kept.mk hK
  clear hK
  go_wp2_with (go_at_call 4; refine C4.out.mono ?_; rintro e w' ⟨rfl, rfl⟩)
  refine HK.out _ _ ?_
  clear HK
  refine wp_seq_k fun K hK => ?_
  have HK := Kept.mk hK
  clear hK
  go_wp2
  refine HK.out _ _ ?_
  clear HK
  refine wp_seq_k fun K hK => ?_
  have HK := Kept.mk hK
  clear hK
  go_wp2
  refine HK.out _ _ ?_
  clear HK
  refine wp_seq_k fun K hK => ?_
  have HK := Kept.mk hK
  clear hK
  go_wp2
  refine HK.out _ _ ?_
  clear HK
  refine wp_seq_k fun K hK => ?_
  have HK := Kept.mk hK
  clear hK
  go_wp2
  refine HK.out _ _ ?_
  clear HK
  refine wp_seq_k fun K hK => ?_
  have HK := Kept.mk hK
  clear hK
  go_wp2
  refine HK.out _ _ ?_
  clear HK
  by_cases c1 : l1 < l0
  · refine wp_seq_k fun K hK => ?_
    have HK := Kept.mk hK
    clear hK
    go_wp2
    refine HK.out _ _ ?_
    clear HK
    by_cases c2 : l2 < l1
    · refine wp_seq_k fun K hK => ?_
      have HK := Kept.mk hK
      clear hK
      go_wp2
      refine HK.out _ _ ?_
      clear HK
      obtain rfl : n = l2 := by omega
      exact tailA E
    · refine wp_seq_k fun K hK => ?_
      have HK := Kept.mk hK
      clear hK
      go_wp2
      refine HK.out _ _ ?_
      clear HK
      obtain rfl : n = l1 := by omega
      exact tailA E
  · refine wp_seq_k fun K hK => ?_
    have HK := Kept.mk hK
    clear hK
    go_wp2
    refine HK.out _ _ ?_
    clear HK
    by_cases c2 : l2 < l0
    · refine wp_seq_k fun K hK => ?_
      have HK := Kept.mk hK
      clear hK
      go_wp2
      refine HK.out _ _ ?_
      clear HK
      obtain rfl : n = l2 := by omega
      exact tailA E
    · refine wp_seq_k fun K hK => ?_
      have HK := Kept.mk hK
      clear hK
      go_wp2
      refine HK.out _ _ ?_
      clear HK
      obtain rfl : n = l0 := by omega
      exact tailA E

set_option maxRecDepth 100000 in
set_option maxHeartbeats 1000000 in
theorem main_big (a0 a1 a2 : Option Addr) (l0 l1 l2 p0 p1 p2 : Nat) (w : World) (h0 : l0 ≤ maxLen) (h1 : l1 ≤ maxLen) (h2 : l2 ≤ maxLen) (hbig : 4096 < l0 ∨ 4096 < l1 ∨ 4096 < l2) :
    Calls Trym.prog 3 #[.slice a0 l0 p0, .slice a1 l1 p1, .slice a2 l2 p2] w fun e w' => e = .returned (.bool true) ∧ Below w.heap.size w w' := by
  have C4 := Kept.mk (bytes_any a0 a1 a2 l0 l1 l2 p0 p1 p2 w h0 h1 h2)
  unfold maxLen at h0 h1 h2
  go_enter Trym.func3, Trym.ntmps3
  refine wp_seq_k fun K hK => ?_
  have HK := Kept.mk hK
  clear hK
  go_wp2
  refine HK.out _ _ ?_
  clear HK
  refine wp_seq_k fun K hK => ?_
  have HK := Kept.mk hK
  clear hK
  go_wp2_with (go_at_call 4; refine C4.out.mono ?_; rintro e w' ⟨⟨b, rfl⟩, rfl⟩)
  · go_ret
    exact ⟨rfl, Below.refl _ _⟩
  refine HK.out _ _ ?_
  clear HK
  by_cases c0 : 4096 < l0
  · refine wp_seq_k fun K hK => ?_
    have HK := Kept.mk hK
    clear hK
    go_wp2
    go_ret
    exact ⟨rfl, Below.refl _ _⟩
  refine wp_seq_k fun K hK => ?_
  have HK := Kept.mk hK
  clear hK
  go_wp2
  refine HK.out _ _ ?_
  clear HK
  by_cases c1 : 4096 < l1
  · refine wp_seq_k fun K hK => ?_
    have HK := Kept.mk hK
    clear hK
    go_wp2
    go_ret
    exact ⟨rfl, Below.refl _ _⟩
  refine wp_seq_k fun K hK => ?_
  have HK := Kept.mk hK
  clear hK
  go_wp2
  refine HK.out _ _ ?_
  clear HK
  have c2 : 4096 < l2 := by omega
  refine wp_seq_k fun K hK => ?_
  have HK := Kept.mk hK
  clear hK
  go_wp2
  go_ret
  exact ⟨rfl, Below.refl _ _⟩

end Go.Proofs.Qxb6619182aMods
