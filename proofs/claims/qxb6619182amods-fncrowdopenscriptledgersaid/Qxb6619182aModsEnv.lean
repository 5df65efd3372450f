import Derived.Test.Qxb6619182aModsRead
import Derived.Deep.DeepCutAuto
namespace Go.Proofs.Qxb6619182aMods
open Go.RowKit
set_option linter.unusedVariables false

/-- what is left of a sequence behind its first j statements -/
def spine : Nat → Code → Code
  | 0, c => c
  | j + 1, .seq _ b => spine j b
  | _, c => c

set_option maxHeartbeats 400000 in
theorem bytes_yes (a0 a1 a2 : Option Addr) (l0 l1 l2 p0 p1 p2 : Nat) (w : World) (h : l0 + l1 + l2 ≤ 1048576) :
    Calls Trym.prog 4 #[.slice a0 l0 p0, .slice a1 l1 p1, .slice a2 l2 p2] w fun e w' => e = .returned (.bool true) ∧ w = w' := by
  go_enter Trym.func4, Trym.ntmps4
  go_wp2
  go_ret
  exact ⟨rfl, rfl⟩

/-- the script so far -/
def prTo (xs ss : List Int) (fs : List Nat) (k : Nat) : List (Int × Int × Nat) := (List.range k).map fun j => (xs.getD j 0, ss.getD j 0, fs.getD j 0)
theorem prTo_succ (xs ss : List Int) (fs : List Nat) (k : Nat) : prTo xs ss fs (k + 1) = prTo xs ss fs k ++ [(xs.getD k 0, ss.getD k 0, fs.getD k 0)] := by simp [prTo, List.range_succ]
theorem prTo_len (xs ss : List Int) (fs : List Nat) (k : Nat) : (prTo xs ss fs k).length = k := by simp [prTo]
theorem prTo_at (xs ss : List Int) (fs : List Nat) (n k : Nat) (h : k < n) : (prTo xs ss fs n)[k]? = some (xs.getD k 0, ss.getD k 0, fs.getD k 0) := by simp [prTo, h]
theorem prTo_fst (xs ss : List Int) (fs : List Nat) : ∀ k, k ≤ xs.length → (prTo xs ss fs k).map (·.1) = xs.take k
  | 0, _ => by simp [prTo]
  | k + 1, h => by rw [prTo_succ, List.map_append, prTo_fst xs ss fs k (by omega), take_snoc xs k (by omega)]; rfl

/-- one more round of the count -/
theorem want_step {xs ss : List Int} {j c : Nat} {v x s : Int} (hq : Kept (c = (KS xs ss j).count v)) (hx : Kept (x = xs.getD j 0)) (hs : Kept (s = ss.getD j 0)) :
    (KS xs ss (j + 1)).count v = c + (if x = v then 1 else 0) + (if 0 ≤ s ∧ s = v then 1 else 0) := by
  rw [KS_count, ← hq.out, ← hx.out, ← hs.out]
theorem want00 {xs ss : List Int} {j c : Nat} {v x s : Int} (hq : Kept (c = (KS xs ss j).count v)) (hx : Kept (x = xs.getD j 0)) (hs : Kept (s = ss.getD j 0)) (h1 : (x == v) = false) (h2 : (s == v) = false) : Kept (c = (KS xs ss (j + 1)).count v) :=
  ⟨by rw [want_step hq hx hs, if_neg (beq_eq_false_iff_ne.1 h1), if_neg fun h => beq_eq_false_iff_ne.1 h2 h.2]; rfl⟩
theorem want0n {xs ss : List Int} {j c : Nat} {v x s : Int} (hq : Kept (c = (KS xs ss j).count v)) (hx : Kept (x = xs.getD j 0)) (hs : Kept (s = ss.getD j 0)) (h1 : (x == v) = false) (h2 : ¬ 0 ≤ s) : Kept (c = (KS xs ss (j + 1)).count v) :=
  ⟨by rw [want_step hq hx hs, if_neg (beq_eq_false_iff_ne.1 h1), if_neg fun h => h2 h.1]; rfl⟩
theorem want01 {xs ss : List Int} {j c : Nat} {v x s : Int} (hq : Kept (c = (KS xs ss j).count v)) (hx : Kept (x = xs.getD j 0)) (hs : Kept (s = ss.getD j 0)) (h1 : (x == v) = false) (h0 : 0 ≤ s) (h2 : (s == v) = true) : Kept (c + 1 = (KS xs ss (j + 1)).count v) :=
  ⟨by rw [want_step hq hx hs, if_neg (beq_eq_false_iff_ne.1 h1), if_pos ⟨h0, beq_iff_eq.1 h2⟩]⟩
theorem want10 {xs ss : List Int} {j c : Nat} {v x s : Int} (hq : Kept (c = (KS xs ss j).count v)) (hx : Kept (x = xs.getD j 0)) (hs : Kept (s = ss.getD j 0)) (h1 : (x == v) = true) (h2 : (s == v) = false) : Kept (c + 1 = (KS xs ss (j + 1)).count v) :=
  ⟨by rw [want_step hq hx hs, if_pos (beq_iff_eq.1 h1), if_neg fun h => beq_eq_false_iff_ne.1 h2 h.2]⟩
theorem want1n {xs ss : List Int} {j c : Nat} {v x s : Int} (hq : Kept (c = (KS xs ss j).count v)) (hx : Kept (x = xs.getD j 0)) (hs : Kept (s = ss.getD j 0)) (h1 : (x == v) = true) (h2 : ¬ 0 ≤ s) : Kept (c + 1 = (KS xs ss (j + 1)).count v) :=
  ⟨by rw [want_step hq hx hs, if_pos (beq_iff_eq.1 h1), if_neg fun h => h2 h.1]⟩
theorem want11 {xs ss : List Int} {j c : Nat} {v x s : Int} (hq : Kept (c = (KS xs ss j).count v)) (hx : Kept (x = xs.getD j 0)) (hs : Kept (s = ss.getD j 0)) (h1 : (x == v) = true) (h0 : 0 ≤ s) (h2 : (s == v) = true) : Kept (c + 2 = (KS xs ss (j + 1)).count v) :=
  ⟨by rw [want_step hq hx hs, if_pos (beq_iff_eq.1 h1), if_pos ⟨h0, beq_iff_eq.1 h2⟩]⟩

/-- one more key, seen before or new -/
theorem dist_old {xs : List Int} {k c : Nat} {v : Int} (hk : k < xs.length) (hc : Kept (c = dist (xs.take k))) (hv : Kept (v = xs.getD k 0)) (ho : Kept (occ xs k v = true)) : Kept (c = dist (xs.take (k + 1))) :=
  ⟨by rw [take_snoc xs k hk, dist_snoc, ← hv.out, if_pos (show (xs.take k).contains v = true from ho.out)]; exact hc.out⟩
theorem dist_new {xs : List Int} {k c : Nat} {v : Int} (hk : k < xs.length) (hc : Kept (c = dist (xs.take k))) (hv : Kept (v = xs.getD k 0)) (ho : Kept (occ xs k v = false)) : Kept (c + 1 = dist (xs.take (k + 1))) :=
  ⟨by rw [take_snoc xs k hk, dist_snoc, ← hv.out, if_neg (fun h => by have := ho.out; unfold occ at this; rw [h] at this; cases this)]; exact congrArg (· + 1) hc.out⟩

theorem getD_mem {xs : List Int} {k : Nat} (h : k < xs.length) : xs.getD k 0 ∈ xs := by simp [h]
theorem KS_wf {xs ss : List Int} : ∀ {k : Nat}, (∀ j, j < k → (Lit.int .i64 (xs.getD j 0)).wf = true) → (∀ j, j < k → (Lit.int .i64 (ss.getD j 0)).wf = true) → ∀ v ∈ KS xs ss k, (Lit.int .i64 v).wf = true
  | 0, _, _, v, h => by simp [KS] at h
  | k + 1, h0, h1, v, h => by
    rw [KS_succ, List.mem_append, List.mem_cons] at h
    rcases h with h | h | h
    · exact KS_wf (fun j hj => h0 j (by omega)) (fun j hj => h1 j (by omega)) v h
    · rw [h]; exact h0 k (by omega)
    · split at h
      · rw [List.mem_singleton] at h; rw [h]; exact h1 k (by omega)
      · simp at h

/-- WHAT IS KNOWN THROUGHOUT -/
structure Env (w0 : World) (a0 a1 a2 : Option Addr) (l0 l1 l2 n : Nat) (xs ss : List Int) (fs : List Nat) : Prop where
  r0 : RowI w0 a0 l0 xs
  r1 : RowI w0 a1 l1 ss
  r2 : RowF w0 a2 l2 fs
  f0 : ∀ j, j < l0 → (Lit.int .i64 (xs.getD j 0)).wf = true
  f1 : ∀ j, j < l1 → (Lit.int .i64 (ss.getD j 0)).wf = true
  g0 : l0 ≤ xs.length
  g1 : l1 ≤ ss.length
  m0 : l0 ≤ 4096
  m1 : l1 ≤ 4096
  m2 : l2 ≤ 4096
  n0 : n ≤ l0
  n1 : n ≤ l1
  n2 : n ≤ l2

end Go.Proofs.Qxb6619182aMods
