import Derived.Test.Qxb6619182aModsRows
import Derived.Maps.OwnSet
namespace Go.Proofs.Qxb6619182aMods
open Go.Maps

/-! THE PLAIN SIDE: what the two maps read as, as functions of the lists of keys -/
abbrev K (x : Int) : Lit := .int .i64 x
theorem key_lit (x : Int) : WideAt.IsKeyLit (K x) := trivial
theorem K_ne {x y : Int} (h : x ≠ y) : K x ≠ K y := fun e => h (by injection e)

/-- the place of the last x in a list that is told from its end -/
def lar : List Int → Int → Nat
  | [], _ => 0
  | y :: r, x => if y = x then r.length else lar r x
/-- how many different ones -/
def dr : List Int → Nat
  | [] => 0
  | x :: r => if r.contains x then dr r else dr r + 1
def hr : List Int → DataW Unit
  | [] => .map []
  | x :: r => (hr r).put (K x) (.lit (.int .i64 r.length))
def br : List Int → DataW Unit
  | [] => .map []
  | x :: r => (br r).put (K x) (.lit (.int .i64 (r.count x + 1)))

def la (xs : List Int) (x : Int) : Nat := lar xs.reverse x
def dist (xs : List Int) : Nat := dr xs.reverse
def HD (xs : List Int) : DataW Unit := hr xs.reverse
def BD (xs : List Int) : DataW Unit := br xs.reverse

theorem la_snoc (xs : List Int) (y x : Int) : la (xs ++ [y]) x = if y = x then xs.length else la xs x := by simp [la, lar]
theorem dist_snoc (xs : List Int) (x : Int) : dist (xs ++ [x]) = if xs.contains x then dist xs else dist xs + 1 := by simp [dist, dr]
theorem HD_snoc (xs : List Int) (x : Int) : HD (xs ++ [x]) = (HD xs).put (K x) (.lit (.int .i64 xs.length)) := by simp [HD, hr]
theorem BD_snoc (xs : List Int) (x : Int) : BD (xs ++ [x]) = (BD xs).put (K x) (.lit (.int .i64 (xs.count x + 1))) := by simp [BD, br]

theorem hr_tidy : ∀ r, Tidy (hr r)
  | [] => tidy_empty
  | x :: r => (hr_tidy r).put (key_lit x) _
theorem br_tidy : ∀ r, Tidy (br r)
  | [] => tidy_empty
  | x :: r => (br_tidy r).put (key_lit x) _

theorem hr_has (x : Int) : ∀ r, has (hr r) (K x) = r.contains x
  | [] => rfl
  | y :: r => by
    by_cases h : x = y
    · subst h
      rw [hr, has_put_same (hr_tidy r).isMap (key_lit x)]
      simp
    · rw [hr, has_put_other (K_ne h), hr_has x r]
      simp [h]
theorem br_has (x : Int) : ∀ r, has (br r) (K x) = r.contains x
  | [] => rfl
  | y :: r => by
    by_cases h : x = y
    · subst h
      rw [br, has_put_same (br_tidy r).isMap (key_lit x)]
      simp
    · rw [br, has_put_other (K_ne h), br_has x r]
      simp [h]

theorem hr_size : ∀ r, size (hr r) = dr r
  | [] => rfl
  | x :: r => by rw [hr, size_put (hr_tidy r), hr_has, hr_size r, dr]
theorem br_size : ∀ r, size (br r) = dr r
  | [] => rfl
  | x :: r => by rw [br, size_put (br_tidy r), br_has, br_size r, dr]

theorem hr_at (x : Int) : ∀ r, (hr r).atKey (K x) (.lit (.int .i64 0)) = .lit (.int .i64 (lar r x))
  | [] => rfl
  | y :: r => by
    by_cases h : x = y
    · subst h
      rw [hr, atKey_put_same (hr_tidy r).isMap (key_lit x)]
      simp [lar]
    · rw [hr, atKey_put_other (K_ne h), hr_at x r]
      simp [lar, Ne.symm h]
theorem br_at (x : Int) : ∀ r, (br r).atKey (K x) (.lit (.int .i64 0)) = .lit (.int .i64 (r.count x))
  | [] => rfl
  | y :: r => by
    by_cases h : x = y
    · subst h
      rw [br, atKey_put_same (br_tidy r).isMap (key_lit x)]
      simp
    · rw [br, atKey_put_other (K_ne h), br_at x r]
      simp [Ne.symm h]

theorem HD_has (xs : List Int) (x : Int) : has (HD xs) (K x) = xs.contains x := by
  rw [HD, hr_has]; simp
theorem BD_has (xs : List Int) (x : Int) : has (BD xs) (K x) = xs.contains x := by
  rw [BD, br_has]; simp
theorem HD_size (xs : List Int) : size (HD xs) = dist xs := hr_size _
theorem BD_size (xs : List Int) : size (BD xs) = dist xs := br_size _
theorem HD_at (xs : List Int) (x : Int) : (HD xs).atKey (K x) (.lit (.int .i64 0)) = .lit (.int .i64 (la xs x)) := hr_at x _
theorem BD_at (xs : List Int) (x : Int) : (BD xs).atKey (K x) (.lit (.int .i64 0)) = .lit (.int .i64 (xs.count x)) := by
  rw [BD, br_at]; simp

theorem dr_le : ∀ r, dr r ≤ r.length
  | [] => Nat.le_refl _
  | x :: r => by have := dr_le r; unfold dr; split <;> simp <;> omega
theorem dist_le (xs : List Int) : dist xs ≤ xs.length := by have := dr_le xs.reverse; simpa [dist] using this
theorem lar_le (x : Int) : ∀ r, lar r x ≤ r.length
  | [] => Nat.le_refl _
  | y :: r => by have := lar_le x r; unfold lar; split <;> simp <;> omega
theorem la_le (xs : List Int) (x : Int) : la xs x ≤ xs.length := by have := lar_le x xs.reverse; simpa [la] using this

/-- the keys that k rounds count -/
def KS (xs ss : List Int) : Nat → List Int
  | 0 => []
  | k + 1 => KS xs ss k ++ (xs.getD k 0 :: if 0 ≤ ss.getD k 0 then [ss.getD k 0] else [])

theorem KS_succ (xs ss : List Int) (k : Nat) : KS xs ss (k + 1) = KS xs ss k ++ (xs.getD k 0 :: if 0 ≤ ss.getD k 0 then [ss.getD k 0] else []) := rfl

theorem KS_length (xs ss : List Int) : ∀ k, (KS xs ss k).length ≤ 2 * k
  | 0 => Nat.le_refl _
  | k + 1 => by
    have := KS_length xs ss k
    rw [KS_succ]
    split <;> simp <;> omega

theorem KS_count (xs ss : List Int) (k : Nat) (v : Int) : (KS xs ss (k + 1)).count v = (KS xs ss k).count v + (if xs.getD k 0 = v then 1 else 0) + (if 0 ≤ ss.getD k 0 ∧ ss.getD k 0 = v then 1 else 0) := by
  rw [KS_succ, List.count_append]
  by_cases h : 0 ≤ ss.getD k 0
  · simp only [h, if_true, List.count_cons, List.count_nil, true_and, beq_iff_eq]
    omega
  · simp only [h, if_false, List.count_cons, List.count_nil, false_and, beq_iff_eq]
    omega

theorem take_snoc (xs : List Int) (k : Nat) (h : k < xs.length) : xs.take (k + 1) = xs.take k ++ [xs.getD k 0] := by
  rw [List.take_succ_eq_append_getElem h]
  simp [h]

end Go.Proofs.Qxb6619182aMods
