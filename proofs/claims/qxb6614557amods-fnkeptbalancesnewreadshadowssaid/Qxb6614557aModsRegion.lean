import Derived.OrdersHeld
import Derived.StillTail
import Derived.Deep.RegionHeld
namespace Go.Proofs.Qxb6614557aMods
open Go

/-! A REGION THAT DRAWS ITS ORDER: its first n operations yield in every world that meets S; then come some operations (below z) behind which S is shown anew; those from z on wait for every one of the first n: behind them S is not asked. -/
section
variable {P : Program} {ops : Array Oper} {Q : Exit → Act → World → Prop} {md : Region.Mode} {S : World → Prop} {z : Nat}

def anyZ (P : Program) (md : Region.Mode) (ops : Array Oper) (Q : Exit → Act → World → Prop) (S : World → Prop) (z : Nat) : Nat → Array Bool → Act → World → Prop
  | 0, listed, a, w => Region.ready md ops listed = [] ∧ Q .normal a w
  | f + 1, listed, a, w =>
    (Region.ready md ops listed = [] → Q .normal a w) ∧
    ∀ j ∈ Region.ready md ops listed, wpOp P ops Q j (fun a' w' => (j < z → S w') ∧ anyZ P md ops Q S z f (listed.setIfInBounds j true) a' w') a w

theorem any_of_Z : ∀ (f : Nat) (listed : Array Bool) (a : Act) (w : World), anyZ P md ops Q S z f listed a w → wpAny P md ops Q f listed a w
  | 0, _, _, _, h => h
  | f + 1, _, _, _, h => ⟨h.1, fun j hj => wpOp_mono (fun a' w' h' => any_of_Z f _ a' w' h'.2) (h.2 j hj)⟩

/-- nobody that waits for i comes up while i has not -/
theorem not_waits {i j : Nat} {listed : Array Bool} (hr : i ∈ Region.ready md ops listed) (hj : j ∈ Region.ready md ops listed) : Region.waitsFor md ops j i = false := by
  cases h : Region.waitsFor md ops j i with
  | false => rfl
  | true =>
    obtain ⟨oj, hoj, e, he, hb, hon⟩ := Region.waitsFor_spec h
    obtain ⟨_, o', ho', hall⟩ := mem_ready.1 hj
    obtain rfl : o' = oj := Option.some.inj (ho'.symm.trans hoj)
    have h1 := hall e he hb
    rw [hon, getD_both (mem_ready.1 hr).1] at h1
    cases h1

theorem anyZ_first {i : Nat} {oi : Oper} {v : Value} (hi : ops[i]? = some oi) (hsel : Region.noSelect ops = true)
    (hQ : ∀ c a w, Q (.panic c) (a.put oi.dst v) w → Q (.panic c) a w) (hz : ∀ t, z ≤ t → t < ops.size → Region.waitsFor md ops t i = true) :
    ∀ (f : Nat) (listed : Array Bool) (a : Act) (w : World),
      (∀ j oj, ops[j]? = some oj → j ≠ i → listed.getD j true = false → (∀ e ∈ oj.after, Region.binds md e = true → e.on ≠ i) → oi.apart ops oj = true) →
      i ∈ Region.ready md ops listed → YieldsIf P ops S oi v a → S w →
      anyZ P md ops Q S z f (listed.setIfInBounds i true) (a.put oi.dst v) w → anyZ P md ops Q S z (f + 1) listed a w := by
  intro f
  induction f with
  | zero =>
    intro listed a w _ hr hy hS H
    refine ⟨fun h => absurd hr (by rw [h]; simp), fun j hj => ?_⟩
    rcases Classical.em (j = i) with rfl | hji
    · exact hy.wpOp hi hS ⟨fun _ => hS, H⟩
    · exact absurd (ready_mono hj hji) (by rw [H.1]; simp)
  | succ f ih =>
    intro listed a w hfree hr hy hS H
    refine ⟨fun h => absurd hr (by rw [h]; simp), fun j hj => ?_⟩
    rcases Classical.em (j = i) with rfl | hji
    · exact hy.wpOp hi hS ⟨fun _ => hS, H⟩
    · obtain ⟨hjun, oj, hoj, hall⟩ := mem_ready.1 hj
      have hnw := not_waits hr hj
      have hjz : j < z := by
        rcases Nat.lt_or_ge j z with h | h
        · exact h
        · have := hz j h (Array.getElem?_eq_some_iff.1 hoj).1
          rw [hnw] at this
          cases this
      have hno : ∀ e ∈ oj.after, Region.binds md e = true → e.on ≠ i := fun e he hb heq => by
        have h1 := hall e he hb
        rw [heq, getD_both (mem_ready.1 hr).1] at h1
        cases h1
      have h2 := wpOp_putIf hoj (hfree j oj hoj hji hjun hno) (fun cs b => Region.noSelect_spec hsel i oi cs b hi) (fun cs b => Region.noSelect_spec hsel j oj cs b hoj) hQ hy (H.2 j (ready_mono hj hji))
      refine wpOp_mono (fun a' w' h3 => ⟨fun _ => h3.2.1 hjz, ih _ a' w' (fun k ok hk hki hun hnk => hfree k ok hk hki ?_ hnk) (ready_mono hr (Ne.symm hji)) h3.1 (h3.2.1 hjz) ?_⟩) h2
      · rcases Classical.em (j = k) with rfl | hjk
        · exact hjun
        · rw [getD_set_ne true hjk] at hun
          exact hun
      · rw [Array.setIfInBounds_comm _ _ hji]
        exact h3.2.2

/-- the first operations, one behind the other, each yielding in every world that meets S -/
def Takes (P : Program) (ops : Array Oper) (S : World → Prop) (K : Act → Prop) : List Oper → Act → Prop
  | [], a => K a
  | o :: l, a => ∃ v, YieldsIf P ops S o v a ∧ Takes P ops S K l (a.put o.dst v)

/-- the operations behind which S is shown anew -/
def Mids (P : Program) (ops : Array Oper) (Q : Exit → Act → World → Prop) (S : World → Prop) (K : Act → World → Prop) : List Oper → Act → World → Prop
  | [], a, w => K a w
  | o :: l, a, w => o.guard = none ∧ ∀ K' : Act → World → Prop, Shut (∀ a' w', S w' → Mids P ops Q S K l a' w' → K' a' w') → o.wp P a w K' Q

theorem takes_cons {K : Act → Prop} {o : Oper} {l : List Oper} {a : Act} (v : Value) (hg : o.guard = none) (hy : ∀ w, S w → (execOp a.eval o).run P w = .ok (.value v) w)
    (h : Takes P ops S K l (a.put o.dst v)) : Takes P ops S K (o :: l) a :=
  ⟨v, .inl ⟨by simp [Region.wanted, hg], hy⟩, h⟩

theorem mids_cons {K : Act → World → Prop} {o : Oper} {l : List Oper} {a : Act} {w : World} (hg : o.guard = none)
    (h : ∀ K' : Act → World → Prop, Shut (∀ a' w', S w' → Mids P ops Q S K l a' w' → K' a' w') → o.wp P a w K' Q) : Mids P ops Q S K (o :: l) a w := ⟨hg, h⟩

theorem anyZ_last : ∀ (l : List Oper) (k : Nat) (listed : Array Bool) (a : Act) (w : World), z ≤ k → (∀ j, l[j]? = ops[k + j]?) →
    Region.seqB md ops l.length k listed = true → wpList P ops Q l a w → anyZ P md ops Q S z l.length listed a w
  | [], _, _, _, _, _, _, hB, h => ⟨by simpa [Region.seqB] using hB, h⟩
  | o :: l, k, listed, a, w, hk, hl, hB, h => by
    have h0 : ops[k]? = some o := by simpa using (hl 0).symm
    simp only [List.length_cons, Region.seqB, Bool.and_eq_true, decide_eq_true_eq] at hB
    refine ⟨fun h1 => absurd h1 (by rw [hB.1]; simp), fun i hi => ?_⟩
    obtain rfl : i = k := by rw [hB.1] at hi; simpa using hi
    have hw : wpOp P ops Q i (wpList P ops Q l) a w := by unfold wpOp; simp only [h0]; exact h
    exact wpOp_mono (fun a' w' h' => ⟨fun hlt => absurd hlt (by omega), anyZ_last l (i + 1) _ a' w' (by omega) (fun j => by have := hl (j + 1); simpa [Nat.add_assoc, Nat.add_comm 1 j] using this) hB.2 h'⟩) hw

theorem anyZ_mids (last : List Oper) : ∀ (l : List Oper) (k : Nat) (listed : Array Bool) (a : Act) (w : World), k + l.length = z → (∀ j, (l ++ last)[j]? = ops[k + j]?) →
    Region.seqB md ops (l ++ last).length k listed = true → Mids P ops Q S (fun a w => wpList P ops Q last a w) l a w → anyZ P md ops Q S z (l ++ last).length listed a w
  | [], k, listed, a, w, hk, hl, hB, h => anyZ_last last k listed a w (by simp at hk; omega) (by simpa using hl) (by simpa using hB) h
  | o :: l, k, listed, a, w, hk, hl, hB, h => by
    have h0 : ops[k]? = some o := by simpa using (hl 0).symm
    simp only [List.cons_append, List.length_cons, Region.seqB, Bool.and_eq_true, decide_eq_true_eq] at hB
    simp only [List.cons_append, List.length_cons]
    refine ⟨fun h1 => absurd h1 (by rw [hB.1]; simp), fun i hi => ?_⟩
    obtain rfl : i = k := by rw [hB.1] at hi; simpa using hi
    have hw : Region.wanted o (yielded ops a.tmps) = true := by simp [Region.wanted, h.1]
    unfold wpOp
    simp only [h0, hw, if_true]
    refine .inl (h.2 _ (fun a' w' hS hM => ⟨fun _ => hS, ?_⟩))
    exact anyZ_mids last l (i + 1) _ a' w' (by simp at hk; omega) (fun j => by have := hl (j + 1); simpa [Nat.add_assoc, Nat.add_comm 1 j] using this) hB.2 hM

theorem anyZ_takes (mid last : List Oper) (hsel : Region.noSelect ops = true) {w : World} (hS : S w) (hQ : ∀ c a d v w, Q (.panic c) (Act.put a d v) w → Q (.panic c) a w) {n : Nat}
    (hz : ∀ t, z ≤ t → t < ops.size → ∀ i, i < n → Region.waitsFor md ops t i = true) (hn : n + mid.length = z) :
    ∀ (l : List Oper) (k : Nat) (listed : Array Bool) (a : Act), k + l.length = n → (∀ j, (l ++ (mid ++ last))[j]? = ops[k + j]?) →
    Region.lexHead md ops (mid ++ last).length l.length k listed = true → Takes P ops S (fun a => Mids P ops Q S (fun a w => wpList P ops Q last a w) mid a w) l a →
    anyZ P md ops Q S z (l.length + (mid ++ last).length) listed a w
  | [], k, listed, a, hk, hl, hB, h => by
    rw [List.length_nil, Nat.zero_add]
    exact anyZ_mids last mid k listed a w (by simp at hk; omega) (by simpa using hl) (by simpa [Region.lexHead] using hB) h
  | o :: l, k, listed, a, hk, hl, hB, h => by
    have h0 : ops[k]? = some o := by simpa using (hl 0).symm
    simp only [List.length_cons, Region.lexHead, Bool.and_eq_true] at hB
    obtain ⟨⟨hr, hf⟩, hB'⟩ := hB
    obtain ⟨v, hy, hK⟩ := h
    have hr' : k ∈ Region.ready md ops listed := by simpa using hr
    rw [List.length_cons, show l.length + 1 + (mid ++ last).length = l.length + (mid ++ last).length + 1 by omega]
    exact anyZ_first h0 hsel (fun c a w => hQ c a _ v w) (fun t ht ht' => hz t ht ht' k (by simp at hk; omega)) _ listed a w (Region.free_spec h0 hf) hr' hy hS
      (anyZ_takes mid last hsel hS hQ hz hn l (k + 1) _ _ (by simp at hk; omega) (fun j => by have := hl (j + 1); simpa [Nat.add_assoc, Nat.add_comm 1 j] using this) hB' hK)

/-- the waits, as one Bool -/
def waitsB (md : Region.Mode) (ops : Array Oper) (n z : Nat) : Bool := (List.range ops.size).all fun t => decide (t < z) || (List.range n).all fun i => Region.waitsFor md ops t i

theorem waitsB_spec {n : Nat} (h : waitsB md ops n z = true) (t : Nat) (ht : z ≤ t) (ht' : t < ops.size) (i : Nat) (hi : i < n) : Region.waitsFor md ops t i = true := by
  have h1 := List.all_eq_true.1 h t (List.mem_range.2 ht')
  simp only [Bool.or_eq_true, decide_eq_true_eq] at h1
  rcases h1 with h1 | h1
  · omega
  · exact List.all_eq_true.1 h1 i (List.mem_range.2 hi)

/-- THE LAW: head, mid and last are the region's operations, parted -/
theorem region_parted {id : Nat} {a : Act} {w : World} (S : World → Prop) (head mid last : List Oper) (hm : P.follows .mixedOrders = true)
    (hsel : Region.noSelect (head ++ (mid ++ last)).toArray = true) (hw : waitsB .any (head ++ (mid ++ last)).toArray head.length (head.length + mid.length) = true)
    (hB : Region.lexHead .any (head ++ (mid ++ last)).toArray (mid ++ last).length head.length 0 (Array.replicate (head ++ (mid ++ last)).length false) = true)
    (hQ : ∀ c a d v w, Q (.panic c) (Act.put a d v) w → Q (.panic c) a w) (hS : S w.drew)
    (h : Takes P (head ++ (mid ++ last)).toArray S (fun a => Mids P (head ++ (mid ++ last)).toArray Q S (fun a w => wpList P (head ++ (mid ++ last)).toArray Q last a w) mid a w.drew) head a) :
    (Code.region id (head ++ (mid ++ last)).toArray true).wp P Q a w := by
  refine wp_region_any hm (any_of_Z (S := S) (z := head.length + mid.length) _ _ _ _ ?_)
  have := anyZ_takes (P := P) (Q := Q) (md := .any) (z := head.length + mid.length) mid last hsel hS hQ (fun t ht ht' i hi => waitsB_spec hw t ht ht' i hi) rfl head 0 _ a (by simp) (by simp) hB h
  simpa using this

/-- .. the same, the region's list parted at n and at n + m -/
theorem region_cut {id : Nat} {a : Act} {w : World} {l : List Oper} (S : World → Prop) (n m : Nat) (hm : P.follows .mixedOrders = true)
    (hlen : decide (n + m ≤ l.length) = true) (hsel : Region.noSelect l.toArray = true) (hw : waitsB .any l.toArray n (n + m) = true)
    (hB : Region.lexHead .any l.toArray (l.length - n) n 0 (Array.replicate l.length false) = true)
    (hQ : ∀ c a d v w, Q (.panic c) (Act.put a d v) w → Q (.panic c) a w) (hS : S w.drew)
    (h : S w.drew → Takes P l.toArray S (fun a => Mids P l.toArray Q S (fun a w => wpList P l.toArray Q (l.drop (n + m)) a w) ((l.drop n).take m) a w.drew) (l.take n) a) :
    (Code.region id l.toArray true).wp P Q a w := by
  have hl : n + m ≤ l.length := of_decide_eq_true hlen
  have e : l.take n ++ ((l.drop n).take m ++ l.drop (n + m)) = l := by
    rw [← List.drop_drop, List.take_append_drop, List.take_append_drop]
  have e1 : (l.take n).length = n := by simp; omega
  have e2 : ((l.drop n).take m).length = m := by simp; omega
  have e3 : ((l.drop n).take m ++ l.drop (n + m)).length = l.length - n := by simp; omega
  have := region_parted (P := P) (Q := Q) (id := id) (a := a) (w := w) S (l.take n) ((l.drop n).take m) (l.drop (n + m)) hm
  rw [e, e1, e2, e3] at this
  exact this hsel hw hB hQ hS (h hS)
end
end Go.Proofs.Qxb6614557aMods
