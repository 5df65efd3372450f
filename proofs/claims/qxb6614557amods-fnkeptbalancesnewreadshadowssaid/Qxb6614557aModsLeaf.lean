import Derived.Test.Qxb6614557aModsRows
import Derived.WalkKit
import Derived.WalkSpells
import Derived.WalkLawsBesides
import Derived.Maps.OwnSet
namespace Go.Proofs.Qxb6614557aMods
open Go.RowKit
set_option linter.unusedVariables false

/-- A FACT KEPT FROM THE WALK -/
structure Kept (p : Prop) : Prop where
  out : p

/-- a change, as far as it is looked at -/
structure Chg where
  kind : Int
  tok : Int
  uid : Int
  unl : Bool
  rem : Int
  quo : Int

/-- the 32 cells of a change -/
def chCells (k t u : Int) (b : Bool) (r q : Int) : List Value :=
  [.int .i64 k, .string ⟨#[]⟩, .int .i64 0, .int .i64 0, .int .i64 0, .int .i64 0, .int .i64 0,
   .string ⟨#[]⟩, .int .i64 0, .int .i64 0, .int .i64 0, .string ⟨#[]⟩, .int .i64 0, .int .i64 0, .int .i64 0, .int .i64 0, .int .i64 0, .map none, .string ⟨#[]⟩, .bool false, .int .i64 0, .int .i64 0, .int .i64 0, .int .i64 0, .int .i64 0, .int .i64 0,
   .int .i64 0, .int .i64 t, .int .i64 u, .bool b, .int .i64 r, .int .i64 q]

def cellsOf (L : List Chg) : List Value := L.flatMap fun c => chCells c.kind c.tok c.uid c.unl c.rem c.quo

/-- how the balances of a key read -/
def balData (u : Int) (b : Bool) (r q : Int) : DataW Unit := .agg [.lit (.int .i64 u), .lit (.bool b), .lit (.int .i64 r), .lit (.int .i64 q)]

def balElem : Value → Option (DataW Unit × List MemPlace)
  | .agg ⟨[.int .i64 u, .bool b, .int .i64 r, .int .i64 q]⟩ => some (balData u b r q, [])
  | _ => none

theorem balElem_mk (u : Int) (b : Bool) (r q : Int) : balElem (.agg #[.int .i64 u, .bool b, .int .i64 r, .int .i64 q]) = some (balData u b r q, []) := rfl

theorem balElem_inv {v : Value} {z : DataW Unit × List MemPlace} (h : balElem v = some z) : ∃ u b r q, v = .agg #[.int .i64 u, .bool b, .int .i64 r, .int .i64 q] ∧ z = (balData u b r q, []) := by
  unfold balElem at h
  split at h
  · cases h
    exact ⟨_, _, _, _, rfl, rfl⟩
  · cases h

/-- the key's law, the element's zero -/
theorem law : Maps.Keyed Trym.prog 2 := Maps.int_keyed Trym.underlying2
theorem zero40 (w : World) : (zeroValue 40).run Trym.prog w = .ok (.agg #[.int .i64 0, .bool false, .int .i64 0, .int .i64 0]) w := by kernel_rfl

/-- WHAT A VIEW IS IN MEMORY: its map in block mb, its memoryHolds in kb, itself in vb; its changes own a row from vb + 1 on -/
structure Inv (w : World) (mb kb vb : Nat) (db : Bool) (sv : Value) (L : List Chg) (n : Nat) (D : DataW Unit) : Prop where
  lt1 : mb < kb
  lt2 : kb < vb
  view : w.heap[vb]? = some (.cells #[.pointer (some ⟨kb, 0, none⟩), sv, .bool db] 46 (0, 0))
  mem : w.cell? ⟨kb, 10, none⟩ = some (.map (some mb))
  map : w.ownsMap Trym.prog 2 balElem mb n D
  row : w.ownsRow (vb + 1) 57 32 sv L.length (cellsOf L)

/-- what a call may turn: the view's own cell, its map, its changes' row -/
structure Turn (vb mb : Nat) (sv : Value) (w w' : World) : Prop where
  os : w'.os = w.os
  tape : w'.tape = w.tape
  output : w'.output = w.output
  size : w.heap.size ≤ w'.heap.size
  block : ∀ k, k < w.heap.size → k ≠ vb → k ≠ mb → some k ≠ sv.ownBlock → w'.heap[k]? = w.heap[k]?

set_option maxHeartbeats 400000 in
theorem bal_any (u : Int) (b : Bool) (r q : Int) (w : World) :
    Calls Trym.prog 5 #[.int .i64 u, .bool b, .int .i64 r, .int .i64 q] w fun e w' =>
      e = .returned (.agg #[.int .i64 u, .bool b, .int .i64 r, .int .i64 q]) ∧ w' = w.alloc (.cells #[.int .i64 u, .bool b, .int .i64 r, .int .i64 q] 28) := by
  go_enter Trym.func5, Trym.ntmps5
  go_wp2
  exact bodyPost_ret (v := .agg #[.int .i64 u, .bool b, .int .i64 r, .int .i64 q]) (by simp [results, Trym.results5, go_sem]) rfl ⟨rfl, rfl⟩

def kCells (mb : Nat) : Array Value := #[.int .i32 0, .int .u32 0, .int .u32 0, .int .u32 0, .int .i32 0, .int .i32 0, .map none, .slice none 0 0, .map none, .map none, .map (some mb)]

set_option maxHeartbeats 400000 in
theorem new_walk (db : Bool) (w : World) :
    Calls Trym.prog 9 #[.bool db] w fun e w' => e = .returned (.pointer (some ⟨w.heap.size + 2, 0, none⟩)) ∧
      w' = ((w.alloc (.map #[] 0)).alloc (.cells (kCells w.heap.size) 75)).alloc (.cells #[.pointer (some ⟨w.heap.size + 1, 0, none⟩), .slice none 0 0, .bool db] 46) := by
  have hmm := @run_makeMap Trym.prog
  go_enter Trym.func9, Trym.ntmps9
  go_wp2
  go_ret
  exact ⟨rfl, rfl⟩

end Go.Proofs.Qxb6614557aMods
