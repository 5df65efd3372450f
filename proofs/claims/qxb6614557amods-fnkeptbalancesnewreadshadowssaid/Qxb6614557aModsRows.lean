/-
  No cell of these rows narrows 'for every input' (looked for: loops, veiled, ifaces, maps, wideKeys, modest, calm, conditions, laid).
  DERIVED. THE GIVEN ROWS OF THIS SEAT. 1 by the template 'for every input the law returns true; each argument reads behind the call as it read before'; 0 by the template 'total and deterministic' (their statements: Qxb6614557aModsTotals.lean).
  GIVEN WITH THE SEED: the statements are not yours to turn. If you find one false, say at which input.
  Laid BY PROGRAM, IN A SANDBOX (cutbox-rows.mjs): the forced cells as the released guide's own fill.sh prints them over the translation 2652b4dc08ab1301… (all of the seat's roots in one cut). By AI agents, Wed Nov 11 2026. No macro, syntax, notation, axiom, sorry.
-/
import Derived.Test.Qxb6614557aModsChecked
import GoSem.Claim
import GoSem.ClaimJoined
import GoSem.ClaimMapViews
import Derived.JoinedTies
import Derived.KernelRfl
namespace Go.Proofs.Qxb6614557aMods
/- THE CELL 'sum', in the pinned program and in every row, IS THE sha256 OF THE DUMP (.gsa) THAT Qxb6614557aModsProg.lean LOADS. Nothing in Lean hashes anything: it is a label: what it is worth is what the hold of that sum in a sandbox is worth. -/
noncomputable def Trym.pinned : Pinned := { name := "qxb6614557amods", sum := "2652b4dc08ab1301542611ccc1c17a7ba63d7f22e1fd098776e8efc4e53444e0", checked := Trym.checked }
namespace Rows
def none {H : Type} : Left H := { results := [], args := [] }

/-- 'zzlaws_internal_store_b1.FnKeptBalancesNewReadShadows': WHATEVER THE INPUT: true; the input reads as it did. -/
def fnKeptBalancesNewReadShadowsSpec : ChangeSpec := { name := "fnKeptBalancesNewReadShadows", fn := fun _ => fun
  | [d1, d2, d3, d4, d5, d6, d7, d8] => { results := [.lit (.bool true)], args := [d1, d2, d3, d4, d5, d6, d7, d8] }
  | _ => none }
def fnKeptBalancesNewReadShadowsRow : OpenClaim := { program := "qxb6614557amods", sum := "2652b4dc08ab1301542611ccc1c17a7ba63d7f22e1fd098776e8efc4e53444e0", func := "example.com/garm/garm/zzlaws_internal_store_b1.FnKeptBalancesNewReadShadows", spec := "fnKeptBalancesNewReadShadows", plainKeys := false, make := .lifted ["publicsums"], apart := false }
def FnKeptBalancesNewReadShadowsSaid : Prop := fnKeptBalancesNewReadShadowsRow.holds Trym.pinned (OpenSpec.ofChange fnKeptBalancesNewReadShadowsSpec)

/-- ITS FALSE NEIGHBOUR: 'it returns false'. Refute it at one input. -/
def fnKeptBalancesNewReadShadowsWrong : ChangeSpec := { name := "fnKeptBalancesNewReadShadows", fn := fun _ => fun
  | [d1, d2, d3, d4, d5, d6, d7, d8] => { results := [.lit (.bool false)], args := [d1, d2, d3, d4, d5, d6, d7, d8] }
  | _ => none }
def FnKeptBalancesNewReadShadowsWrongFalsely : Prop := fnKeptBalancesNewReadShadowsRow.holds Trym.pinned (OpenSpec.ofChange fnKeptBalancesNewReadShadowsWrong)

end Rows
end Go.Proofs.Qxb6614557aMods
