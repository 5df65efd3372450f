/-
  No cell of these rows narrows 'for every input' (looked for: loops, veiled, ifaces, maps, wideKeys, modest, calm, conditions, laid).
  DERIVED. THE GIVEN ROWS OF THIS SEAT. 1 by the template 'for every input the law returns true; each argument reads behind the call as it read before'; 0 by the template 'total and deterministic' (their statements: Qxb6619182aModsTotals.lean).
  GIVEN WITH THE SEED: the statements are not yours to turn. If you find one false, say at which input.
  Laid BY PROGRAM, IN A SANDBOX (cutbox-rows.mjs): the forced cells as the released guide's own fill.sh prints them over the translation 9a4a572fa80495ff… (all of the seat's roots in one cut). By AI agents, Wed Nov 11 2026. No macro, syntax, notation, axiom, sorry.
-/
import Derived.Test.Qxb6619182aModsChecked
import GoSem.Claim
import GoSem.ClaimJoined
import GoSem.ClaimMapViews
import Derived.JoinedTies
import Derived.KernelRfl
namespace Go.Proofs.Qxb6619182aMods
/- THE CELL 'sum', in the pinned program and in every row, IS THE sha256 OF THE DUMP (.gsa) THAT Qxb6619182aModsProg.lean LOADS. Nothing in Lean hashes anything: it is a label: what it is worth is what the hold of that sum in a sandbox is worth. -/
noncomputable def Trym.pinned : Pinned := { name := "qxb6619182amods", sum := "9a4a572fa80495fff3129c34e633592b289cdb0f07f5d077fb6ee2aea8a2155a", checked := Trym.checked }
namespace Rows
def none {H : Type} : Left H := { results := [], args := [] }

/-- 'zzlaws_internal_sim_b1.FnCrowdOpenScriptLedger': WHATEVER THE INPUT: true; the input reads as it did. -/
def fnCrowdOpenScriptLedgerSpec : ChangeSpec := { name := "fnCrowdOpenScriptLedger", fn := fun _ => fun
  | [d1, d2, d3] => { results := [.lit (.bool true)], args := [d1, d2, d3] }
  | _ => none }
def fnCrowdOpenScriptLedgerRow : OpenClaim := { program := "qxb6619182amods", sum := "9a4a572fa80495fff3129c34e633592b289cdb0f07f5d077fb6ee2aea8a2155a", func := "example.com/nearfield/nearfield/zzlaws_internal_sim_b1.FnCrowdOpenScriptLedger", spec := "fnCrowdOpenScriptLedger", plainKeys := false, make := .lifted ["publicsums"], apart := false }
def FnCrowdOpenScriptLedgerSaid : Prop := fnCrowdOpenScriptLedgerRow.holds Trym.pinned (OpenSpec.ofChange fnCrowdOpenScriptLedgerSpec)

/-- ITS FALSE NEIGHBOUR: 'it returns false'. Refute it at one input. -/
def fnCrowdOpenScriptLedgerWrong : ChangeSpec := { name := "fnCrowdOpenScriptLedger", fn := fun _ => fun
  | [d1, d2, d3] => { results := [.lit (.bool false)], args := [d1, d2, d3] }
  | _ => none }
def FnCrowdOpenScriptLedgerWrongFalsely : Prop := fnCrowdOpenScriptLedgerRow.holds Trym.pinned (OpenSpec.ofChange fnCrowdOpenScriptLedgerWrong)

end Rows
end Go.Proofs.Qxb6619182aMods
