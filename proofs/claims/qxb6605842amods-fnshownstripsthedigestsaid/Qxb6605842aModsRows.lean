/-
  No cell of these rows narrows 'for every input' (looked for: loops, veiled, ifaces, maps, wideKeys, modest, calm, conditions, laid).
  DERIVED. THE GIVEN ROWS OF THIS SEAT. 5 by the template 'for every input the law returns true; each argument reads behind the call as it read before'; 0 by the template 'total and deterministic' (their statements: Qxb6605842aModsTotals.lean).
  GIVEN WITH THE SEED: the statements are not yours to turn. If you find one false, say at which input.
  Laid BY PROGRAM, IN A SANDBOX (cutbox-rows.mjs): the forced cells as the released guide's own fill.sh prints them over the translation 2571212810b5eb67… (all of the seat's roots in one cut). By AI agents, Wed Nov 11 2026. No macro, syntax, notation, axiom, sorry.
-/
import Derived.Test.Qxb6605842aModsChecked
import GoSem.Claim
import GoSem.ClaimJoined
import GoSem.ClaimMapViews
import Derived.JoinedTies
import Derived.KernelRfl
namespace Go.Proofs.Qxb6605842aMods
/- THE CELL 'sum', in the pinned program and in every row, IS THE sha256 OF THE DUMP (.gsa) THAT Qxb6605842aModsProg.lean LOADS. Nothing in Lean hashes anything: it is a label: what it is worth is what the hold of that sum in a sandbox is worth. -/
noncomputable def Trym.pinned : Pinned := { name := "qxb6605842amods", sum := "2571212810b5eb679f2163186c310174fbf8bdd1a5820957006d014dd960ec23", checked := Trym.checked }
namespace Rows
def none {H : Type} : Left H := { results := [], args := [] }

/-- 'zzlaws_node_b1.FnFieldsTakenSQLEvaluatesToFieldsTaken': WHATEVER THE INPUT: true; the input reads as it did. -/
def fnFieldsTakenSQLEvaluatesToFieldsTakenSpec : ChangeSpec := { name := "fnFieldsTakenSQLEvaluatesToFieldsTaken", fn := fun _ => fun
  | [d1, d2, d3, d4] => { results := [.lit (.bool true)], args := [d1, d2, d3, d4] }
  | _ => none }
def fnFieldsTakenSQLEvaluatesToFieldsTakenRow : OpenClaim := { program := "qxb6605842amods", sum := "2571212810b5eb679f2163186c310174fbf8bdd1a5820957006d014dd960ec23", func := "example.com/ledgerloom/ledgerloom/zzlaws_node_b1.FnFieldsTakenSQLEvaluatesToFieldsTaken", spec := "fnFieldsTakenSQLEvaluatesToFieldsTaken", plainKeys := false, make := .lifted ["publicsums"], apart := false }
def FnFieldsTakenSQLEvaluatesToFieldsTakenSaid : Prop := fnFieldsTakenSQLEvaluatesToFieldsTakenRow.holds Trym.pinned (OpenSpec.ofChange fnFieldsTakenSQLEvaluatesToFieldsTakenSpec)

/-- ITS FALSE NEIGHBOUR: 'it returns false'. Refute it at one input. -/
def fnFieldsTakenSQLEvaluatesToFieldsTakenWrong : ChangeSpec := { name := "fnFieldsTakenSQLEvaluatesToFieldsTaken", fn := fun _ => fun
  | [d1, d2, d3, d4] => { results := [.lit (.bool false)], args := [d1, d2, d3, d4] }
  | _ => none }
def FnFieldsTakenSQLEvaluatesToFieldsTakenWrongFalsely : Prop := fnFieldsTakenSQLEvaluatesToFieldsTakenRow.holds Trym.pinned (OpenSpec.ofChange fnFieldsTakenSQLEvaluatesToFieldsTakenWrong)

/-- 'zzlaws_node_b1.FnFieldsTakenSQLKeepsOperandsApart': WHATEVER THE INPUT: true; the input reads as it did. -/
def fnFieldsTakenSQLKeepsOperandsApartSpec : ChangeSpec := { name := "fnFieldsTakenSQLKeepsOperandsApart", fn := fun _ => fun
  | [d1, d2, d3, d4] => { results := [.lit (.bool true)], args := [d1, d2, d3, d4] }
  | _ => none }
def fnFieldsTakenSQLKeepsOperandsApartRow : OpenClaim := { program := "qxb6605842amods", sum := "2571212810b5eb679f2163186c310174fbf8bdd1a5820957006d014dd960ec23", func := "example.com/ledgerloom/ledgerloom/zzlaws_node_b1.FnFieldsTakenSQLKeepsOperandsApart", spec := "fnFieldsTakenSQLKeepsOperandsApart", plainKeys := false, make := .lifted ["publicsums"], apart := false }
def FnFieldsTakenSQLKeepsOperandsApartSaid : Prop := fnFieldsTakenSQLKeepsOperandsApartRow.holds Trym.pinned (OpenSpec.ofChange fnFieldsTakenSQLKeepsOperandsApartSpec)

/-- ITS FALSE NEIGHBOUR: 'it returns false'. Refute it at one input. -/
def fnFieldsTakenSQLKeepsOperandsApartWrong : ChangeSpec := { name := "fnFieldsTakenSQLKeepsOperandsApart", fn := fun _ => fun
  | [d1, d2, d3, d4] => { results := [.lit (.bool false)], args := [d1, d2, d3, d4] }
  | _ => none }
def FnFieldsTakenSQLKeepsOperandsApartWrongFalsely : Prop := fnFieldsTakenSQLKeepsOperandsApartRow.holds Trym.pinned (OpenSpec.ofChange fnFieldsTakenSQLKeepsOperandsApartWrong)

/-- 'zzlaws_node_b1.FnShownStripsTheDigest': WHATEVER THE INPUT: true; the input reads as it did. -/
def fnShownStripsTheDigestSpec : ChangeSpec := { name := "fnShownStripsTheDigest", fn := fun _ => fun
  | [d1, d2, d3] => { results := [.lit (.bool true)], args := [d1, d2, d3] }
  | _ => none }
def fnShownStripsTheDigestRow : OpenClaim := { program := "qxb6605842amods", sum := "2571212810b5eb679f2163186c310174fbf8bdd1a5820957006d014dd960ec23", func := "example.com/ledgerloom/ledgerloom/zzlaws_node_b1.FnShownStripsTheDigest", spec := "fnShownStripsTheDigest", plainKeys := false, make := .lifted ["publicsums"], apart := false }
def FnShownStripsTheDigestSaid : Prop := fnShownStripsTheDigestRow.holds Trym.pinned (OpenSpec.ofChange fnShownStripsTheDigestSpec)

/-- ITS FALSE NEIGHBOUR: 'it returns false'. Refute it at one input. -/
def fnShownStripsTheDigestWrong : ChangeSpec := { name := "fnShownStripsTheDigest", fn := fun _ => fun
  | [d1, d2, d3] => { results := [.lit (.bool false)], args := [d1, d2, d3] }
  | _ => none }
def FnShownStripsTheDigestWrongFalsely : Prop := fnShownStripsTheDigestRow.holds Trym.pinned (OpenSpec.ofChange fnShownStripsTheDigestWrong)

/-- 'zzlaws_node_b1.FnRowsDueWithMergesDueRowsInHashOrder': WHATEVER THE INPUT: true; the input reads as it did. -/
def fnRowsDueWithMergesDueRowsInHashOrderSpec : ChangeSpec := { name := "fnRowsDueWithMergesDueRowsInHashOrder", fn := fun _ => fun
  | [d1, d2, d3, d4, d5, d6, d7] => { results := [.lit (.bool true)], args := [d1, d2, d3, d4, d5, d6, d7] }
  | _ => none }
def fnRowsDueWithMergesDueRowsInHashOrderRow : OpenClaim := { program := "qxb6605842amods", sum := "2571212810b5eb679f2163186c310174fbf8bdd1a5820957006d014dd960ec23", func := "example.com/ledgerloom/ledgerloom/zzlaws_node_b1.FnRowsDueWithMergesDueRowsInHashOrder", spec := "fnRowsDueWithMergesDueRowsInHashOrder", inPlace := ["internal/bytealg.Compare", "internal/reflectlite.ValueOf", "internal/reflectlite.Swapper", "(internal/reflectlite.Value).Len"], unfollowed := true, recurses := true, plainKeys := false, make := .lifted ["publicsums"], apart := false }
def FnRowsDueWithMergesDueRowsInHashOrderSaid : Prop := fnRowsDueWithMergesDueRowsInHashOrderRow.holds Trym.pinned (OpenSpec.ofChange fnRowsDueWithMergesDueRowsInHashOrderSpec)

/-- ITS FALSE NEIGHBOUR: 'it returns false'. Refute it at one input. -/
def fnRowsDueWithMergesDueRowsInHashOrderWrong : ChangeSpec := { name := "fnRowsDueWithMergesDueRowsInHashOrder", fn := fun _ => fun
  | [d1, d2, d3, d4, d5, d6, d7] => { results := [.lit (.bool false)], args := [d1, d2, d3, d4, d5, d6, d7] }
  | _ => none }
def FnRowsDueWithMergesDueRowsInHashOrderWrongFalsely : Prop := fnRowsDueWithMergesDueRowsInHashOrderRow.holds Trym.pinned (OpenSpec.ofChange fnRowsDueWithMergesDueRowsInHashOrderWrong)

/-- 'zzlaws_node_b1.FnRowsDueWithKeepsTheTotal': WHATEVER THE INPUT: true; the input reads as it did. -/
def fnRowsDueWithKeepsTheTotalSpec : ChangeSpec := { name := "fnRowsDueWithKeepsTheTotal", fn := fun _ => fun
  | [d1, d2, d3, d4, d5, d6, d7] => { results := [.lit (.bool true)], args := [d1, d2, d3, d4, d5, d6, d7] }
  | _ => none }
def fnRowsDueWithKeepsTheTotalRow : OpenClaim := { program := "qxb6605842amods", sum := "2571212810b5eb679f2163186c310174fbf8bdd1a5820957006d014dd960ec23", func := "example.com/ledgerloom/ledgerloom/zzlaws_node_b1.FnRowsDueWithKeepsTheTotal", spec := "fnRowsDueWithKeepsTheTotal", inPlace := ["internal/bytealg.Compare", "internal/reflectlite.ValueOf", "internal/reflectlite.Swapper", "(internal/reflectlite.Value).Len"], unfollowed := true, recurses := true, plainKeys := false, make := .lifted ["publicsums"], apart := false }
def FnRowsDueWithKeepsTheTotalSaid : Prop := fnRowsDueWithKeepsTheTotalRow.holds Trym.pinned (OpenSpec.ofChange fnRowsDueWithKeepsTheTotalSpec)

/-- ITS FALSE NEIGHBOUR: 'it returns false'. Refute it at one input. -/
def fnRowsDueWithKeepsTheTotalWrong : ChangeSpec := { name := "fnRowsDueWithKeepsTheTotal", fn := fun _ => fun
  | [d1, d2, d3, d4, d5, d6, d7] => { results := [.lit (.bool false)], args := [d1, d2, d3, d4, d5, d6, d7] }
  | _ => none }
def FnRowsDueWithKeepsTheTotalWrongFalsely : Prop := fnRowsDueWithKeepsTheTotalRow.holds Trym.pinned (OpenSpec.ofChange fnRowsDueWithKeepsTheTotalWrong)

end Rows
end Go.Proofs.Qxb6605842aMods
