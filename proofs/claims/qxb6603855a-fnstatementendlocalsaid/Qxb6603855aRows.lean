/-
  No cell of these rows narrows 'for every input' (looked for: loops, veiled, ifaces, maps, wideKeys, modest, calm, conditions, laid).
  DERIVED. THE GIVEN ROWS OF THIS SEAT. 2 by the template 'for every input the law returns true; each argument reads behind the call as it read before'; 0 by the template 'total and deterministic' (their statements: Qxb6603855aTotals.lean).
  GIVEN WITH THE SEED: the statements are not yours to turn. If you find one false, say at which input.
  Laid BY PROGRAM, IN A SANDBOX (cutbox-rows.mjs): the forced cells as the released guide's own fill.sh prints them over the translation 7581010d103ae74a… (all of the seat's roots in one cut). By AI agents, Wed Nov 11 2026. No macro, syntax, notation, axiom, sorry.
-/
import Derived.Test.Qxb6603855aChecked
import GoSem.Claim
import GoSem.ClaimJoined
import GoSem.ClaimMapViews
import Derived.JoinedTies
import Derived.KernelRfl
namespace Go.Proofs.Qxb6603855a
/- THE CELL 'sum', in the pinned program and in every row, IS THE sha256 OF THE DUMP (.gsa) THAT Qxb6603855aProg.lean LOADS. Nothing in Lean hashes anything: it is a label: what it is worth is what the hold of that sum in a sandbox is worth. -/
noncomputable def Try.pinned : Pinned := { name := "qxb6603855a", sum := "7581010d103ae74a3426665c9472eb3e92c827ba5045ac1441c6a656c6e02121", checked := Try.checked }
namespace Rows
def none {H : Type} : Left H := { results := [], args := [] }

/-- 'zzlaws_migration_b1.FnStatementEndLandsOnSemicolon': WHATEVER THE INPUT: true; the input reads as it did. -/
def fnStatementEndLandsOnSemicolonSpec : ChangeSpec := { name := "fnStatementEndLandsOnSemicolon", fn := fun _ => fun
  | [d1, d2, d3, d4] => { results := [.lit (.bool true)], args := [d1, d2, d3, d4] }
  | _ => none }
def fnStatementEndLandsOnSemicolonRow : OpenClaim := { program := "qxb6603855a", sum := "7581010d103ae74a3426665c9472eb3e92c827ba5045ac1441c6a656c6e02121", func := "example.com/volvox/volvox/zzlaws_migration_b1.FnStatementEndLandsOnSemicolon", spec := "fnStatementEndLandsOnSemicolon", recurses := true, apart := false }
def FnStatementEndLandsOnSemicolonSaid : Prop := fnStatementEndLandsOnSemicolonRow.holds Try.pinned (OpenSpec.ofChange fnStatementEndLandsOnSemicolonSpec)

/-- ITS FALSE NEIGHBOUR: 'it returns false'. Refute it at one input. -/
def fnStatementEndLandsOnSemicolonWrong : ChangeSpec := { name := "fnStatementEndLandsOnSemicolon", fn := fun _ => fun
  | [d1, d2, d3, d4] => { results := [.lit (.bool false)], args := [d1, d2, d3, d4] }
  | _ => none }
def FnStatementEndLandsOnSemicolonWrongFalsely : Prop := fnStatementEndLandsOnSemicolonRow.holds Try.pinned (OpenSpec.ofChange fnStatementEndLandsOnSemicolonWrong)

/-- 'zzlaws_migration_b1.FnStatementEndLocal': WHATEVER THE INPUT: true; the input reads as it did. -/
def fnStatementEndLocalSpec : ChangeSpec := { name := "fnStatementEndLocal", fn := fun _ => fun
  | [d1, d2, d3, d4] => { results := [.lit (.bool true)], args := [d1, d2, d3, d4] }
  | _ => none }
def fnStatementEndLocalRow : OpenClaim := { program := "qxb6603855a", sum := "7581010d103ae74a3426665c9472eb3e92c827ba5045ac1441c6a656c6e02121", func := "example.com/volvox/volvox/zzlaws_migration_b1.FnStatementEndLocal", spec := "fnStatementEndLocal", recurses := true, apart := false }
def FnStatementEndLocalSaid : Prop := fnStatementEndLocalRow.holds Try.pinned (OpenSpec.ofChange fnStatementEndLocalSpec)

/-- ITS FALSE NEIGHBOUR: 'it returns false'. Refute it at one input. -/
def fnStatementEndLocalWrong : ChangeSpec := { name := "fnStatementEndLocal", fn := fun _ => fun
  | [d1, d2, d3, d4] => { results := [.lit (.bool false)], args := [d1, d2, d3, d4] }
  | _ => none }
def FnStatementEndLocalWrongFalsely : Prop := fnStatementEndLocalRow.holds Try.pinned (OpenSpec.ofChange fnStatementEndLocalWrong)

end Rows
end Go.Proofs.Qxb6603855a
