/-
  No cell of these rows narrows 'for every input' (looked for: loops, veiled, ifaces, maps, wideKeys, modest, calm, conditions, laid).
  DERIVED. THE GIVEN ROWS OF THIS SEAT. 1 by the template 'for every input the law returns true; each argument reads behind the call as it read before'; 0 by the template 'total and deterministic' (their statements: Qxb6604266aTotals.lean).
  GIVEN WITH THE SEED: the statements are not yours to turn. If you find one false, say at which input.
  Laid BY PROGRAM, IN A SANDBOX (cutbox-rows.mjs): the forced cells as the released guide's own fill.sh prints them over the translation a944b33dd8fcf76e… (all of the seat's roots in one cut). By AI agents, Wed Nov 11 2026. No macro, syntax, notation, axiom, sorry.
-/
import Derived.Test.Qxb6604266aChecked
import GoSem.Claim
import GoSem.ClaimJoined
import GoSem.ClaimMapViews
import Derived.JoinedTies
import Derived.KernelRfl
namespace Go.Proofs.Qxb6604266a
/- THE CELL 'sum', in the pinned program and in every row, IS THE sha256 OF THE DUMP (.gsa) THAT Qxb6604266aProg.lean LOADS. Nothing in Lean hashes anything: it is a label: what it is worth is what the hold of that sum in a sandbox is worth. -/
noncomputable def Try.pinned : Pinned := { name := "qxb6604266a", sum := "a944b33dd8fcf76e504718294f69db5e9831871a22d50d0cfd64657f9c64fa61", checked := Try.checked }
namespace Rows
def none {H : Type} : Left H := { results := [], args := [] }

/-- 'zzlaws_feature_b1.FnTaggedColumnsPicksFirstColumnOfEachNameInNameOrder': WHATEVER THE INPUT: true; the input reads as it did. -/
def fnTaggedColumnsPicksFirstColumnOfEachNameInNameOrderSpec : ChangeSpec := { name := "fnTaggedColumnsPicksFirstColumnOfEachNameInNameOrder", fn := fun _ => fun
  | [d1, d2] => { results := [.lit (.bool true)], args := [d1, d2] }
  | _ => none }
def fnTaggedColumnsPicksFirstColumnOfEachNameInNameOrderRow : OpenClaim := { program := "qxb6604266a", sum := "a944b33dd8fcf76e504718294f69db5e9831871a22d50d0cfd64657f9c64fa61", func := "example.com/chartloom/chartloom/zzlaws_feature_b1.FnTaggedColumnsPicksFirstColumnOfEachNameInNameOrder", spec := "fnTaggedColumnsPicksFirstColumnOfEachNameInNameOrder", apart := false }
def FnTaggedColumnsPicksFirstColumnOfEachNameInNameOrderSaid : Prop := fnTaggedColumnsPicksFirstColumnOfEachNameInNameOrderRow.holds Try.pinned (OpenSpec.ofChange fnTaggedColumnsPicksFirstColumnOfEachNameInNameOrderSpec)

/-- ITS FALSE NEIGHBOUR: 'it returns false'. Refute it at one input. -/
def fnTaggedColumnsPicksFirstColumnOfEachNameInNameOrderWrong : ChangeSpec := { name := "fnTaggedColumnsPicksFirstColumnOfEachNameInNameOrder", fn := fun _ => fun
  | [d1, d2] => { results := [.lit (.bool false)], args := [d1, d2] }
  | _ => none }
def FnTaggedColumnsPicksFirstColumnOfEachNameInNameOrderWrongFalsely : Prop := fnTaggedColumnsPicksFirstColumnOfEachNameInNameOrderRow.holds Try.pinned (OpenSpec.ofChange fnTaggedColumnsPicksFirstColumnOfEachNameInNameOrderWrong)

end Rows
end Go.Proofs.Qxb6604266a
