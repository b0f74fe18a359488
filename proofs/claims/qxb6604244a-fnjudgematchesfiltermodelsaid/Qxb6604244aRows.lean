/-
  No cell of these rows narrows 'for every input' (looked for: loops, veiled, ifaces, maps, wideKeys, modest, calm, conditions, laid).
  DERIVED. THE GIVEN ROWS OF THIS SEAT. 4 by the template 'for every input the law returns true; each argument reads behind the call as it read before'; 0 by the template 'total and deterministic' (their statements: Qxb6604244aTotals.lean).
  GIVEN WITH THE SEED: the statements are not yours to turn. If you find one false, say at which input.
  Laid BY PROGRAM, IN A SANDBOX (cutbox-rows.mjs): the forced cells as the released guide's own fill.sh prints them over the translation 59809dff58fda74a… (all of the seat's roots in one cut). By AI agents, Wed Nov 11 2026. No macro, syntax, notation, axiom, sorry.
-/
import Derived.Test.Qxb6604244aChecked
import GoSem.Claim
import GoSem.ClaimJoined
import GoSem.ClaimMapViews
import Derived.JoinedTies
import Derived.KernelRfl
namespace Go.Proofs.Qxb6604244a
/- THE CELL 'sum', in the pinned program and in every row, IS THE sha256 OF THE DUMP (.gsa) THAT Qxb6604244aProg.lean LOADS. Nothing in Lean hashes anything: it is a label: what it is worth is what the hold of that sum in a sandbox is worth. -/
noncomputable def Try.pinned : Pinned := { name := "qxb6604244a", sum := "59809dff58fda74ac4d183c3cf9238ba5b54c6fffe80a32542efc75eb5c80d5c", checked := Try.checked }
namespace Rows
def none {H : Type} : Left H := { results := [], args := [] }

/-- 'zzlaws_root_b1.FnNextSubsetIsLexSuccessor': WHATEVER THE INPUT: true; the input reads as it did. -/
def fnNextSubsetIsLexSuccessorSpec : ChangeSpec := { name := "fnNextSubsetIsLexSuccessor", fn := fun _ => fun
  | [d1, d2] => { results := [.lit (.bool true)], args := [d1, d2] }
  | _ => none }
def fnNextSubsetIsLexSuccessorRow : OpenClaim := { program := "qxb6604244a", sum := "59809dff58fda74ac4d183c3cf9238ba5b54c6fffe80a32542efc75eb5c80d5c", func := "example.com/loyal-round/loyal-round/zzlaws_root_b1.FnNextSubsetIsLexSuccessor", spec := "fnNextSubsetIsLexSuccessor", apart := false }
def FnNextSubsetIsLexSuccessorSaid : Prop := fnNextSubsetIsLexSuccessorRow.holds Try.pinned (OpenSpec.ofChange fnNextSubsetIsLexSuccessorSpec)

/-- ITS FALSE NEIGHBOUR: 'it returns false'. Refute it at one input. -/
def fnNextSubsetIsLexSuccessorWrong : ChangeSpec := { name := "fnNextSubsetIsLexSuccessor", fn := fun _ => fun
  | [d1, d2] => { results := [.lit (.bool false)], args := [d1, d2] }
  | _ => none }
def FnNextSubsetIsLexSuccessorWrongFalsely : Prop := fnNextSubsetIsLexSuccessorRow.holds Try.pinned (OpenSpec.ofChange fnNextSubsetIsLexSuccessorWrong)

/-- 'zzlaws_root_b1.FnJudgeMatchesFilterModel': WHATEVER THE INPUT: true; the input reads as it did. -/
def fnJudgeMatchesFilterModelSpec : ChangeSpec := { name := "fnJudgeMatchesFilterModel", fn := fun _ => fun
  | [d1, d2, d3, d4, d5, d6, d7] => { results := [.lit (.bool true)], args := [d1, d2, d3, d4, d5, d6, d7] }
  | _ => none }
def fnJudgeMatchesFilterModelRow : OpenClaim := { program := "qxb6604244a", sum := "59809dff58fda74ac4d183c3cf9238ba5b54c6fffe80a32542efc75eb5c80d5c", func := "example.com/loyal-round/loyal-round/zzlaws_root_b1.FnJudgeMatchesFilterModel", spec := "fnJudgeMatchesFilterModel", apart := false }
def FnJudgeMatchesFilterModelSaid : Prop := fnJudgeMatchesFilterModelRow.holds Try.pinned (OpenSpec.ofChange fnJudgeMatchesFilterModelSpec)

/-- ITS FALSE NEIGHBOUR: 'it returns false'. Refute it at one input. -/
def fnJudgeMatchesFilterModelWrong : ChangeSpec := { name := "fnJudgeMatchesFilterModel", fn := fun _ => fun
  | [d1, d2, d3, d4, d5, d6, d7] => { results := [.lit (.bool false)], args := [d1, d2, d3, d4, d5, d6, d7] }
  | _ => none }
def FnJudgeMatchesFilterModelWrongFalsely : Prop := fnJudgeMatchesFilterModelRow.holds Try.pinned (OpenSpec.ofChange fnJudgeMatchesFilterModelWrong)

/-- 'zzlaws_root_b1.FnConsensusTermsMatchesModel': WHATEVER THE INPUT: true; the input reads as it did. -/
def fnConsensusTermsMatchesModelSpec : ChangeSpec := { name := "fnConsensusTermsMatchesModel", fn := fun _ => fun
  | [d1, d2, d3] => { results := [.lit (.bool true)], args := [d1, d2, d3] }
  | _ => none }
def fnConsensusTermsMatchesModelRow : OpenClaim := { program := "qxb6604244a", sum := "59809dff58fda74ac4d183c3cf9238ba5b54c6fffe80a32542efc75eb5c80d5c", func := "example.com/loyal-round/loyal-round/zzlaws_root_b1.FnConsensusTermsMatchesModel", spec := "fnConsensusTermsMatchesModel", apart := false }
def FnConsensusTermsMatchesModelSaid : Prop := fnConsensusTermsMatchesModelRow.holds Try.pinned (OpenSpec.ofChange fnConsensusTermsMatchesModelSpec)

/-- ITS FALSE NEIGHBOUR: 'it returns false'. Refute it at one input. -/
def fnConsensusTermsMatchesModelWrong : ChangeSpec := { name := "fnConsensusTermsMatchesModel", fn := fun _ => fun
  | [d1, d2, d3] => { results := [.lit (.bool false)], args := [d1, d2, d3] }
  | _ => none }
def FnConsensusTermsMatchesModelWrongFalsely : Prop := fnConsensusTermsMatchesModelRow.holds Try.pinned (OpenSpec.ofChange fnConsensusTermsMatchesModelWrong)

/-- 'zzlaws_root_b1.FnConsensusUnanimousRunHolds': WHATEVER THE INPUT: true; the input reads as it did. -/
def fnConsensusUnanimousRunHoldsSpec : ChangeSpec := { name := "fnConsensusUnanimousRunHolds", fn := fun _ => fun
  | [d1, d2, d3, d4, d5] => { results := [.lit (.bool true)], args := [d1, d2, d3, d4, d5] }
  | _ => none }
def fnConsensusUnanimousRunHoldsRow : OpenClaim := { program := "qxb6604244a", sum := "59809dff58fda74ac4d183c3cf9238ba5b54c6fffe80a32542efc75eb5c80d5c", func := "example.com/loyal-round/loyal-round/zzlaws_root_b1.FnConsensusUnanimousRunHolds", spec := "fnConsensusUnanimousRunHolds", apart := false }
def FnConsensusUnanimousRunHoldsSaid : Prop := fnConsensusUnanimousRunHoldsRow.holds Try.pinned (OpenSpec.ofChange fnConsensusUnanimousRunHoldsSpec)

/-- ITS FALSE NEIGHBOUR: 'it returns false'. Refute it at one input. -/
def fnConsensusUnanimousRunHoldsWrong : ChangeSpec := { name := "fnConsensusUnanimousRunHolds", fn := fun _ => fun
  | [d1, d2, d3, d4, d5] => { results := [.lit (.bool false)], args := [d1, d2, d3, d4, d5] }
  | _ => none }
def FnConsensusUnanimousRunHoldsWrongFalsely : Prop := fnConsensusUnanimousRunHoldsRow.holds Try.pinned (OpenSpec.ofChange fnConsensusUnanimousRunHoldsWrong)

end Rows
end Go.Proofs.Qxb6604244a
