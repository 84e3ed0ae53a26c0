/-
  No cell of these rows narrows 'for every input' (looked for: loops, veiled, ifaces, maps, wideKeys, modest, calm, conditions, laid).
  DERIVED. THE GIVEN ROWS OF THIS SEAT. 4 by the template 'for every input the law returns true; each argument reads behind the call as it read before'; 0 by the template 'total and deterministic' (their statements: Qxb6619250aTotals.lean).
  GIVEN WITH THE SEED: the statements are not yours to turn. If you find one false, say at which input.
  Laid BY PROGRAM, IN A SANDBOX (cutbox-rows.mjs): the forced cells as the released guide's own fill.sh prints them over the translation 3295286cfb35858a… (all of the seat's roots in one cut). By AI agents, Wed Nov 11 2026. No macro, syntax, notation, axiom, sorry.
-/
import Derived.Test.Qxb6619250aChecked
import GoSem.Claim
import GoSem.ClaimJoined
import GoSem.ClaimMapViews
import Derived.JoinedTies
import Derived.KernelRfl
namespace Go.Proofs.Qxb6619250a
/- THE CELL 'sum', in the pinned program and in every row, IS THE sha256 OF THE DUMP (.gsa) THAT Qxb6619250aProg.lean LOADS. Nothing in Lean hashes anything: it is a label: what it is worth is what the hold of that sum in a sandbox is worth. -/
noncomputable def Try.pinned : Pinned := { name := "qxb6619250a", sum := "3295286cfb35858adeb5e4f905255d5c019b483e2b69d18b132bd3c26a2e32a5", checked := Try.checked }
namespace Rows
def none {H : Type} : Left H := { results := [], args := [] }

/-- 'zzlaws_internal_exact_b1.FnIsDecimalMatchesGrammar': WHATEVER THE INPUT: true; the input reads as it did. -/
def fnIsDecimalMatchesGrammarSpec : ChangeSpec := { name := "fnIsDecimalMatchesGrammar", fn := fun _ => fun
  | [d] => { results := [.lit (.bool true)], args := [d] }
  | _ => none }
def fnIsDecimalMatchesGrammarRow : OpenClaim := { program := "qxb6619250a", sum := "3295286cfb35858adeb5e4f905255d5c019b483e2b69d18b132bd3c26a2e32a5", func := "example.com/kvitto/kvitto/zzlaws_internal_exact_b1.FnIsDecimalMatchesGrammar", spec := "fnIsDecimalMatchesGrammar", apart := false }
def FnIsDecimalMatchesGrammarSaid : Prop := fnIsDecimalMatchesGrammarRow.holds Try.pinned (OpenSpec.ofChange fnIsDecimalMatchesGrammarSpec)

/-- ITS FALSE NEIGHBOUR: 'it returns false'. Refute it at one input. -/
def fnIsDecimalMatchesGrammarWrong : ChangeSpec := { name := "fnIsDecimalMatchesGrammar", fn := fun _ => fun
  | [d] => { results := [.lit (.bool false)], args := [d] }
  | _ => none }
def FnIsDecimalMatchesGrammarWrongFalsely : Prop := fnIsDecimalMatchesGrammarRow.holds Try.pinned (OpenSpec.ofChange fnIsDecimalMatchesGrammarWrong)

/-- 'zzlaws_internal_exact_b1.FnIsDecimalJoinAtPoint': WHATEVER THE INPUT: true; the input reads as it did. -/
def fnIsDecimalJoinAtPointSpec : ChangeSpec := { name := "fnIsDecimalJoinAtPoint", fn := fun _ => fun
  | [d1, d2] => { results := [.lit (.bool true)], args := [d1, d2] }
  | _ => none }
def fnIsDecimalJoinAtPointRow : OpenClaim := { program := "qxb6619250a", sum := "3295286cfb35858adeb5e4f905255d5c019b483e2b69d18b132bd3c26a2e32a5", func := "example.com/kvitto/kvitto/zzlaws_internal_exact_b1.FnIsDecimalJoinAtPoint", spec := "fnIsDecimalJoinAtPoint", apart := false }
def FnIsDecimalJoinAtPointSaid : Prop := fnIsDecimalJoinAtPointRow.holds Try.pinned (OpenSpec.ofChange fnIsDecimalJoinAtPointSpec)

/-- ITS FALSE NEIGHBOUR: 'it returns false'. Refute it at one input. -/
def fnIsDecimalJoinAtPointWrong : ChangeSpec := { name := "fnIsDecimalJoinAtPoint", fn := fun _ => fun
  | [d1, d2] => { results := [.lit (.bool false)], args := [d1, d2] }
  | _ => none }
def FnIsDecimalJoinAtPointWrongFalsely : Prop := fnIsDecimalJoinAtPointRow.holds Try.pinned (OpenSpec.ofChange fnIsDecimalJoinAtPointWrong)

/-- 'zzlaws_internal_exact_b1.FnAbsEvenAndNearestResidue': WHATEVER THE INPUT: true; the input reads as it did. -/
def fnAbsEvenAndNearestResidueSpec : ChangeSpec := { name := "fnAbsEvenAndNearestResidue", fn := fun _ => fun
  | [d] => { results := [.lit (.bool true)], args := [d] }
  | _ => none }
def fnAbsEvenAndNearestResidueRow : OpenClaim := { program := "qxb6619250a", sum := "3295286cfb35858adeb5e4f905255d5c019b483e2b69d18b132bd3c26a2e32a5", func := "example.com/kvitto/kvitto/zzlaws_internal_exact_b1.FnAbsEvenAndNearestResidue", spec := "fnAbsEvenAndNearestResidue", apart := false }
def FnAbsEvenAndNearestResidueSaid : Prop := fnAbsEvenAndNearestResidueRow.holds Try.pinned (OpenSpec.ofChange fnAbsEvenAndNearestResidueSpec)

/-- ITS FALSE NEIGHBOUR: 'it returns false'. Refute it at one input. -/
def fnAbsEvenAndNearestResidueWrong : ChangeSpec := { name := "fnAbsEvenAndNearestResidue", fn := fun _ => fun
  | [d] => { results := [.lit (.bool false)], args := [d] }
  | _ => none }
def FnAbsEvenAndNearestResidueWrongFalsely : Prop := fnAbsEvenAndNearestResidueRow.holds Try.pinned (OpenSpec.ofChange fnAbsEvenAndNearestResidueWrong)

/-- 'zzlaws_internal_exact_b1.FnAbsOverSums': WHATEVER THE INPUT: true; the input reads as it did. -/
def fnAbsOverSumsSpec : ChangeSpec := { name := "fnAbsOverSums", fn := fun _ => fun
  | [d1, d2] => { results := [.lit (.bool true)], args := [d1, d2] }
  | _ => none }
def fnAbsOverSumsRow : OpenClaim := { program := "qxb6619250a", sum := "3295286cfb35858adeb5e4f905255d5c019b483e2b69d18b132bd3c26a2e32a5", func := "example.com/kvitto/kvitto/zzlaws_internal_exact_b1.FnAbsOverSums", spec := "fnAbsOverSums", apart := false }
def FnAbsOverSumsSaid : Prop := fnAbsOverSumsRow.holds Try.pinned (OpenSpec.ofChange fnAbsOverSumsSpec)

/-- ITS FALSE NEIGHBOUR: 'it returns false'. Refute it at one input. -/
def fnAbsOverSumsWrong : ChangeSpec := { name := "fnAbsOverSums", fn := fun _ => fun
  | [d1, d2] => { results := [.lit (.bool false)], args := [d1, d2] }
  | _ => none }
def FnAbsOverSumsWrongFalsely : Prop := fnAbsOverSumsRow.holds Try.pinned (OpenSpec.ofChange fnAbsOverSumsWrong)

end Rows
end Go.Proofs.Qxb6619250a
