/-
  No cell of these rows narrows 'for every input' (looked for: loops, veiled, ifaces, maps, wideKeys, modest, calm, conditions, laid).
  DERIVED. THE GIVEN ROWS OF THIS SEAT. 2 by the template 'for every input the law returns true; each argument reads behind the call as it read before'; 0 by the template 'total and deterministic' (their statements: Qxb6617233aTotals.lean).
  GIVEN WITH THE SEED: the statements are not yours to turn. If you find one false, say at which input.
  Laid BY PROGRAM, IN A SANDBOX (cutbox-rows.mjs): the forced cells as the released guide's own fill.sh prints them over the translation 3531267e6e3aa976… (all of the seat's roots in one cut). By AI agents, Wed Nov 11 2026. No macro, syntax, notation, axiom, sorry.
-/
import Derived.Test.Qxb6617233aChecked
import GoSem.Claim
import GoSem.ClaimJoined
import GoSem.ClaimMapViews
import Derived.JoinedTies
import Derived.KernelRfl
namespace Go.Proofs.Qxb6617233a
/- THE CELL 'sum', in the pinned program and in every row, IS THE sha256 OF THE DUMP (.gsa) THAT Qxb6617233aProg.lean LOADS. Nothing in Lean hashes anything: it is a label: what it is worth is what the hold of that sum in a sandbox is worth. -/
noncomputable def Try.pinned : Pinned := { name := "qxb6617233a", sum := "3531267e6e3aa9767867b8ccb01e64957ebd37bbf792639ebdfde1aad8bb8644", checked := Try.checked }
namespace Rows
def none {H : Type} : Left H := { results := [], args := [] }

/-- 'zzlaws_root_b1.FnPrintableJoinIsAnd': WHATEVER THE INPUT: true; the input reads as it did. -/
def fnPrintableJoinIsAndSpec : ChangeSpec := { name := "fnPrintableJoinIsAnd", fn := fun _ => fun
  | [d1, d2] => { results := [.lit (.bool true)], args := [d1, d2] }
  | _ => none }
def fnPrintableJoinIsAndRow : OpenClaim := { program := "qxb6617233a", sum := "3531267e6e3aa9767867b8ccb01e64957ebd37bbf792639ebdfde1aad8bb8644", func := "example.com/hookseal/hookseal/zzlaws_root_b1.FnPrintableJoinIsAnd", spec := "fnPrintableJoinIsAnd", apart := false }
def FnPrintableJoinIsAndSaid : Prop := fnPrintableJoinIsAndRow.holds Try.pinned (OpenSpec.ofChange fnPrintableJoinIsAndSpec)

/-- ITS FALSE NEIGHBOUR: 'it returns false'. Refute it at one input. -/
def fnPrintableJoinIsAndWrong : ChangeSpec := { name := "fnPrintableJoinIsAnd", fn := fun _ => fun
  | [d1, d2] => { results := [.lit (.bool false)], args := [d1, d2] }
  | _ => none }
def FnPrintableJoinIsAndWrongFalsely : Prop := fnPrintableJoinIsAndRow.holds Try.pinned (OpenSpec.ofChange fnPrintableJoinIsAndWrong)

/-- 'zzlaws_root_b1.FnPrintableOneByteAnywhere': WHATEVER THE INPUT: true; the input reads as it did. -/
def fnPrintableOneByteAnywhereSpec : ChangeSpec := { name := "fnPrintableOneByteAnywhere", fn := fun _ => fun
  | [d1, d2, d3] => { results := [.lit (.bool true)], args := [d1, d2, d3] }
  | _ => none }
def fnPrintableOneByteAnywhereRow : OpenClaim := { program := "qxb6617233a", sum := "3531267e6e3aa9767867b8ccb01e64957ebd37bbf792639ebdfde1aad8bb8644", func := "example.com/hookseal/hookseal/zzlaws_root_b1.FnPrintableOneByteAnywhere", spec := "fnPrintableOneByteAnywhere", apart := false }
def FnPrintableOneByteAnywhereSaid : Prop := fnPrintableOneByteAnywhereRow.holds Try.pinned (OpenSpec.ofChange fnPrintableOneByteAnywhereSpec)

/-- ITS FALSE NEIGHBOUR: 'it returns false'. Refute it at one input. -/
def fnPrintableOneByteAnywhereWrong : ChangeSpec := { name := "fnPrintableOneByteAnywhere", fn := fun _ => fun
  | [d1, d2, d3] => { results := [.lit (.bool false)], args := [d1, d2, d3] }
  | _ => none }
def FnPrintableOneByteAnywhereWrongFalsely : Prop := fnPrintableOneByteAnywhereRow.holds Try.pinned (OpenSpec.ofChange fnPrintableOneByteAnywhereWrong)

end Rows
end Go.Proofs.Qxb6617233a
