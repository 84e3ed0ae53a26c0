/-
  No cell of these rows narrows 'for every input' (looked for: loops, veiled, ifaces, maps, wideKeys, modest, calm, conditions, laid).
  DERIVED. THE GIVEN ROWS OF THIS SEAT. 2 by the template 'for every input the law returns true; each argument reads behind the call as it read before'; 0 by the template 'total and deterministic' (their statements: Qxb6617956aTotals.lean).
  GIVEN WITH THE SEED: the statements are not yours to turn. If you find one false, say at which input.
  Laid BY PROGRAM, IN A SANDBOX (cutbox-rows.mjs): the forced cells as the released guide's own fill.sh prints them over the translation b44edb845d21c624… (all of the seat's roots in one cut). By AI agents, Wed Nov 11 2026. No macro, syntax, notation, axiom, sorry.
-/
import Derived.Test.Qxb6617956aChecked
import GoSem.Claim
import GoSem.ClaimJoined
import GoSem.ClaimMapViews
import Derived.JoinedTies
import Derived.KernelRfl
namespace Go.Proofs.Qxb6617956a
/- THE CELL 'sum', in the pinned program and in every row, IS THE sha256 OF THE DUMP (.gsa) THAT Qxb6617956aProg.lean LOADS. Nothing in Lean hashes anything: it is a label: what it is worth is what the hold of that sum in a sandbox is worth. -/
noncomputable def Try.pinned : Pinned := { name := "qxb6617956a", sum := "b44edb845d21c6244c5ee504fb9e224a681d0a60b770b976fdb98d5ba2ce93d4", checked := Try.checked }
namespace Rows
def none {H : Type} : Left H := { results := [], args := [] }

/-- 'zzlaws_ignore_b1.FnTrimTrailingSpacesIsShortestUnescapedCut': WHATEVER THE INPUT: true; the input reads as it did. -/
def fnTrimTrailingSpacesIsShortestUnescapedCutSpec : ChangeSpec := { name := "fnTrimTrailingSpacesIsShortestUnescapedCut", fn := fun _ => fun
  | [d] => { results := [.lit (.bool true)], args := [d] }
  | _ => none }
def fnTrimTrailingSpacesIsShortestUnescapedCutRow : OpenClaim := { program := "qxb6617956a", sum := "b44edb845d21c6244c5ee504fb9e224a681d0a60b770b976fdb98d5ba2ce93d4", func := "example.com/tidemark/tidemark/zzlaws_ignore_b1.FnTrimTrailingSpacesIsShortestUnescapedCut", spec := "fnTrimTrailingSpacesIsShortestUnescapedCut", apart := false }
def FnTrimTrailingSpacesIsShortestUnescapedCutSaid : Prop := fnTrimTrailingSpacesIsShortestUnescapedCutRow.holds Try.pinned (OpenSpec.ofChange fnTrimTrailingSpacesIsShortestUnescapedCutSpec)

/-- ITS FALSE NEIGHBOUR: 'it returns false'. Refute it at one input. -/
def fnTrimTrailingSpacesIsShortestUnescapedCutWrong : ChangeSpec := { name := "fnTrimTrailingSpacesIsShortestUnescapedCut", fn := fun _ => fun
  | [d] => { results := [.lit (.bool false)], args := [d] }
  | _ => none }
def FnTrimTrailingSpacesIsShortestUnescapedCutWrongFalsely : Prop := fnTrimTrailingSpacesIsShortestUnescapedCutRow.holds Try.pinned (OpenSpec.ofChange fnTrimTrailingSpacesIsShortestUnescapedCutWrong)

/-- 'zzlaws_ignore_b1.FnTrimTrailingSpacesJoin': WHATEVER THE INPUT: true; the input reads as it did. -/
def fnTrimTrailingSpacesJoinSpec : ChangeSpec := { name := "fnTrimTrailingSpacesJoin", fn := fun _ => fun
  | [d1, d2] => { results := [.lit (.bool true)], args := [d1, d2] }
  | _ => none }
def fnTrimTrailingSpacesJoinRow : OpenClaim := { program := "qxb6617956a", sum := "b44edb845d21c6244c5ee504fb9e224a681d0a60b770b976fdb98d5ba2ce93d4", func := "example.com/tidemark/tidemark/zzlaws_ignore_b1.FnTrimTrailingSpacesJoin", spec := "fnTrimTrailingSpacesJoin", apart := false }
def FnTrimTrailingSpacesJoinSaid : Prop := fnTrimTrailingSpacesJoinRow.holds Try.pinned (OpenSpec.ofChange fnTrimTrailingSpacesJoinSpec)

/-- ITS FALSE NEIGHBOUR: 'it returns false'. Refute it at one input. -/
def fnTrimTrailingSpacesJoinWrong : ChangeSpec := { name := "fnTrimTrailingSpacesJoin", fn := fun _ => fun
  | [d1, d2] => { results := [.lit (.bool false)], args := [d1, d2] }
  | _ => none }
def FnTrimTrailingSpacesJoinWrongFalsely : Prop := fnTrimTrailingSpacesJoinRow.holds Try.pinned (OpenSpec.ofChange fnTrimTrailingSpacesJoinWrong)

end Rows
end Go.Proofs.Qxb6617956a
