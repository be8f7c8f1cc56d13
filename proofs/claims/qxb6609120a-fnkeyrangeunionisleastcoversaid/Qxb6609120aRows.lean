/-
  No cell of these rows narrows 'for every input' (looked for: loops, veiled, ifaces, maps, wideKeys, modest, calm, conditions, laid).
  DERIVED. THE GIVEN ROWS OF THIS SEAT. 2 by the template 'for every input the law returns true; each argument reads behind the call as it read before'; 0 by the template 'total and deterministic' (their statements: Qxb6609120aTotals.lean).
  GIVEN WITH THE SEED: the statements are not yours to turn. If you find one false, say at which input.
  Laid BY PROGRAM, IN A SANDBOX (cutbox-rows.mjs): the forced cells as the released guide's own fill.sh prints them over the translation dbe8672db5ee0f36… (all of the seat's roots in one cut). By AI agents, Wed Nov 11 2026. No macro, syntax, notation, axiom, sorry.
-/
import Derived.Test.Qxb6609120aChecked
import GoSem.Claim
import GoSem.ClaimJoined
import GoSem.ClaimMapViews
import Derived.JoinedTies
import Derived.KernelRfl
namespace Go.Proofs.Qxb6609120a
/- THE CELL 'sum', in the pinned program and in every row, IS THE sha256 OF THE DUMP (.gsa) THAT Qxb6609120aProg.lean LOADS. Nothing in Lean hashes anything: it is a label: what it is worth is what the hold of that sum in a sandbox is worth. -/
noncomputable def Try.pinned : Pinned := { name := "qxb6609120a", sum := "dbe8672db5ee0f3685c01e7abaffd8d329308f4f2dbbdbfed210f5664ab895da", checked := Try.checked }
namespace Rows
def none {H : Type} : Left H := { results := [], args := [] }

/-- 'zzlaws_root_b1.FnKeyRangeUnionIsLeastCover': WHATEVER THE INPUT: true; the input reads as it did. -/
def fnKeyRangeUnionIsLeastCoverSpec : ChangeSpec := { name := "fnKeyRangeUnionIsLeastCover", fn := fun _ => fun
  | [d1, d2, d3, d4, d5, d6] => { results := [.lit (.bool true)], args := [d1, d2, d3, d4, d5, d6] }
  | _ => none }
def fnKeyRangeUnionIsLeastCoverRow : OpenClaim := { program := "qxb6609120a", sum := "dbe8672db5ee0f3685c01e7abaffd8d329308f4f2dbbdbfed210f5664ab895da", func := "example.com/lithify/lithify/zzlaws_root_b1.FnKeyRangeUnionIsLeastCover", spec := "fnKeyRangeUnionIsLeastCover", apart := false }
def FnKeyRangeUnionIsLeastCoverSaid : Prop := fnKeyRangeUnionIsLeastCoverRow.holds Try.pinned (OpenSpec.ofChange fnKeyRangeUnionIsLeastCoverSpec)

/-- ITS FALSE NEIGHBOUR: 'it returns false'. Refute it at one input. -/
def fnKeyRangeUnionIsLeastCoverWrong : ChangeSpec := { name := "fnKeyRangeUnionIsLeastCover", fn := fun _ => fun
  | [d1, d2, d3, d4, d5, d6] => { results := [.lit (.bool false)], args := [d1, d2, d3, d4, d5, d6] }
  | _ => none }
def FnKeyRangeUnionIsLeastCoverWrongFalsely : Prop := fnKeyRangeUnionIsLeastCoverRow.holds Try.pinned (OpenSpec.ofChange fnKeyRangeUnionIsLeastCoverWrong)

/-- 'zzlaws_root_b1.FnKeyRangeUnionHullOfThree': WHATEVER THE INPUT: true; the input reads as it did. -/
def fnKeyRangeUnionHullOfThreeSpec : ChangeSpec := { name := "fnKeyRangeUnionHullOfThree", fn := fun _ => fun
  | [d1, d2, d3, d4, d5, d6] => { results := [.lit (.bool true)], args := [d1, d2, d3, d4, d5, d6] }
  | _ => none }
def fnKeyRangeUnionHullOfThreeRow : OpenClaim := { program := "qxb6609120a", sum := "dbe8672db5ee0f3685c01e7abaffd8d329308f4f2dbbdbfed210f5664ab895da", func := "example.com/lithify/lithify/zzlaws_root_b1.FnKeyRangeUnionHullOfThree", spec := "fnKeyRangeUnionHullOfThree", apart := false }
def FnKeyRangeUnionHullOfThreeSaid : Prop := fnKeyRangeUnionHullOfThreeRow.holds Try.pinned (OpenSpec.ofChange fnKeyRangeUnionHullOfThreeSpec)

/-- ITS FALSE NEIGHBOUR: 'it returns false'. Refute it at one input. -/
def fnKeyRangeUnionHullOfThreeWrong : ChangeSpec := { name := "fnKeyRangeUnionHullOfThree", fn := fun _ => fun
  | [d1, d2, d3, d4, d5, d6] => { results := [.lit (.bool false)], args := [d1, d2, d3, d4, d5, d6] }
  | _ => none }
def FnKeyRangeUnionHullOfThreeWrongFalsely : Prop := fnKeyRangeUnionHullOfThreeRow.holds Try.pinned (OpenSpec.ofChange fnKeyRangeUnionHullOfThreeWrong)

end Rows
end Go.Proofs.Qxb6609120a
