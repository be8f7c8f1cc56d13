/-
  NARROWER THAN 'FOR EVERY INPUT', by the rows' own cells (each row's printed sentence says how): FnEncodeEditCollectSplitsAtAnyCut: laid · FnAddedWalkRanksAgainstOld: laid · FnSegmentWithDeadSplitBatch: laid · FnSegmentWithDeadFirstDeathKept: laid.
  DERIVED. THE GIVEN ROWS OF THIS SEAT. 4 by the template 'for every input the law returns true; each argument reads behind the call as it read before'; 0 by the template 'total and deterministic' (their statements: Qxb6609120aDoorTotals.lean).
  GIVEN WITH THE SEED: the statements are not yours to turn. If you find one false, say at which input.
  Laid BY PROGRAM, IN A SANDBOX (cutbox-rows.mjs): the forced cells as the released guide's own fill.sh prints them over the translation 19dc3dfcc7e1effa… (all of the seat's roots in one cut). By AI agents, Wed Nov 11 2026. No macro, syntax, notation, axiom, sorry.
-/
import Derived.Test.Qxb6609120aDoorChecked
import GoSem.Claim
import GoSem.ClaimJoined
import GoSem.ClaimMapViews
import Derived.JoinedTies
import Derived.KernelRfl
namespace Go.Proofs.Qxb6609120aDoor
/- THE CELL 'sum', in the pinned program and in every row, IS THE sha256 OF THE DUMP (.gsa) THAT Qxb6609120aDoorProg.lean LOADS. Nothing in Lean hashes anything: it is a label: what it is worth is what the hold of that sum in a sandbox is worth. -/
noncomputable def Tryd.pinned : Pinned := { name := "qxb6609120adoor", sum := "19dc3dfcc7e1effa10cb8d922e7b377c8d6517711789e9c817d67da0cd919ef5", checked := Tryd.checked }
namespace Rows
def none {H : Type} : Left H := { results := [], args := [] }

/- WHAT THE LISTED PACKAGE-LEVEL VARIABLES READ AS WHEN THE CALL BEGINS. Each datum BY PROGRAM (the guide's laid-datum.mjs) off the statement by which the dump's own 'gosem.cut.vars' lays the variable. In a bare row this is a premise. The card (Qxb6609120aDoorCards.lean) ties it to the program's text. -/
def laid_math_bits_deBruijn64tab {H : Type} : DataW H := .agg [.lit (.int .u8 0), .lit (.int .u8 1), .lit (.int .u8 56), .lit (.int .u8 2), .lit (.int .u8 57), .lit (.int .u8 49), .lit (.int .u8 28), .lit (.int .u8 3), .lit (.int .u8 61), .lit (.int .u8 58), .lit (.int .u8 42), .lit (.int .u8 50), .lit (.int .u8 38), .lit (.int .u8 29), .lit (.int .u8 17), .lit (.int .u8 4), .lit (.int .u8 62), .lit (.int .u8 47), .lit (.int .u8 59), .lit (.int .u8 36), .lit (.int .u8 45), .lit (.int .u8 43), .lit (.int .u8 51), .lit (.int .u8 22), .lit (.int .u8 53), .lit (.int .u8 39), .lit (.int .u8 33), .lit (.int .u8 30), .lit (.int .u8 24), .lit (.int .u8 18), .lit (.int .u8 12), .lit (.int .u8 5), .lit (.int .u8 63), .lit (.int .u8 55), .lit (.int .u8 48), .lit (.int .u8 27), .lit (.int .u8 60), .lit (.int .u8 41), .lit (.int .u8 37), .lit (.int .u8 16), .lit (.int .u8 46), .lit (.int .u8 35), .lit (.int .u8 44), .lit (.int .u8 21), .lit (.int .u8 52), .lit (.int .u8 32), .lit (.int .u8 23), .lit (.int .u8 11), .lit (.int .u8 54), .lit (.int .u8 26), .lit (.int .u8 40), .lit (.int .u8 15), .lit (.int .u8 34), .lit (.int .u8 20), .lit (.int .u8 31), .lit (.int .u8 10), .lit (.int .u8 25), .lit (.int .u8 14), .lit (.int .u8 19), .lit (.int .u8 9), .lit (.int .u8 13), .lit (.int .u8 8), .lit (.int .u8 7), .lit (.int .u8 6)]

/-- 'zzlaws_root_b1.FnEncodeEditCollectSplitsAtAnyCut': WHATEVER THE INPUT: true; the input reads as it did. -/
def fnEncodeEditCollectSplitsAtAnyCutSpec : ChangeSpec := { name := "fnEncodeEditCollectSplitsAtAnyCut", fn := fun _ => fun
  | [d1, d2] => { results := [.lit (.bool true)], args := [d1, d2] }
  | _ => none }
def fnEncodeEditCollectSplitsAtAnyCutRow : OpenClaim := { program := "qxb6609120adoor", sum := "19dc3dfcc7e1effa10cb8d922e7b377c8d6517711789e9c817d67da0cd919ef5", func := "example.com/lithify/lithify/zzlaws_root_b1.FnEncodeEditCollectSplitsAtAnyCut", spec := "fnEncodeEditCollectSplitsAtAnyCut", unfollowed := true, recurses := true, named := ["encoding/binary.LittleEndian", "math/bits.deBruijn64tab"], apart := false, laid := [("math/bits.deBruijn64tab", laid_math_bits_deBruijn64tab)] }
def FnEncodeEditCollectSplitsAtAnyCutSaid : Prop := fnEncodeEditCollectSplitsAtAnyCutRow.holds Tryd.pinned (OpenSpec.ofChange fnEncodeEditCollectSplitsAtAnyCutSpec)

/-- ITS FALSE NEIGHBOUR: 'it returns false'. Refute it at one input. -/
def fnEncodeEditCollectSplitsAtAnyCutWrong : ChangeSpec := { name := "fnEncodeEditCollectSplitsAtAnyCut", fn := fun _ => fun
  | [d1, d2] => { results := [.lit (.bool false)], args := [d1, d2] }
  | _ => none }
def FnEncodeEditCollectSplitsAtAnyCutWrongFalsely : Prop := fnEncodeEditCollectSplitsAtAnyCutRow.holds Tryd.pinned (OpenSpec.ofChange fnEncodeEditCollectSplitsAtAnyCutWrong)

/-- 'zzlaws_root_b1.FnAddedWalkRanksAgainstOld': WHATEVER THE INPUT: true; the input reads as it did. -/
def fnAddedWalkRanksAgainstOldSpec : ChangeSpec := { name := "fnAddedWalkRanksAgainstOld", fn := fun _ => fun
  | [d1, d2, d3, d4] => { results := [.lit (.bool true)], args := [d1, d2, d3, d4] }
  | _ => none }
def fnAddedWalkRanksAgainstOldRow : OpenClaim := { program := "qxb6609120adoor", sum := "19dc3dfcc7e1effa10cb8d922e7b377c8d6517711789e9c817d67da0cd919ef5", func := "example.com/lithify/lithify/zzlaws_root_b1.FnAddedWalkRanksAgainstOld", spec := "fnAddedWalkRanksAgainstOld", unfollowed := true, recurses := true, named := ["math/bits.deBruijn64tab"], apart := false, laid := [("math/bits.deBruijn64tab", laid_math_bits_deBruijn64tab)] }
def FnAddedWalkRanksAgainstOldSaid : Prop := fnAddedWalkRanksAgainstOldRow.holds Tryd.pinned (OpenSpec.ofChange fnAddedWalkRanksAgainstOldSpec)

/-- ITS FALSE NEIGHBOUR: 'it returns false'. Refute it at one input. -/
def fnAddedWalkRanksAgainstOldWrong : ChangeSpec := { name := "fnAddedWalkRanksAgainstOld", fn := fun _ => fun
  | [d1, d2, d3, d4] => { results := [.lit (.bool false)], args := [d1, d2, d3, d4] }
  | _ => none }
def FnAddedWalkRanksAgainstOldWrongFalsely : Prop := fnAddedWalkRanksAgainstOldRow.holds Tryd.pinned (OpenSpec.ofChange fnAddedWalkRanksAgainstOldWrong)

/-- 'zzlaws_root_b1.FnSegmentWithDeadSplitBatch': WHATEVER THE INPUT: true; the input reads as it did. -/
def fnSegmentWithDeadSplitBatchSpec : ChangeSpec := { name := "fnSegmentWithDeadSplitBatch", fn := fun _ => fun
  | [d1, d2, d3, d4, d5, d6, d7, d8, d9, d10, d11] => { results := [.lit (.bool true)], args := [d1, d2, d3, d4, d5, d6, d7, d8, d9, d10, d11] }
  | _ => none }
def fnSegmentWithDeadSplitBatchRow : OpenClaim := { program := "qxb6609120adoor", sum := "19dc3dfcc7e1effa10cb8d922e7b377c8d6517711789e9c817d67da0cd919ef5", func := "example.com/lithify/lithify/zzlaws_root_b1.FnSegmentWithDeadSplitBatch", spec := "fnSegmentWithDeadSplitBatch", unfollowed := true, recurses := true, named := ["math/bits.deBruijn64tab"], apart := false, laid := [("math/bits.deBruijn64tab", laid_math_bits_deBruijn64tab)] }
def FnSegmentWithDeadSplitBatchSaid : Prop := fnSegmentWithDeadSplitBatchRow.holds Tryd.pinned (OpenSpec.ofChange fnSegmentWithDeadSplitBatchSpec)

/-- ITS FALSE NEIGHBOUR: 'it returns false'. Refute it at one input. -/
def fnSegmentWithDeadSplitBatchWrong : ChangeSpec := { name := "fnSegmentWithDeadSplitBatch", fn := fun _ => fun
  | [d1, d2, d3, d4, d5, d6, d7, d8, d9, d10, d11] => { results := [.lit (.bool false)], args := [d1, d2, d3, d4, d5, d6, d7, d8, d9, d10, d11] }
  | _ => none }
def FnSegmentWithDeadSplitBatchWrongFalsely : Prop := fnSegmentWithDeadSplitBatchRow.holds Tryd.pinned (OpenSpec.ofChange fnSegmentWithDeadSplitBatchWrong)

/-- 'zzlaws_root_b1.FnSegmentWithDeadFirstDeathKept': WHATEVER THE INPUT: true; the input reads as it did. -/
def fnSegmentWithDeadFirstDeathKeptSpec : ChangeSpec := { name := "fnSegmentWithDeadFirstDeathKept", fn := fun _ => fun
  | [d1, d2, d3, d4, d5, d6, d7, d8, d9, d10, d11] => { results := [.lit (.bool true)], args := [d1, d2, d3, d4, d5, d6, d7, d8, d9, d10, d11] }
  | _ => none }
def fnSegmentWithDeadFirstDeathKeptRow : OpenClaim := { program := "qxb6609120adoor", sum := "19dc3dfcc7e1effa10cb8d922e7b377c8d6517711789e9c817d67da0cd919ef5", func := "example.com/lithify/lithify/zzlaws_root_b1.FnSegmentWithDeadFirstDeathKept", spec := "fnSegmentWithDeadFirstDeathKept", unfollowed := true, recurses := true, named := ["math/bits.deBruijn64tab"], apart := false, laid := [("math/bits.deBruijn64tab", laid_math_bits_deBruijn64tab)] }
def FnSegmentWithDeadFirstDeathKeptSaid : Prop := fnSegmentWithDeadFirstDeathKeptRow.holds Tryd.pinned (OpenSpec.ofChange fnSegmentWithDeadFirstDeathKeptSpec)

/-- ITS FALSE NEIGHBOUR: 'it returns false'. Refute it at one input. -/
def fnSegmentWithDeadFirstDeathKeptWrong : ChangeSpec := { name := "fnSegmentWithDeadFirstDeathKept", fn := fun _ => fun
  | [d1, d2, d3, d4, d5, d6, d7, d8, d9, d10, d11] => { results := [.lit (.bool false)], args := [d1, d2, d3, d4, d5, d6, d7, d8, d9, d10, d11] }
  | _ => none }
def FnSegmentWithDeadFirstDeathKeptWrongFalsely : Prop := fnSegmentWithDeadFirstDeathKeptRow.holds Tryd.pinned (OpenSpec.ofChange fnSegmentWithDeadFirstDeathKeptWrong)

end Rows
end Go.Proofs.Qxb6609120aDoor
