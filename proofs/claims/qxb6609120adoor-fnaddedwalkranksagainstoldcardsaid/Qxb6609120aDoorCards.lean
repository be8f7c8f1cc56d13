/-
  DERIVED. GIVEN WITH THE SEED: THE CARDS: each row of Qxb6609120aDoorRows.lean that lists a variable, with what it lists TIED to the program's text (the seventh form; the later family's looks); each row that meets fmt, with fmt's text TOLD by the authors' own Lean function (tested against real Go, not proved from fmt's source: count such statements apart). THE CARD IS WHAT COUNTS. Prove the row's statement (the work); the ties are given (Qxb6609120aDoorTie.lean); close each card by the builder's one call (the guide's Derived/Test/ToyasCard.lean, 'card_holds'). Laid BY PROGRAM, IN A SANDBOX (cutbox-door.mjs). By AI agents, Wed Nov 11 2026. No macro, syntax, notation, axiom, sorry.
-/
import Derived.Test.Qxb6609120aDoorRows
import GoSem.ClaimSeven
namespace Go.Proofs.Qxb6609120aDoor
namespace Rows

/-- THE TIED CARD OF 'zzlaws_root_b1.FnEncodeEditCollectSplitsAtAnyCut'. -/
def fnEncodeEditCollectSplitsAtAnyCutCard : Claim7 := { stood := { row := fnEncodeEditCollectSplitsAtAnyCutRow, standIns := [], harness := (true, "015da4b7f2dda07faf752772c2b3a38a69ed919db3c16c20bdfc66fd065ecf50"), looks := false }, kinds := [], alts := [], laidByText := true, laidKinds := [.data], laidTests := true, laidLooks := .later }
def FnEncodeEditCollectSplitsAtAnyCutCardSaid : Prop := Claim7.holds Tryd.pinned (.plain (OpenSpec.ofChange fnEncodeEditCollectSplitsAtAnyCutSpec)) fnEncodeEditCollectSplitsAtAnyCutCard

/-- THE TIED CARD OF 'zzlaws_root_b1.FnAddedWalkRanksAgainstOld'. -/
def fnAddedWalkRanksAgainstOldCard : Claim7 := { stood := { row := fnAddedWalkRanksAgainstOldRow, standIns := [], harness := (true, "015da4b7f2dda07faf752772c2b3a38a69ed919db3c16c20bdfc66fd065ecf50"), looks := false }, kinds := [], alts := [], laidByText := true, laidKinds := [.data], laidTests := true, laidLooks := .later }
def FnAddedWalkRanksAgainstOldCardSaid : Prop := Claim7.holds Tryd.pinned (.plain (OpenSpec.ofChange fnAddedWalkRanksAgainstOldSpec)) fnAddedWalkRanksAgainstOldCard

/-- THE TIED CARD OF 'zzlaws_root_b1.FnSegmentWithDeadSplitBatch'. -/
def fnSegmentWithDeadSplitBatchCard : Claim7 := { stood := { row := fnSegmentWithDeadSplitBatchRow, standIns := [], harness := (true, "015da4b7f2dda07faf752772c2b3a38a69ed919db3c16c20bdfc66fd065ecf50"), looks := false }, kinds := [], alts := [], laidByText := true, laidKinds := [.data], laidTests := true, laidLooks := .later }
def FnSegmentWithDeadSplitBatchCardSaid : Prop := Claim7.holds Tryd.pinned (.plain (OpenSpec.ofChange fnSegmentWithDeadSplitBatchSpec)) fnSegmentWithDeadSplitBatchCard

/-- THE TIED CARD OF 'zzlaws_root_b1.FnSegmentWithDeadFirstDeathKept'. -/
def fnSegmentWithDeadFirstDeathKeptCard : Claim7 := { stood := { row := fnSegmentWithDeadFirstDeathKeptRow, standIns := [], harness := (true, "015da4b7f2dda07faf752772c2b3a38a69ed919db3c16c20bdfc66fd065ecf50"), looks := false }, kinds := [], alts := [], laidByText := true, laidKinds := [.data], laidTests := true, laidLooks := .later }
def FnSegmentWithDeadFirstDeathKeptCardSaid : Prop := Claim7.holds Tryd.pinned (.plain (OpenSpec.ofChange fnSegmentWithDeadFirstDeathKeptSpec)) fnSegmentWithDeadFirstDeathKeptCard
end Rows
end Go.Proofs.Qxb6609120aDoor
