/-
  DERIVED. GIVEN WITH THE SEED: THE CARDS: each row of Qxb6614965aFmtRows.lean that lists a variable, with what it lists TIED to the program's text (the seventh form; the later family's looks); each row that meets fmt, with fmt's text TOLD by the authors' own Lean function (tested against real Go, not proved from fmt's source: count such statements apart). THE CARD IS WHAT COUNTS. Prove the row's statement (the work); the ties are given (Qxb6614965aFmtTie.lean); close each card by the builder's one call (the guide's Derived/Test/ToyasCard.lean, 'card_holds'). Laid BY PROGRAM, IN A SANDBOX (cutbox-door.mjs). By AI agents, Wed Nov 11 2026. No macro, syntax, notation, axiom, sorry.
-/
import Derived.Test.Qxb6614965aFmtRows
import GoSem.ClaimSeven
namespace Go.Proofs.Qxb6614965aFmt
namespace Rows

/-- THE TOLD CARD OF 'zzlaws_internal_plan_b1.FnIsNumberAcceptsTermFieldIndex'. -/
def fnIsNumberAcceptsTermFieldIndexCard : Claim7 := { stood := { row := fnIsNumberAcceptsTermFieldIndexRow, standIns := [], harness := (true, "fce650e1600efc79ae4123cdd1e6036e5cc2ae7402df6bc56ab430aa21f2155f"), looks := false }, told := true, goes := false }
def FnIsNumberAcceptsTermFieldIndexToldSaid : Prop := Claim7.holds Tryf.pinned (.plain (OpenSpec.ofChange fnIsNumberAcceptsTermFieldIndexSpec)) fnIsNumberAcceptsTermFieldIndexCard
/-- ITS FALSE NEIGHBOUR. Refute it at one input. -/
def FnIsNumberAcceptsTermFieldIndexToldWrongFalsely : Prop := Claim7.holds Tryf.pinned (.plain (OpenSpec.ofChange fnIsNumberAcceptsTermFieldIndexWrong)) fnIsNumberAcceptsTermFieldIndexCard

/-- THE TOLD CARD OF 'zzlaws_internal_plan_b1.FnTermFieldRoundTrip'. -/
def fnTermFieldRoundTripCard : Claim7 := { stood := { row := fnTermFieldRoundTripRow, standIns := [], harness := (true, "fce650e1600efc79ae4123cdd1e6036e5cc2ae7402df6bc56ab430aa21f2155f"), looks := false }, told := true, goes := false }
def FnTermFieldRoundTripToldSaid : Prop := Claim7.holds Tryf.pinned (.plain (OpenSpec.ofChange fnTermFieldRoundTripSpec)) fnTermFieldRoundTripCard
/-- ITS FALSE NEIGHBOUR. Refute it at one input. -/
def FnTermFieldRoundTripToldWrongFalsely : Prop := Claim7.holds Tryf.pinned (.plain (OpenSpec.ofChange fnTermFieldRoundTripWrong)) fnTermFieldRoundTripCard

/-- THE TOLD CARD OF 'zzlaws_internal_plan_b1.FnTermFieldInjectiveAndNested'. -/
def fnTermFieldInjectiveAndNestedCard : Claim7 := { stood := { row := fnTermFieldInjectiveAndNestedRow, standIns := [], harness := (true, "fce650e1600efc79ae4123cdd1e6036e5cc2ae7402df6bc56ab430aa21f2155f"), looks := false }, told := true, goes := false }
def FnTermFieldInjectiveAndNestedToldSaid : Prop := Claim7.holds Tryf.pinned (.plain (OpenSpec.ofChange fnTermFieldInjectiveAndNestedSpec)) fnTermFieldInjectiveAndNestedCard
/-- ITS FALSE NEIGHBOUR. Refute it at one input. -/
def FnTermFieldInjectiveAndNestedToldWrongFalsely : Prop := Claim7.holds Tryf.pinned (.plain (OpenSpec.ofChange fnTermFieldInjectiveAndNestedWrong)) fnTermFieldInjectiveAndNestedCard
end Rows
end Go.Proofs.Qxb6614965aFmt
