/-
  No cell of these rows narrows 'for every input' (looked for: loops, veiled, ifaces, maps, wideKeys, modest, calm, conditions, laid).
  DERIVED. THE GIVEN ROWS OF THIS SEAT. 3 by the template 'for every input the law returns true; each argument reads behind the call as it read before'; 0 by the template 'total and deterministic' (their statements: Qxb6614965aFmtTotals.lean).
  GIVEN WITH THE SEED: the statements are not yours to turn. If you find one false, say at which input.
  Laid BY PROGRAM, IN A SANDBOX (cutbox-rows.mjs): the forced cells as the released guide's own fill.sh prints them over the translation c8516b1d4e2ae2a7… (all of the seat's roots in one cut). By AI agents, Wed Nov 11 2026. No macro, syntax, notation, axiom, sorry.
-/
import Derived.Test.Qxb6614965aFmtChecked
import GoSem.Claim
import GoSem.ClaimJoined
import GoSem.ClaimMapViews
import Derived.JoinedTies
import Derived.KernelRfl
namespace Go.Proofs.Qxb6614965aFmt
/- THE CELL 'sum', in the pinned program and in every row, IS THE sha256 OF THE DUMP (.gsa) THAT Qxb6614965aFmtProg.lean LOADS. Nothing in Lean hashes anything: it is a label: what it is worth is what the hold of that sum in a sandbox is worth. -/
noncomputable def Tryf.pinned : Pinned := { name := "qxb6614965afmt", sum := "c8516b1d4e2ae2a73a01e35641e267d989df13b6d3c071ca25348c4e1c0b8ce1", checked := Tryf.checked }
namespace Rows
def none {H : Type} : Left H := { results := [], args := [] }

/-- 'zzlaws_internal_plan_b1.FnIsNumberAcceptsTermFieldIndex': WHATEVER THE INPUT: true; the input reads as it did. -/
def fnIsNumberAcceptsTermFieldIndexSpec : ChangeSpec := { name := "fnIsNumberAcceptsTermFieldIndex", fn := fun _ => fun
  | [d] => { results := [.lit (.bool true)], args := [d] }
  | _ => none }
def fnIsNumberAcceptsTermFieldIndexRow : OpenClaim := { program := "qxb6614965afmt", sum := "c8516b1d4e2ae2a73a01e35641e267d989df13b6d3c071ca25348c4e1c0b8ce1", func := "example.com/vestline/vestline/zzlaws_internal_plan_b1.FnIsNumberAcceptsTermFieldIndex", spec := "fnIsNumberAcceptsTermFieldIndex", stops := ["fmt.Sprintf"], inPlace := ["fmt.Sprintf"], apart := false }
/-- NO THEOREM (fmt's text is open here; it may be false): for the released tool's asking of the row's closed facts alone. THE STATEMENT IS 'FnIsNumberAcceptsTermFieldIndexToldSaid' (Qxb6614965aFmtCards.lean). -/
def FnIsNumberAcceptsTermFieldIndexFormAsk : Prop := fnIsNumberAcceptsTermFieldIndexRow.holds Tryf.pinned (OpenSpec.ofChange fnIsNumberAcceptsTermFieldIndexSpec)

/-- ITS FALSE NEIGHBOUR: 'it returns false'. Refute it at one input. -/
def fnIsNumberAcceptsTermFieldIndexWrong : ChangeSpec := { name := "fnIsNumberAcceptsTermFieldIndex", fn := fun _ => fun
  | [d] => { results := [.lit (.bool false)], args := [d] }
  | _ => none }
def FnIsNumberAcceptsTermFieldIndexWrongFormAsk : Prop := fnIsNumberAcceptsTermFieldIndexRow.holds Tryf.pinned (OpenSpec.ofChange fnIsNumberAcceptsTermFieldIndexWrong)

/-- 'zzlaws_internal_plan_b1.FnTermFieldRoundTrip': WHATEVER THE INPUT: true; the input reads as it did. -/
def fnTermFieldRoundTripSpec : ChangeSpec := { name := "fnTermFieldRoundTrip", fn := fun _ => fun
  | [d1, d2] => { results := [.lit (.bool true)], args := [d1, d2] }
  | _ => none }
def fnTermFieldRoundTripRow : OpenClaim := { program := "qxb6614965afmt", sum := "c8516b1d4e2ae2a73a01e35641e267d989df13b6d3c071ca25348c4e1c0b8ce1", func := "example.com/vestline/vestline/zzlaws_internal_plan_b1.FnTermFieldRoundTrip", spec := "fnTermFieldRoundTrip", stops := ["fmt.Sprintf"], inPlace := ["fmt.Sprintf"], apart := false }
/-- NO THEOREM (fmt's text is open here; it may be false): for the released tool's asking of the row's closed facts alone. THE STATEMENT IS 'FnTermFieldRoundTripToldSaid' (Qxb6614965aFmtCards.lean). -/
def FnTermFieldRoundTripFormAsk : Prop := fnTermFieldRoundTripRow.holds Tryf.pinned (OpenSpec.ofChange fnTermFieldRoundTripSpec)

/-- ITS FALSE NEIGHBOUR: 'it returns false'. Refute it at one input. -/
def fnTermFieldRoundTripWrong : ChangeSpec := { name := "fnTermFieldRoundTrip", fn := fun _ => fun
  | [d1, d2] => { results := [.lit (.bool false)], args := [d1, d2] }
  | _ => none }
def FnTermFieldRoundTripWrongFormAsk : Prop := fnTermFieldRoundTripRow.holds Tryf.pinned (OpenSpec.ofChange fnTermFieldRoundTripWrong)

/-- 'zzlaws_internal_plan_b1.FnTermFieldInjectiveAndNested': WHATEVER THE INPUT: true; the input reads as it did. -/
def fnTermFieldInjectiveAndNestedSpec : ChangeSpec := { name := "fnTermFieldInjectiveAndNested", fn := fun _ => fun
  | [d1, d2, d3] => { results := [.lit (.bool true)], args := [d1, d2, d3] }
  | _ => none }
def fnTermFieldInjectiveAndNestedRow : OpenClaim := { program := "qxb6614965afmt", sum := "c8516b1d4e2ae2a73a01e35641e267d989df13b6d3c071ca25348c4e1c0b8ce1", func := "example.com/vestline/vestline/zzlaws_internal_plan_b1.FnTermFieldInjectiveAndNested", spec := "fnTermFieldInjectiveAndNested", stops := ["fmt.Sprintf"], inPlace := ["fmt.Sprintf"], apart := false }
/-- NO THEOREM (fmt's text is open here; it may be false): for the released tool's asking of the row's closed facts alone. THE STATEMENT IS 'FnTermFieldInjectiveAndNestedToldSaid' (Qxb6614965aFmtCards.lean). -/
def FnTermFieldInjectiveAndNestedFormAsk : Prop := fnTermFieldInjectiveAndNestedRow.holds Tryf.pinned (OpenSpec.ofChange fnTermFieldInjectiveAndNestedSpec)

/-- ITS FALSE NEIGHBOUR: 'it returns false'. Refute it at one input. -/
def fnTermFieldInjectiveAndNestedWrong : ChangeSpec := { name := "fnTermFieldInjectiveAndNested", fn := fun _ => fun
  | [d1, d2, d3] => { results := [.lit (.bool false)], args := [d1, d2, d3] }
  | _ => none }
def FnTermFieldInjectiveAndNestedWrongFormAsk : Prop := fnTermFieldInjectiveAndNestedRow.holds Tryf.pinned (OpenSpec.ofChange fnTermFieldInjectiveAndNestedWrong)

end Rows
end Go.Proofs.Qxb6614965aFmt
