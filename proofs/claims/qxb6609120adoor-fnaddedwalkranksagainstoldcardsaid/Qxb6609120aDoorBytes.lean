/-
  zzBytes: a Boolean, whatever the lengths.
-/
import Derived.Test.Qxb6609120aDoorMem
namespace Go.Proofs.Qxb6609120aDoor
open Go.RowKit
set_option linter.unusedVariables false

set_option maxRecDepth 10000 in
theorem bytes30_any (x0 : Int) (x1 : Bool) (a1 a2 a3 : Option Addr) (n1 n2 n3 c1 c2 c3 : Nat) (x5 x6 x7 x8 x9 x10 : Int) (w : World) :
    Calls Tryd.prog 30 #[.int .i64 x0, .bool x1, .slice a1 n1 c1, .slice a2 n2 c2, .slice a3 n3 c3, .int .i64 x5, .int .i64 x6, .int .i64 x7, .int .i64 x8, .int .i64 x9, .int .i64 x10] w fun e w' => ∃ b, e = .returned (.bool b) ∧ w' = w := by
  go_enter Tryd.func30, Tryd.ntmps30
  go_wp2_with fail
  all_goals
    go_ret
    exact ⟨_, rfl, rfl⟩
set_option maxRecDepth 10000 in
theorem bytes24_any (a1 a2 a3 : Option Addr) (n1 n2 n3 c1 c2 c3 : Nat) (x1 x2 x3 x4 : Int) (x5 : Bool) (x8 x9 x10 : Int) (w : World) :
    Calls Tryd.prog 24 #[.slice a1 n1 c1, .int .i64 x1, .int .i64 x2, .int .i64 x3, .int .i64 x4, .bool x5, .slice a2 n2 c2, .slice a3 n3 c3, .int .i64 x8, .int .i64 x9, .int .i64 x10] w fun e w' => ∃ b, e = .returned (.bool b) ∧ w' = w := by
  go_enter Tryd.func24, Tryd.ntmps24
  go_wp2_with fail
  all_goals
    go_ret
    exact ⟨_, rfl, rfl⟩
set_option maxRecDepth 10000 in
theorem bytes15_any (a1 a2 a3 : Option Addr) (n1 n2 n3 c1 c2 c3 : Nat) (x1 : Int) (w : World) :
    Calls Tryd.prog 15 #[.slice a1 n1 c1, .slice a2 n2 c2, .slice a3 n3 c3, .int .i64 x1] w fun e w' => ∃ b, e = .returned (.bool b) ∧ w' = w := by
  go_enter Tryd.func15, Tryd.ntmps15
  go_wp2_with fail
  all_goals
    go_ret
    exact ⟨_, rfl, rfl⟩
end Go.Proofs.Qxb6609120aDoor
