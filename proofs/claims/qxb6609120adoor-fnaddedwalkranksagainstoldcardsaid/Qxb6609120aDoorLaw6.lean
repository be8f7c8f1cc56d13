/-
  FnSegmentWithDeadFirstDeathKept: it returns true.
-/
import Derived.Test.Qxb6609120aDoorRound
import Derived.Deep.RegionWith
namespace Go.Proofs.Qxb6609120aDoor
open Go.RowKit
open Plain (Srt Asc asc_ext)
set_option linter.unusedVariables false

set_option maxRecDepth 10000 in
theorem law6_early (rows : Int) (jm : Bool) (a1 a2 a3 : Option Addr) (c1 c2 c3 : Nat) (l1 l2 l3 : List Int) (s1 s2 s3 t1 t2 t3 : Int) (w : World) (h1 : Sl .i64 w (.slice a1 l1.length c1) l1) (h2 : Sl .i64 w (.slice a2 l2.length c2) l2) (h3 : Sl .i64 w (.slice a3 l3.length c3) l3)
    (hmain : ¬ (l1.length ≤ 32768 ∧ l2.length ≤ 32768 ∧ l3.length ≤ 32768 ∧ okB l1 = true ∧ okB l2 = true ∧ okB l3 = true)) :
    Calls Tryd.prog 6 #[.int .i64 rows, .bool jm, .slice a1 l1.length c1, .slice a2 l2.length c2, .slice a3 l3.length c3, .int .i64 s1, .int .i64 s2, .int .i64 s3, .int .i64 t1, .int .i64 t2, .int .i64 t3] w fun e w' => e = .returned (.bool true) ∧ Below w.heap.size w w' := by
  by_cases b1 : 32768 < l1.length
  · clear hmain
    go_enter Tryd.func6, Tryd.ntmps6
    go_wp2_with (first
      | (go_at_call 30; refine (bytes30_any _ _ _ _ _ _ _ _ _ _ _ _ _ _ _ _ _ _).mono ?_; rintro _ _ ⟨b, rfl, hwe⟩; have hwe := hwe.symm; subst hwe; cases b)
      )
    all_goals
      go_ret
      exact ⟨rfl, Below.refl _ _⟩
  · by_cases b2 : 32768 < l2.length
    · clear hmain
      go_enter Tryd.func6, Tryd.ntmps6
      go_wp2_with (first
        | (go_at_call 30; refine (bytes30_any _ _ _ _ _ _ _ _ _ _ _ _ _ _ _ _ _ _).mono ?_; rintro _ _ ⟨b, rfl, hwe⟩; have hwe := hwe.symm; subst hwe; cases b)
        )
      all_goals
        go_ret
        exact ⟨rfl, Below.refl _ _⟩
    · by_cases b3 : 32768 < l3.length
      · clear hmain
        go_enter Tryd.func6, Tryd.ntmps6
        go_wp2_with (first
          | (go_at_call 30; refine (bytes30_any _ _ _ _ _ _ _ _ _ _ _ _ _ _ _ _ _ _).mono ?_; rintro _ _ ⟨b, rfl, hwe⟩; have hwe := hwe.symm; subst hwe; cases b)
          )
        all_goals
          go_ret
          exact ⟨rfl, Below.refl _ _⟩
      · have q1 := ordsOK_any _ l1 w h1 (by omega)
        have q2 := ordsOK_any _ l2 w h2 (by omega)
        have q3 := ordsOK_any _ l3 w h3 (by omega)
        clear h1 h2 h3
        cases E1 : okB l1 with
        | false =>
          clear hmain
          go_enter Tryd.func6, Tryd.ntmps6
          go_wp2_with (first
            | (go_at_call 30; refine (bytes30_any _ _ _ _ _ _ _ _ _ _ _ _ _ _ _ _ _ _).mono ?_; rintro _ _ ⟨b, rfl, hwe⟩; have hwe := hwe.symm; subst hwe; cases b)
            | (go_at_call_of 16 a1; refine q1.mono ?_; rintro _ _ ⟨rfl, hwe⟩; have hwe := hwe.symm; subst hwe; rw [E1])
            )
          all_goals
            go_ret
            exact ⟨rfl, Below.refl _ _⟩
        | true =>
          cases E2 : okB l2 with
          | false =>
            clear hmain
            go_enter Tryd.func6, Tryd.ntmps6
            go_wp2_with (first
              | (go_at_call 30; refine (bytes30_any _ _ _ _ _ _ _ _ _ _ _ _ _ _ _ _ _ _).mono ?_; rintro _ _ ⟨b, rfl, hwe⟩; have hwe := hwe.symm; subst hwe; cases b)
              | (go_at_call_of 16 a1; refine q1.mono ?_; rintro _ _ ⟨rfl, hwe⟩; have hwe := hwe.symm; subst hwe; rw [E1])
              | (go_at_call_of 16 a2; refine q2.mono ?_; rintro _ _ ⟨rfl, hwe⟩; have hwe := hwe.symm; subst hwe; rw [E2])
              )
            all_goals
              go_ret
              exact ⟨rfl, Below.refl _ _⟩
          | true =>
            cases E3 : okB l3 with
            | false =>
              clear hmain
              go_enter Tryd.func6, Tryd.ntmps6
              go_wp2_with (first
                | (go_at_call 30; refine (bytes30_any _ _ _ _ _ _ _ _ _ _ _ _ _ _ _ _ _ _).mono ?_; rintro _ _ ⟨b, rfl, hwe⟩; have hwe := hwe.symm; subst hwe; cases b)
                | (go_at_call_of 16 a1; refine q1.mono ?_; rintro _ _ ⟨rfl, hwe⟩; have hwe := hwe.symm; subst hwe; rw [E1])
                | (go_at_call_of 16 a2; refine q2.mono ?_; rintro _ _ ⟨rfl, hwe⟩; have hwe := hwe.symm; subst hwe; rw [E2])
                | (go_at_call_of 16 a3; refine q3.mono ?_; rintro _ _ ⟨rfl, hwe⟩; have hwe := hwe.symm; subst hwe; rw [E3])
                )
              all_goals
                go_ret
                exact ⟨rfl, Below.refl _ _⟩
            | true => exact absurd ⟨by omega, by omega, by omega, E1, E2, E3⟩ hmain
end Go.Proofs.Qxb6609120aDoor
