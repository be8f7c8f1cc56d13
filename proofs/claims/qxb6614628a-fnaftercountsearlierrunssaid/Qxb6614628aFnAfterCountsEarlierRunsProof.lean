/-
  'Rows.FnAfterCountsEarlierRunsSaid', proved: the frame by the kit's tool; the walk out of the contracts of Qxb6614628aSteps.
-/
import Derived.Test.Qxb6614628aRows
import Derived.Test.Qxb6614628aSteps
import Derived.WalkKit
import Derived.WalkSpells
import Derived.ProofKit
import Derived.OpenShut
import Derived.ShutString
namespace Go.Proofs.Qxb6614628a.fnAfterCountsEarlierRuns
open Go.ChangeShapes Go.WideShapes Go.ChangeAt Go.RowKit
open Go.ChangeMaps (open_string shut_string)
set_option linter.unusedVariables false      -- a walk need not use every 'w<i>' (that an integer argument fits its kind)

theorem own : ownKnob Try.prog.godebug = none := by kernel_rfl

/-! ### STEP 1: THE WALK: the Go text returns true. 'Grown w w'': the world has at most new blocks (Derived/RowKit3.lean). Part the cases AHEAD of 'go_enter' where a test parts the walk; take each callee by a contract of your own. -/
theorem Try.info23 : (Try.prog.info? 23).map (fun i => (i.zero, i.size, i.bytes)) = some (some (.pointer none), 1, 8) := by kernel_rfl

/-- n runs, at most 256. -/
theorem walk_in (n : Nat) (hn : n ≤ 256) (w : World) :
    Calls Try.prog 3 #[.int .i64 (n : Int)] w fun e w' => e = .returned (.bool true) ∧ Grown w w' := by
  obtain ⟨i0, hi, hz0, hz1, hz2⟩ := info_parts Try.info23
  have g1 : ¬ ((n : Int) < 0) := by omega
  have g2 : ¬ (256 < (n : Int)) := by omega
  go_enter Try.func3, Try.ntmps3
  go_wp2_with (at_make; go_must (refine wpList_make_row _ rfl _ _ 22 rfl 23 i0 (.pointer none) Try.underlying22 hi hz0 hz1 rfl .i64 .i64 n rfl rfl (by rw [hz2]; omega) (by omega) ?_); clear hi hz0 hz1 hz2)
  go_loopw [4] (fun t wr => ∃ k : Nat, k ≤ n ∧ t = .int .i64 k ∧ Made w.heap.size n k wr ∧ Grown w wr) (fun t _ => n - (intOf t).toNat)
  case atStart => exact ⟨0, by omega, rfl, Made.start w n, (Grown.refl w).alloc _ _⟩
  case round =>
    obtain ⟨k, hk, rfl, M, G⟩ := hrel
    by_cases hlt : k < n
    · obtain ⟨v, hv⟩ := M.room k hlt
      have hf := M.warm k hlt
      have hs := M.size
      have hlt2 : w.heap.size < wr.heap.size := by omega
      have HS : Hid (wr.heap.size = w.heap.size + 1 + k) := hs
      clear hs
      go_wp2_with (go_at_call 5; refine (newRun_any _).mono ?_; rintro e w' ⟨rfl, c, rfl⟩)
      go_roundw
      case rel =>
        have M1 := M.step hlt c
        rw [← HS.out] at M1
        exact ⟨k + 1, by omega, by go_num, M1, (G.setCell (by simp) _).alloc _ _⟩
      case measure => simp [intOf]; omega
    · obtain rfl : k = n := by omega
      go_wp2_with (go_at_call 6; refine (newTab_any _ _ _).mono ?_; rintro e w' ⟨rfl, c, hc, rfl⟩)
      have L0 := M.lay c hc
      have G1 : Grown w (wr.alloc (.cells c 44)) := G.alloc _ _
      generalize wr.alloc (.cells c 44) = w1 at *
      generalize wr.heap.size = T at *
      generalize w.heap.size = B at *
      clear M G hc
      go_loopw [6] (fun t wr => ∃ i : Nat, i ≤ k ∧ t = .int .i64 i ∧ Lay B k T wr ∧ Grown w wr) (fun t _ => k - (intOf t).toNat)
      case atStart => exact ⟨0, by omega, rfl, L0, G1⟩
      case round =>
        clear L0 G1
        obtain ⟨i, hi, rfl, L0, G1⟩ := hrel
        by_cases hlt : i < k
        · go_wp2
          go_loopw [7, 8, 9] (fun s7 s8 s9 wr => ∃ j : Nat, j ≤ k ∧ s7 = .int .i64 ((min j i : Nat) : Int) ∧ s8 = .int .i64 ((j - (i + 1) : Nat) : Int) ∧ s9 = .int .i64 j ∧ Lay B k T wr ∧ Grown w wr) (fun _ _ t _ => k - (intOf t).toNat)
          case atStart => exact ⟨0, by omega, by simp, by simp, rfl, L0, G1⟩
          case round =>
            clear L0 G1
            obtain ⟨j, hj, rfl, rfl, rfl, L0, G1⟩ := hrel
            have b1 : min j i ≤ 256 := by omega
            have b2 : j - (i + 1) ≤ 256 := by omega
            by_cases hjk : j < k
            · have hrow := L0.row i hlt
              have hrow2 := L0.row j hjk
              have H7 : Hid (((min (j + 1) i : Nat) : Int) = if j < i then ((min j i : Nat) : Int) + 1 else ((min j i : Nat) : Int)) := by
                show _ = _
                split <;> omega
              have H8 : Hid (((j + 1 - (i + 1) : Nat) : Int) = if i < j then ((j - (i + 1) : Nat) : Int) + 1 else ((j - (i + 1) : Nat) : Int)) := by
                show _ = _
                split <;> omega
              go_wp2
              go_quiet ((go_at_call 7; exact Calls.quiet_of_same (zzafter_any B k T i j _ (L0.drewN _) hn hlt hjk)))
              have L1 := L0.drewN nq
              have G2 : Grown w (wr.drewN nq) := G1
              clear L0 G1 hrow hrow2
              generalize wr.drewN nq = w2 at *
              have hrow := L1.row i hlt
              have hrow2 := L1.row j hjk
              by_cases d1 : j < i
              · have d2 : ¬ i < j := by omega
                go_wp2
                go_quiet ((go_at_call 7; exact Calls.quiet_of_same (zzafter_any B k T j i _ (L1.drewN _) hn hjk hlt)))
                go_wp2
                go_roundw
                case rel => exact ⟨j + 1, by omega, by rw [H7.out, if_pos d1], by rw [H8.out, if_neg d2], by go_num, L1.drewN _, G2⟩
                case measure => simp [intOf]; omega
              · by_cases d2 : i < j
                · go_wp2
                  go_quiet ((go_at_call 7; exact Calls.quiet_of_same (zzafter_any B k T j i _ (L1.drewN _) hn hjk hlt)))
                  go_wp2
                  go_roundw
                  case rel => exact ⟨j + 1, by omega, by rw [H7.out, if_neg d1], by rw [H8.out, if_pos d2], by go_num, L1.drewN _, G2⟩
                  case measure => simp [intOf]; omega
                · go_wp2
                  go_quiet ((go_at_call 7; exact Calls.quiet_of_same (zzafter_any B k T j i _ (L1.drewN _) hn hjk hlt)))
                  go_wp2
                  go_roundw
                  case rel => exact ⟨j + 1, by omega, by rw [H7.out, if_neg d1], by rw [H8.out, if_neg d2], by go_num, L1.drewN _, G2⟩
                  case measure => simp [intOf]; omega
            · obtain rfl : j = k := by omega
              have e1 : ((min j i : Nat) : Int) = (i : Int) := by omega
              have e2 : ((j - (i + 1) : Nat) : Int) = (j : Int) - 1 - i := by omega
              rw [e1, e2]
              clear e1 e2
              go_wp2
              go_roundw
              case rel => exact ⟨i + 1, by omega, by go_num, L0, G1⟩
              case measure => simp [intOf]; omega
        · go_wp2
          go_ret
          exact ⟨rfl, G1⟩
theorem walk (a0 : Int) (w0 : (Lit.int .i64 a0).wf = true) (w : World) :
    Calls Try.prog 3 #[.int .i64 a0] w fun e w' => e = .returned (.bool true) ∧ Grown w w' := by
  by_cases h0 : a0 < 0
  · go_enter Try.func3, Try.ntmps3
    go_wp2
    go_ret
    exact ⟨rfl, Grown.refl _⟩
  · by_cases h1 : 256 < a0
    · go_enter Try.func3, Try.ntmps3
      go_wp2
      go_ret
      exact ⟨rfl, Grown.refl _⟩
    · obtain ⟨n, rfl⟩ := Int.eq_ofNat_of_zero_le (by omega : 0 ≤ a0)
      exact walk_in n (by omega) w

/-! ### THE ROW's STEP: WRITTEN OUT: LEAVE IT -/
set_option maxRecDepth 100000 in
theorem lifted (os : Os) (started : os.Started) (H : Type) (enc : TypeId × Value → H) :
    ReturnsInHanded {} Try.checked os 3 .any (Rows.fnAfterCountsEarlierRunsSpec.pre6 enc Try.prog Try.f3 Rows.fnAfterCountsEarlierRunsRow.domain false) (Rows.fnAfterCountsEarlierRunsSpec.post enc Try.prog Try.f3 false true false false) := by
  refine returnsInHanded_of_change (C := Try.checked) own started (by kernel_rfl) Try.func3
    (ChangeSpec.witness6 (enc := enc) (C := Try.checked) false ⟨#[], #[.int .i64 0], []⟩ 8 (by kernel_rfl) (by kernel_rfl) (by kernel_rfl) (by kernel_rfl)) ?_
  intro W base args ds gs before hval0 hW hcnd _
  have hval : ∀ (j : Nat) t v, Try.f3.params[j]? = some t → args[j]? = some v → Value.okWide Try.prog W .any base t v := hval0
  have hW' := hW
  obtain ⟨p, q, hA0, hV, rfl, hfz, hnd⟩ := hW
  have hA : DataW.TrodAll enc Try.prog W 0 (fun _ => true) true Try.f3.params.toList args.toList ds p := hA0
  rw [Try.params3] at hA hval
  obtain ⟨v0, vs0, d0, ds0, p0, q0, hargs, rfl, rfl, h0, r0⟩ := trodAll_cons hA
  obtain ⟨rfl, rfl, rfl⟩ := trodAll_nil r0
  obtain rfl : args = #[v0] := by cases args; simp_all
  obtain ⟨rfl, rfl⟩ := trodVars_none hV
  obtain ⟨a0, rfl, rfl, rfl, w0⟩ := open_int Try.underlying3 (hval 0 3 v0 rfl rfl) h0
  clear hA0 hval0
  simp only [List.append_nil] at hW'
  refine (walk a0 w0 W).mono fun e W' ⟨he, hg⟩ => ?_
  subst he
  exact ⟨_, rfl, post_of_same (pa := []) (pv := []) hW' (fun _ _ _ => (trodAll_cons_mk (shut_bool Try.underlying4 _) trodAll_mk0)) (fun sp _ => (trodAll_cons_mk (shut_int Try.underlying3 w0) trodAll_mk0)) (fun _ _ => rfl) rfl
    (hg.frame _) hg.2.1 (ok_one (by kernel_rfl) rfl (okWide_bool_mk Try.underlying4 _))⟩

theorem over : Rows.fnAfterCountsEarlierRunsRow.holds Try.pinned (OpenSpec.ofChange Rows.fnAfterCountsEarlierRunsSpec) :=
  OpenClaim.holds_of_wide 3 Try.f3 rfl rfl rfl rfl rfl rfl rfl ⟨rfl, rfl, rfl, rfl, rfl⟩ rfl rfl rfl rfl rfl (by kernel_rfl) Try.func3 (by kernel_rfl)
    (of_decide_eq_true (by kernel_rfl)) (by unfold Func.isWrapper; first | (rw [if_pos (by decide +kernel)]; kernel_rfl) | (rw [if_neg (by decide +kernel)]; exact ⟨rfl, rfl⟩))
    (fun os started H enc _ => lifted os started H enc)

/-- ████ THE STATEMENT ████ -/
theorem proved : Rows.FnAfterCountsEarlierRunsSaid :=
  over
end Go.Proofs.Qxb6614628a.fnAfterCountsEarlierRuns
