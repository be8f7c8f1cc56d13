/-
  zzRanks.
-/
import Derived.Test.Qxb6609120aDoorMinus
namespace Go.Proofs.Qxb6609120aDoor
open Go.RowKit
open Plain (Srt Asc asc_ext)
set_option linter.unusedVariables false

theorem ranks_step {A T : List Int} {b : Int} {k j : Nat} (hk : k < A.length) (hT : Asc T) (hc : Cut T A[k] j) : (A.take (k + 1)).map (rank T b) = (A.take k).map (rank T b) ++ [wrap64 (wrap64 (A[k] - b) - (j : Int))] := by
  rw [List.take_succ_eq_append_getElem hk, List.map_append]
  have e : [A[k]].map (rank T b) = [wrap64 (wrap64 (A[k] - b) - (j : Int))] := by
    show [rank T b A[k]] = _
    unfold rank
    rw [w64_s, cut_bel hT hc]
  rw [e]

set_option maxHeartbeats 1600000 in
set_option maxRecDepth 100000 in
theorem ranks_any (va vt : Value) (A T : List Int) (bb : Int) (w : World) (ha : Sl .i64 w va A) (ht : Sl .i64 w vt T) (hA : Asc A) (hT : Asc T) (hla : A.length ≤ 4194304) (hlt : T.length ≤ 4194304) :
    Calls Tryd.prog 21 #[va, vt, .int .i64 bb] w fun e w' => ∃ v', e = .returned v' ∧ New w w' v' (A.map (rank T bb)) := by
  obtain ⟨i0, hi, hz0, hz1, hz2⟩ := info_parts info2
  obtain ⟨aa, ca, rfl, hca, _, hxa⟩ := ha
  obtain ⟨at', ct, rfl, hct, _, hxt⟩ := ht
  go_enter Tryd.func21, Tryd.ntmps21
  go_wp2_with (at_make; refine wpList_make_own _ rfl _ _ 35 rfl w.heap.size 2 i0 (.int .i64 0) 1 Tryd.underlying35 hi hz0 hz1 .i64 .i64 _ A.length rfl rfl (by simp) (by rw [hz2]; omega) (by unfold maxLen; omega) (Nat.le_refl _) ?_; intro w3 hown3 hg3)
  go_loopw [7, 8, 16] (fun out sj si wr => ∃ (k j : Nat) (D : List Int), k ≤ A.length ∧ si = .int .i64 k ∧ sj = .int .i64 j ∧ out = .slice (some ⟨w.heap.size, 0, none⟩) k A.length ∧
        wr.ownsRow w.heap.size 2 1 (.slice (some ⟨w.heap.size, 0, none⟩) k A.length) k (D.map (Value.int .i64)) ∧ D = (A.take k).map (rank T bb) ∧ j ≤ T.length ∧ (∀ hk : k < A.length, Low T A[k] j) ∧ Below w.heap.size w wr)
      (fun _ _ si _ => A.length - (intOf si).toNat)
  case atStart => exact ⟨0, 0, [], Nat.zero_le _, rfl, rfl, rfl, hown3, rfl, Nat.zero_le _, fun _ => ⟨Nat.zero_le _, fun m h hm => by omega⟩, (Below.refl _ _).grown hg3 (Nat.le_refl _) (fun k h => by cases h)⟩
  case round =>
    clear hown3 hg3
    obtain ⟨k, j, D, hk, rfl, rfl, rfl, hown, hD, hj, hlow, hnx⟩ := hrel
    have HD := hid_of hD
    by_cases hlt : k < A.length
    · clear hD
      obtain ⟨b, off, rfl, hcell⟩ := hxa (by intro h; simp [h] at hlt)
      have gc := cell_below hnx (hcell k hlt)
      have HL := hid_of (hlow hlt)
      have HCT := hid_of (fun (m : Nat) (hm : m < T.length) => (show ∃ bt ot, at' = some ⟨bt, ot, none⟩ ∧ wr.cell? ⟨bt, ot + m, none⟩ = some (.int .i64 T[m]) from by
        obtain ⟨bt, ot, e, hc⟩ := hxt (by intro h; simp [h] at hm)
        exact ⟨bt, ot, e, cell_below hnx (hc m hm)⟩))
      have HST := hid_of (fun j (H : Cut T A[k] j) => ranks_step (b := bb) hlt hT H)
      have HNX := hid_of (fun j H => Low.next (j := j) (T := T) hA hlt H)
      have HCUT := hid_of (fun j (H : Low T A[k] j) he => H.cut hT he)
      obtain ⟨x, hx⟩ : ∃ x, x = A[k] := ⟨_, rfl⟩
      rw [← hx] at gc HL HST HNX HCUT
      clear hcell hlow hx
      go_wp2_with fail
      go_loopw [8] (fun sj w2 => ∃ j : Nat, sj = .int .i64 j ∧ Low T x j ∧ w2 = wr) (fun sj _ => T.length - (intOf sj).toNat)
      case atStart => exact ⟨j, rfl, HL.out, rfl⟩
      case round =>
        clear HL gc hj
        obtain ⟨j, rfl, hL, hwe⟩ := hrel
        have hwe := hwe.symm
        subst hwe
        have hj := hL.1
        by_cases hjt : j < T.length
        · obtain ⟨bt, ot, rfl, gt⟩ := HCT.out j hjt
          have hjI : (j : Int) < (T.length : Int) := by omega
          by_cases hlo : T[j] < x
          · have HL2 : Hid (Low T x (j + 1)) := ⟨hjt, fun m h hm => by
              by_cases e : m = j
              · subst e; exact hlo
              · exact hL.2 m h (by omega)⟩
            clear hL hxt hxa
            generalize T[j] = y at *
            go_wp2_with fail
            go_roundw
            case rel => exact ⟨j + 1, by go_num, HL2.out, by first | rfl | trivial⟩
            case measure => simp [intOf]; omega
          · have HO := hid_of (HST.out j (HCUT.out j hL (fun _ => by first | exact hlo | exact Int.not_lt.1 hlo)))
            have HN2 := hid_of (HNX.out j hL)
            clear hL hxt hxa
            generalize T[j] = y at *
            go_wp2_with (at_builtin; refine wpList_append_fits _ rfl (.tmp 34) (.tmp 40) 35 rfl w.heap.size 2 i0 1 Tryd.underlying35 hi hz1 w.heap.size k A.length _ rfl (hown.alloc _) ⟨wr.heap.size, 0, none⟩ 1 1 [.int .i64 (wrap64 (wrap64 (x - bb) - (j : Int)))] rfl rfl (one_new wr _ 2) (one_cell1 rfl) (by omega) ?_; intro w5 hown5 hgrow5)
            go_roundw
            case rel => exact ⟨k + 1, j, D ++ [wrap64 (wrap64 (x - bb) - (j : Int))], by omega, by go_num, rfl, rfl, by simpa using hown5, by rw [HO.out, ← HD.out], hj, HN2.out, (hnx.alloc hnx.size _).grown hgrow5 (by simp; have := hnx.size; omega) (fun k hk => by cases hk; exact Nat.le_refl _)⟩
            case measure => simp [intOf]; omega
        · have HO := hid_of (HST.out j (HCUT.out j hL (fun h => absurd h hjt)))
          have HN2 := hid_of (HNX.out j hL)
          clear hL hxt hxa
          go_wp2_with (at_builtin; refine wpList_append_fits _ rfl (.tmp 34) (.tmp 40) 35 rfl w.heap.size 2 i0 1 Tryd.underlying35 hi hz1 w.heap.size k A.length _ rfl (hown.alloc _) ⟨wr.heap.size, 0, none⟩ 1 1 [.int .i64 (wrap64 (wrap64 (x - bb) - (j : Int)))] rfl rfl (one_new wr _ 2) (one_cell1 rfl) (by omega) ?_; intro w5 hown5 hgrow5)
          go_roundw
          case rel => exact ⟨k + 1, j, D ++ [wrap64 (wrap64 (x - bb) - (j : Int))], by omega, by go_num, rfl, rfl, by simpa using hown5, by rw [HO.out, ← HD.out], hj, HN2.out, (hnx.alloc hnx.size _).grown hgrow5 (by simp; have := hnx.size; omega) (fun k hk => by cases hk; exact Nat.le_refl _)⟩
          case measure => simp [intOf]; omega
    · have hkA : k = A.length := by omega
      clear hD hlow
      go_wp2_with fail
      go_ret
      have hD := HD.out
      rw [hkA, List.take_length] at hD
      have hkD : k = D.length := by rw [hD, List.length_map]; exact hkA
      rw [hkD] at hown ⊢
      obtain ⟨q1, q2, q3, q4⟩ := own_of_row hown
      refine ⟨_, rfl, ?_⟩
      have := New.of_own (w := w) (cap := A.length) hnx q2 q3 q4
      rw [hD] at this ⊢
      exact this
end Go.Proofs.Qxb6609120aDoor
