/-
  zzMinus and zzRanks: the law's own reckoning of the ranks.
-/
import Derived.Test.Qxb6609120aDoorRank
namespace Go.Proofs.Qxb6609120aDoor
open Go.RowKit
open Plain (Srt Asc asc_ext)
set_option linter.unusedVariables false

def minus (A T : List Int) : List Int := A.filter fun x => decide (x ∉ T)
theorem minus_in {A T : List Int} {k : Nat} (hk : k < A.length) (h : A[k] ∈ T) : minus (A.take (k + 1)) T = minus (A.take k) T := by
  unfold minus
  rw [List.take_succ_eq_append_getElem hk, List.filter_append]
  have e : ([A[k]].filter fun x => decide (x ∉ T)) = [] := by simp [h]
  rw [e, List.append_nil]
theorem minus_out {A T : List Int} {k : Nat} (hk : k < A.length) (h : A[k] ∉ T) : minus (A.take (k + 1)) T = minus (A.take k) T ++ [A[k]] := by
  unfold minus
  rw [List.take_succ_eq_append_getElem hk, List.filter_append]
  have e : ([A[k]].filter fun x => decide (x ∉ T)) = [A[k]] := by simp [h]
  rw [e]
theorem minus_len (A T : List Int) (k : Nat) : (minus (A.take k) T).length ≤ k := by
  refine Nat.le_trans (List.length_filter_le _ _) ?_
  rw [List.length_take]
  omega
/-- The first j of T lie below x. -/
def Low (T : List Int) (x : Int) (j : Nat) : Prop := j ≤ T.length ∧ ∀ m (h : m < T.length), m < j → T[m] < x
theorem Low.next {A T : List Int} {k j : Nat} (hA : Asc A) (hk : k < A.length) (H : Low T A[k] j) : ∀ hk' : k + 1 < A.length, Low T A[k + 1] j := fun hk' =>
  ⟨H.1, fun m h hm => by have := H.2 m h hm; have := List.pairwise_iff_getElem.1 hA k (k + 1) hk hk' (by omega); omega⟩
theorem Low.cut {T : List Int} {x : Int} {j : Nat} (hT : Asc T) (H : Low T x j) (he : ∀ h : j < T.length, ¬ T[j] < x) : Cut T x j :=
  ⟨H.1, H.2, fun m h hm => by
    have h1 : j < T.length := by omega
    have h2 := he h1
    by_cases e : m = j
    · subst e; omega
    · have := List.pairwise_iff_getElem.1 hT j m h1 h (by omega); omega⟩
theorem Cut.mem {T : List Int} {x : Int} {j : Nat} (hT : Asc T) (H : Cut T x j) : x ∈ T ↔ ∃ h : j < T.length, T[j] = x := by
  constructor
  · intro hx
    obtain ⟨m, hm, rfl⟩ := List.getElem_of_mem hx
    rcases Nat.lt_trichotomy m j with h | h | h
    · have := H.below m hm h; omega
    · subst h; exact ⟨hm, rfl⟩
    · have h1 : j < T.length := by omega
      have := H.above j h1 (Nat.le_refl _)
      have := List.pairwise_iff_getElem.1 hT j m h1 hm h
      omega
  · rintro ⟨h, rfl⟩; exact List.getElem_mem h

set_option maxHeartbeats 1600000 in
set_option maxRecDepth 100000 in
theorem minus_any (va vt : Value) (A T : List Int) (w : World) (ha : Sl .i64 w va A) (ht : Sl .i64 w vt T) (hA : Asc A) (hT : Asc T) (hla : A.length ≤ 4194304) (hlt : T.length ≤ 4194304) :
    Calls Tryd.prog 22 #[va, vt] w fun e w' => ∃ v', e = .returned v' ∧ New w w' v' (minus A T) := by
  obtain ⟨i0, hi, hz0, hz1, hz2⟩ := info_parts info2
  obtain ⟨aa, ca, rfl, hca, _, hxa⟩ := ha
  obtain ⟨at', ct, rfl, hct, _, hxt⟩ := ht
  go_enter Tryd.func22, Tryd.ntmps22
  go_wp2_with (at_make; refine wpList_make_own _ rfl _ _ 35 rfl w.heap.size 2 i0 (.int .i64 0) 1 Tryd.underlying35 hi hz0 hz1 .i64 .i64 _ A.length rfl rfl (by simp) (by rw [hz2]; omega) (by unfold maxLen; omega) (Nat.le_refl _) ?_; intro w3 hown3 hg3)
  go_loopw [5, 6, 14] (fun out sj si wr => ∃ (k j q : Nat) (D : List Int), k ≤ A.length ∧ q = D.length ∧ si = .int .i64 k ∧ sj = .int .i64 j ∧ out = .slice (some ⟨w.heap.size, 0, none⟩) q A.length ∧
        wr.ownsRow w.heap.size 2 1 (.slice (some ⟨w.heap.size, 0, none⟩) q A.length) q (D.map (Value.int .i64)) ∧ D = minus (A.take k) T ∧ j ≤ T.length ∧ (∀ hk : k < A.length, Low T A[k] j) ∧ Below w.heap.size w wr)
      (fun _ _ si _ => A.length - (intOf si).toNat)
  case atStart => exact ⟨0, 0, 0, [], Nat.zero_le _, rfl, rfl, rfl, rfl, hown3, rfl, Nat.zero_le _, fun _ => ⟨Nat.zero_le _, fun m h hm => by omega⟩, (Below.refl _ _).grown hg3 (Nat.le_refl _) (fun k h => by cases h)⟩
  case round =>
    clear hown3 hg3
    obtain ⟨k, j, q, D, hk, hq, rfl, rfl, rfl, hown, hD, hj, hlow, hnx⟩ := hrel
    have HQ := hid_of hq
    have HD := hid_of hD
    by_cases hlt : k < A.length
    · have hqk : q ≤ k := by rw [hq, hD]; exact minus_len A T k
      clear hq hD
      obtain ⟨b, off, rfl, hcell⟩ := hxa (by intro h; simp [h] at hlt)
      have gc := cell_below hnx (hcell k hlt)
      have HL := hid_of (hlow hlt)
      have HCT := hid_of (fun (m : Nat) (hm : m < T.length) => (show ∃ bt ot, at' = some ⟨bt, ot, none⟩ ∧ wr.cell? ⟨bt, ot + m, none⟩ = some (.int .i64 T[m]) from by
        obtain ⟨bt, ot, e, hc⟩ := hxt (by intro h; simp [h] at hm)
        exact ⟨bt, ot, e, cell_below hnx (hc m hm)⟩))
      have HIN := hid_of (fun h => minus_in (T := T) hlt h)
      have HOUT := hid_of (fun h => minus_out (T := T) hlt h)
      have HNX := hid_of (fun j H => Low.next (j := j) (T := T) hA hlt H)
      have HMEM := hid_of (fun j (H : Cut T A[k] j) => H.mem hT)
      have HCUT := hid_of (fun j (H : Low T A[k] j) he => H.cut hT he)
      obtain ⟨x, hx⟩ : ∃ x, x = A[k] := ⟨_, rfl⟩
      rw [← hx] at gc HL HIN HOUT HNX HMEM HCUT
      clear hcell hlow hx
      go_wp2_with fail
      go_loopw [6] (fun sj w2 => ∃ j : Nat, sj = .int .i64 j ∧ Low T x j ∧ w2 = wr) (fun sj _ => T.length - (intOf sj).toNat)
      case atStart => exact ⟨j, rfl, HL.out, rfl⟩
      case round =>
        clear HL gc hj
        obtain ⟨j, rfl, hL, hwe⟩ := hrel
        have hwe := hwe.symm
        subst hwe
        have hj := hL.1
        by_cases hjt : j < T.length
        · obtain ⟨bt, ot, rfl, gt⟩ := HCT.out j hjt
          have hjI : (j : Int) < (T.length : Int) := by omega
          by_cases hlo : T[j] < x
          · have HL2 : Hid (Low T x (j + 1)) := ⟨hjt, fun m h hm => by
              by_cases e : m = j
              · subst e; exact hlo
              · exact hL.2 m h (by omega)⟩
            clear hL hxt hxa
            generalize T[j] = y at *
            go_wp2_with fail
            go_roundw
            case rel => exact ⟨j + 1, by go_num, HL2.out, by first | rfl | trivial⟩
            case measure => simp [intOf]; omega
          · have hC := HCUT.out j hL (fun _ => by first | exact hlo | exact Int.not_lt.1 hlo)
            have hM := HMEM.out j hC
            have HN2 := hid_of (HNX.out j hL)
            by_cases heq : T[j] = x
            · have HI := hid_of (HIN.out (hM.2 ⟨hjt, heq⟩))
              have hb : (T[j] == x) = true := by simp [heq]
              have hg : ¬ T[j] < x := hlo
              clear hL hxt hxa hC hM heq
              generalize T[j] = y at *
              go_wp2_with fail
              go_roundw
              case rel => exact ⟨k + 1, j, q, D, by omega, HQ.out, by go_num, rfl, rfl, hown, by rw [HI.out]; exact HD.out, hj, HN2.out, hnx⟩
              case measure => simp [intOf]; omega
            · have hno : x ∉ T := fun h => by obtain ⟨_, h2⟩ := hM.1 h; exact heq h2
              have HO := hid_of (HOUT.out hno)
              have hb : (T[j] == x) = false := by simp [heq]
              clear hL hxt hxa hC hM heq hno
              generalize T[j] = y at *
              go_wp2_with (at_builtin; refine wpList_append_fits _ rfl (.tmp 44) (.tmp 46) 35 rfl w.heap.size 2 i0 1 Tryd.underlying35 hi hz1 w.heap.size q A.length _ rfl (hown.alloc _) ⟨wr.heap.size, 0, none⟩ 1 1 [.int .i64 x] rfl rfl (one_new wr _ 2) (one_cell1 rfl) (by omega) ?_; intro w5 hown5 hgrow5)
              go_roundw
              case rel => exact ⟨k + 1, j, q + 1, D ++ [x], by omega, by have := HQ.out; simp; omega, by go_num, rfl, rfl, by simpa using hown5, by rw [HO.out, ← HD.out], hj, HN2.out, (hnx.alloc hnx.size _).grown hgrow5 (by simp; have := hnx.size; omega) (fun k hk => by cases hk; exact Nat.le_refl _)⟩
              case measure => simp [intOf]; omega
        · have hC := HCUT.out j hL (fun h => absurd h hjt)
          have hno : x ∉ T := fun h => by obtain ⟨h1, _⟩ := (HMEM.out j hC).1 h; exact hjt h1
          have HO := hid_of (HOUT.out hno)
          have HN2 := hid_of (HNX.out j hL)
          clear hL hxt hxa hC hno
          go_wp2_with (at_builtin; refine wpList_append_fits _ rfl (.tmp 44) (.tmp 46) 35 rfl w.heap.size 2 i0 1 Tryd.underlying35 hi hz1 w.heap.size q A.length _ rfl (hown.alloc _) ⟨wr.heap.size, 0, none⟩ 1 1 [.int .i64 x] rfl rfl (one_new wr _ 2) (one_cell1 rfl) (by omega) ?_; intro w5 hown5 hgrow5)
          go_roundw
          case rel => exact ⟨k + 1, j, q + 1, D ++ [x], by omega, by have := HQ.out; simp; omega, by go_num, rfl, rfl, by simpa using hown5, by rw [HO.out, ← HD.out], hj, HN2.out, (hnx.alloc hnx.size _).grown hgrow5 (by simp; have := hnx.size; omega) (fun k hk => by cases hk; exact Nat.le_refl _)⟩
          case measure => simp [intOf]; omega
    · have hkA : k = A.length := by omega
      clear hq hD hlow
      go_wp2_with fail
      go_ret
      have hD := HD.out
      rw [hkA, List.take_length] at hD
      have hq := HQ.out
      subst hq
      obtain ⟨q1, q2, q3, q4⟩ := own_of_row hown
      refine ⟨_, rfl, ?_⟩
      have := New.of_own (w := w) (cap := A.length) hnx q2 q3 q4
      rw [hD] at this ⊢
      exact this
end Go.Proofs.Qxb6609120aDoor
