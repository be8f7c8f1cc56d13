/-
  searchOrd: how many are below x.
-/
import Derived.Test.Qxb6609120aDoorTree
namespace Go.Proofs.Qxb6609120aDoor
open Go.RowKit
open Plain (Srt Asc)
set_option linter.unusedVariables false

def cmp (a x : Int) : Int := if a < x then -1 else if x < a then 1 else 0
theorem cmp_lt {a x : Int} (h : a < x) : cmp a x = -1 := by unfold cmp; rw [if_pos h]
theorem cmp_gt {a x : Int} (h : x < a) : cmp a x = 1 := by unfold cmp; rw [if_neg (by omega), if_pos h]
theorem cmp_eq {a x : Int} (h : a = x) : cmp a x = 0 := by unfold cmp; rw [if_neg (by omega), if_neg (by omega)]
theorem isNaN_any (a : Int) (w : World) : Calls Tryd.prog 101 #[.int .i64 a] w fun e w' => e = .returned (.bool false) ∧ w' = w := by
  go_enter Tryd.func101, Tryd.ntmps101
  go_wp2
  go_ret
  exact ⟨rfl, rfl⟩
theorem compare_any (a x : Int) (w : World) : Calls Tryd.prog 86 #[.int .i64 a, .int .i64 x] w fun e w' => e = .returned (.int .i64 (cmp a x)) ∧ w' = w := by
  rcases Int.lt_trichotomy a x with h | h | h
  · rw [cmp_lt h]
    go_enter Tryd.func86, Tryd.ntmps86
    go_wp2
    go_ret
    exact ⟨rfl, rfl⟩
  · rw [cmp_eq h]
    go_enter Tryd.func86, Tryd.ntmps86
    go_wp2
    go_ret
    exact ⟨rfl, rfl⟩
  · rw [cmp_gt h]
    go_enter Tryd.func86, Tryd.ntmps86
    go_wp2
    go_ret
    exact ⟨rfl, rfl⟩
theorem cmp64_any (a x : Int) (w : World) : Calls Tryd.prog 108 #[.int .i64 a, .int .i64 x] w fun e w' => e = .returned (.int .i64 (cmp a x)) ∧ w' = w := by
  go_enter Tryd.func108, Tryd.ntmps108
  go_wp2_with (go_at_call 86; refine (compare_any a x _).mono ?_; rintro _ _ ⟨rfl, rfl⟩)
  go_ret
  exact ⟨rfl, rfl⟩
theorem cmp32_any (a x : Int) (w : World) (h0 : 0 ≤ a) (h1 : a < 4294967296) : Calls Tryd.prog 85 #[.int .u32 a, .int .i64 x] w fun e w' => e = .returned (.int .i64 (cmp a x)) ∧ w' = w := by
  go_enter Tryd.func85, Tryd.ntmps85
  go_wp2_with (go_at_call 86; refine (compare_any a x _).mono ?_; rintro _ _ ⟨rfl, rfl⟩)
  go_ret
  exact ⟨rfl, rfl⟩

/-- i is how many of O are below x. -/
structure Cut (O : List Int) (x : Int) (i : Nat) : Prop where
  le : i ≤ O.length
  below : ∀ m (h : m < O.length), m < i → O[m] < x
  above : ∀ m (h : m < O.length), i ≤ m → x ≤ O[m]

structure Half (O : List Int) (x : Int) (i j : Nat) : Prop where
  le : i ≤ j
  le' : j ≤ O.length
  below : ∀ m (h : m < O.length), m < i → O[m] < x
  above : ∀ m (h : m < O.length), j ≤ m → x ≤ O[m]
theorem Half.left {O : List Int} {x : Int} {i j m : Nat} (h : Half O x i j) (hs : Srt O) (h1 : i ≤ m) (h2 : m < j) (hm : m < O.length) (hc : O[m] < x) : Half O x (m + 1) j :=
  ⟨by omega, h.le', fun q hq hlt => by
    by_cases e : q = m
    · subst e; exact hc
    · have := List.pairwise_iff_getElem.1 hs q m hq hm (by omega); omega, h.above⟩
theorem Half.right {O : List Int} {x : Int} {i j m : Nat} (h : Half O x i j) (hs : Srt O) (h1 : i ≤ m) (h2 : m < j) (hm : m < O.length) (hc : ¬ O[m] < x) : Half O x i m :=
  ⟨h1, by omega, h.below, fun q hq hge => by
    by_cases e : q = m
    · subst e; omega
    · have := List.pairwise_iff_getElem.1 hs m q hm hq (by omega); omega⟩

theorem bsf64_any (b off cap : Nat) (O : List Int) (x : Int) (w : World) (hO : At .i64 w b off O) (hs : Srt O) (hl : O.length ≤ 1048576) :
    Calls Tryd.prog 107 #[.slice (some ⟨b, off, none⟩) O.length cap, .int .i64 x, .func (.func 108) #[] #[]] w fun e w' => ∃ i f, e = .returned (.tuple #[.int .i64 (i : Nat), .bool f]) ∧ Cut O x i ∧ w' = w := by
  go_enter Tryd.func107, Tryd.ntmps107
  go_wp2_with fail
  go_loopw [9, 10] (fun si sj wr => ∃ (i j : Nat), si = .int .i64 i ∧ sj = .int .i64 j ∧ Half O x i j ∧ wr = w) (fun si sj _ => (intOf sj).toNat - (intOf si).toNat)
  case atStart => exact ⟨0, O.length, rfl, rfl, ⟨by omega, by omega, by omega, by omega⟩, rfl⟩
  case round =>
    obtain ⟨i, j, rfl, rfl, hh, rfl⟩ := hrel
    have h1 := hh.le
    have h2 := hh.le'
    have HH : Hid (Half O x i j) := hh
    clear hh
    by_cases hlt : i < j
    · obtain ⟨m, hm⟩ : ∃ m, m = (i + j) / 2 := ⟨_, rfl⟩
      have hmO : m < O.length := by omega
      have gc := hO.cell m hmO
      have e1 : ((i : Int) + (j : Int)) / 2 = (m : Int) := by omega
      have hm1 : i ≤ m := by omega
      have hm2 : m < j := by omega
      clear hm
      by_cases hc : O[m] < x
      · have HL : Hid (Half O x (m + 1) j) := HH.out.left hs hm1 hm2 hmO hc
        have hcm := cmp64_any O[m] x
        rw [cmp_lt hc] at hcm
        have HC : Hid (O[m] < x) := hc
        clear hc
        generalize O[m] = y at *
        go_wp2_with (go_at_call 108; refine (hcm _).mono ?_; rintro _ _ ⟨rfl, rfl⟩)
        go_roundw
        case rel => exact ⟨m + 1, j, by go_num, rfl, HL.out, trivial⟩
        case measure => simp [intOf]; omega
      · have HL : Hid (Half O x i m) := HH.out.right hs hm1 hm2 hmO hc
        have hcm := cmp64_any O[m] x
        have hc0 : ¬ cmp O[m] x < 0 := by unfold cmp; rw [if_neg hc]; split <;> omega
        generalize O[m] = y at *
        generalize cmp y x = c at *
        clear hc
        go_wp2_with (go_at_call 108; refine (hcm _).mono ?_; rintro _ _ ⟨rfl, rfl⟩)
        go_roundw
        case rel => exact ⟨i, m, rfl, rfl, HL.out, trivial⟩
        case measure => simp [intOf]; omega
    · have hij : i = j := by omega
      subst hij
      have HC : Hid (Cut O x i) := ⟨h2, HH.out.below, HH.out.above⟩
      by_cases hi : i < O.length
      · have gc := hO.cell i hi
        have hcm := cmp64_any O[i] x
        generalize O[i] = y at *
        generalize cmp y x = c at *
        go_wp2_with (go_at_call 108; refine (hcm _).mono ?_; rintro _ _ ⟨rfl, rfl⟩)
        go_ret2
        exact ⟨i, _, rfl, HC.out, rfl⟩
      · go_wp2_with (fail)
        go_ret2
        exact ⟨i, _, rfl, HC.out, rfl⟩
theorem bsf32_any (b off cap : Nat) (O : List Int) (x : Int) (w : World) (hO : At .u32 w b off O) (hs : Srt O) (hr : ∀ x ∈ O, 0 ≤ x ∧ x < 4294967296) (hl : O.length ≤ 1048576) :
    Calls Tryd.prog 84 #[.slice (some ⟨b, off, none⟩) O.length cap, .int .i64 x, .func (.func 85) #[] #[]] w fun e w' => ∃ i f, e = .returned (.tuple #[.int .i64 (i : Nat), .bool f]) ∧ Cut O x i ∧ w' = w := by
  go_enter Tryd.func84, Tryd.ntmps84
  go_wp2_with fail
  go_loopw [9, 10] (fun si sj wr => ∃ (i j : Nat), si = .int .i64 i ∧ sj = .int .i64 j ∧ Half O x i j ∧ wr = w) (fun si sj _ => (intOf sj).toNat - (intOf si).toNat)
  case atStart => exact ⟨0, O.length, rfl, rfl, ⟨by omega, by omega, by omega, by omega⟩, rfl⟩
  case round =>
    obtain ⟨i, j, rfl, rfl, hh, rfl⟩ := hrel
    have h1 := hh.le
    have h2 := hh.le'
    have HH : Hid (Half O x i j) := hh
    clear hh
    by_cases hlt : i < j
    · obtain ⟨m, hm⟩ : ∃ m, m = (i + j) / 2 := ⟨_, rfl⟩
      have hmO : m < O.length := by omega
      have gc := hO.cell m hmO
      have e1 : ((i : Int) + (j : Int)) / 2 = (m : Int) := by omega
      have hm1 : i ≤ m := by omega
      have hm2 : m < j := by omega
      clear hm
      by_cases hc : O[m] < x
      · have HL : Hid (Half O x (m + 1) j) := HH.out.left hs hm1 hm2 hmO hc
        have hcm := fun w => cmp32_any O[m] x w (hr _ (List.getElem_mem hmO)).1 (hr _ (List.getElem_mem hmO)).2
        rw [cmp_lt hc] at hcm
        have HC : Hid (O[m] < x) := hc
        clear hc
        generalize O[m] = y at *
        go_wp2_with (go_at_call 85; refine (hcm _).mono ?_; rintro _ _ ⟨rfl, rfl⟩)
        go_roundw
        case rel => exact ⟨m + 1, j, by go_num, rfl, HL.out, trivial⟩
        case measure => simp [intOf]; omega
      · have HL : Hid (Half O x i m) := HH.out.right hs hm1 hm2 hmO hc
        have hcm := fun w => cmp32_any O[m] x w (hr _ (List.getElem_mem hmO)).1 (hr _ (List.getElem_mem hmO)).2
        have hc0 : ¬ cmp O[m] x < 0 := by unfold cmp; rw [if_neg hc]; split <;> omega
        generalize O[m] = y at *
        generalize cmp y x = c at *
        clear hc
        go_wp2_with (go_at_call 85; refine (hcm _).mono ?_; rintro _ _ ⟨rfl, rfl⟩)
        go_roundw
        case rel => exact ⟨i, m, rfl, rfl, HL.out, trivial⟩
        case measure => simp [intOf]; omega
    · have hij : i = j := by omega
      subst hij
      have HC : Hid (Cut O x i) := ⟨h2, HH.out.below, HH.out.above⟩
      by_cases hi : i < O.length
      · have gc := hO.cell i hi
        have hcm := fun w => cmp32_any O[i] x w (hr _ (List.getElem_mem hi)).1 (hr _ (List.getElem_mem hi)).2
        generalize O[i] = y at *
        generalize cmp y x = c at *
        go_wp2_with (go_at_call 85; refine (hcm _).mono ?_; rintro _ _ ⟨rfl, rfl⟩)
        go_ret2
        exact ⟨i, _, rfl, HC.out, rfl⟩
      · go_wp2_with (fail)
        go_ret2
        exact ⟨i, _, rfl, HC.out, rfl⟩
theorem search64_any (b off cap : Nat) (O : List Int) (x : Int) (w : World) (hO : At .i64 w b off O) (hs : Srt O) (hl : O.length ≤ 1048576) :
    Calls Tryd.prog 99 #[.slice (some ⟨b, off, none⟩) O.length cap, .int .i64 x] w fun e w' => ∃ i : Nat, e = .returned (.int .i64 (i : Int)) ∧ Cut O x i ∧ w' = w := by
  go_enter Tryd.func99, Tryd.ntmps99
  go_wp2_with (go_at_call 107; refine (bsf64_any b off cap O x _ hO hs hl).mono ?_; rintro _ _ ⟨i, f, rfl, hc, rfl⟩; have HC : Hid (Cut O x i) := hc; clear hc)
  go_ret
  exact ⟨i, rfl, HC.out, rfl⟩
theorem search32_any (b off cap : Nat) (O : List Int) (x : Int) (w : World) (hO : At .u32 w b off O) (hs : Srt O) (hr : ∀ x ∈ O, 0 ≤ x ∧ x < 4294967296) (hl : O.length ≤ 1048576) :
    Calls Tryd.prog 67 #[.slice (some ⟨b, off, none⟩) O.length cap, .int .i64 x] w fun e w' => ∃ i : Nat, e = .returned (.int .i64 (i : Int)) ∧ Cut O x i ∧ w' = w := by
  go_enter Tryd.func67, Tryd.ntmps67
  go_wp2_with (go_at_call 84; refine (bsf32_any b off cap O x _ hO hs hr hl).mono ?_; rintro _ _ ⟨i, f, rfl, hc, rfl⟩; have HC : Hid (Cut O x i) := hc; clear hc)
  go_ret
  exact ⟨i, rfl, HC.out, rfl⟩
end Go.Proofs.Qxb6609120aDoor
