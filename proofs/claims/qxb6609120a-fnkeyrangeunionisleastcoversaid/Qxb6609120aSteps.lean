/-
  THE WALKS OF THE SHARED FUNCTIONS: zzCovers, zzOneOf, keyRange.union, ZZunion.
-/
import Derived.Test.Qxb6609120aRows
import Derived.Test.Qxb6609120aPlain
import Derived.WalkKit
import Derived.ProofKit
import Derived.Laws.Cover1
import Derived.RegionTactic
import Derived.RowKit3
namespace Go.Proofs.Qxb6609120a
open Go.RowKit
open Plain (le em lo mx hi hle cov)

theorem grown_trans {a b c : World} (h1 : Grown a b) (h2 : Grown b c) : Grown a c :=
  ⟨World.keptBut_trans h1.1 h2.1, fun x => (h2.2.1 x).trans (h1.2.1 x), Nat.le_trans h1.2.2 h2.2.2⟩

theorem run_min_string {P : Program} {w : World} (ts : Array TypeId) (t : TypeId) (x y : ByteArray) : (Builtin.min_ ts t #[.string x, .string y]).run P w = .ok (.string (lo x y)) w := by
  simp [Builtin.min_, Builtin.min2, Op.stringOp, asBool, lo, le]
theorem run_max_string {P : Program} {w : World} (ts : Array TypeId) (t : TypeId) (x y : ByteArray) : (Builtin.max_ ts t #[.string x, .string y]).run P w = .ok (.string (mx x y)) w := by
  simp [Builtin.max_, Builtin.max2, Op.stringOp, asBool, mx, ← Plain.not_lt]

theorem covers_any (plo phi rlo rhi : ByteArray) (w : World) :
    Calls Try.prog 7 #[.string plo, .string phi, .string rlo, .string rhi] w fun e w' => e = .returned (.bool (cov plo phi rlo rhi)) ∧ w' = w := by
  unfold cov hle
  cases h1 : le plo rlo with
  | false =>
    have h1' : (Op.bytesLess plo.toList rlo.toList || plo.toList == rlo.toList) = false := h1
    go_enter Try.func7, Try.ntmps7
    go_wp2
    go_ret
    exact ⟨rfl, rfl⟩
  | true =>
    have h1' : (Op.bytesLess plo.toList rlo.toList || plo.toList == rlo.toList) = true := h1
    go_enter Try.func7, Try.ntmps7
    go_wp2
    all_goals (go_ret; exact ⟨by simp [em, le, *], rfl⟩)

/-- Is it one of the three? -/
def one (s a b c : ByteArray) : Bool := s.toList == a.toList || s.toList == b.toList || s.toList == c.toList
theorem one_any (s a b c : ByteArray) (w : World) :
    Calls Try.prog 9 #[.string s, .string a, .string b, .string c] w fun e w' => e = .returned (.bool (one s a b c)) ∧ w' = w := by
  unfold one
  go_enter Try.func9, Try.ntmps9
  go_wp2
  all_goals (go_ret; exact ⟨by simp [*], rfl⟩)

theorem hi_one (x y : ByteArray) (h : x.toList = []) : hi x y = ⟨#[]⟩ := by unfold hi em; rw [if_pos (Or.inl (by simp [h]))]; rfl
theorem hi_or (x y : ByteArray) (h : x.toList.isEmpty = true ∨ y.toList.isEmpty = true) : hi x y = ⟨#[]⟩ := by unfold hi em; rw [if_pos h]; rfl
theorem hi_two (x y : ByteArray) (h : x.toList.isEmpty = false ∧ y.toList.isEmpty = false) : hi x y = mx x y := by unfold hi em; rw [if_neg (by simp [h.1, h.2])]

theorem union_any (rlo rhi olo ohi : ByteArray) (w : World) :
    Calls Try.prog 10 #[.agg #[.string rlo, .string rhi], .agg #[.string olo, .string ohi]] w fun e w' => e = .returned (.agg #[.string (lo rlo olo), .string (hi rhi ohi)]) ∧ Grown w w' := by
  go_enter Try.func10, Try.ntmps10
  go_wp2_with (first | simp only [run_min_string] | simp only [run_max_string])
  · rw [hi_one rhi ohi ‹_›]
    refine bodyPost_ret (v := .agg #[.string (lo rlo olo), .string ⟨#[]⟩]) (by simp [results, Try.results10, go_sem]) rfl ⟨rfl, ?_⟩
    repeat (first | exact Grown.refl _ | apply Grown.drew | apply Grown.alloc)
  · rw [hi_or rhi ohi ‹_›]
    refine bodyPost_ret (v := .agg #[.string (lo rlo olo), .string ⟨#[]⟩]) (by simp [results, Try.results10, go_sem]) rfl ⟨rfl, ?_⟩
    repeat (first | exact Grown.refl _ | apply Grown.drew | apply Grown.alloc)
  · rw [hi_two rhi ohi ‹_›]
    refine bodyPost_ret (v := .agg #[.string (lo rlo olo), .string (mx rhi ohi)]) (by simp [results, Try.results10, go_sem]) rfl ⟨rfl, ?_⟩
    repeat (first | exact Grown.refl _ | apply Grown.drew | apply Grown.alloc)

theorem zzunion_any (rlo rhi olo ohi : ByteArray) (w : World) :
    Calls Try.prog 6 #[.string rlo, .string rhi, .string olo, .string ohi] w fun e w' => e = .returned (.tuple #[.string (lo rlo olo), .string (hi rhi ohi)]) ∧ Grown w w' := by
  go_enter Try.func6, Try.ntmps6
  go_wp2_with (go_at_call 10; refine (union_any _ _ _ _ _).mono ?_; rintro e w' ⟨rfl, hg⟩)
  go_region
  go_wp2
  go_ret2
  exact ⟨rfl, by repeat (first | exact hg | apply Grown.drew | apply Grown.alloc)⟩

theorem bytes5_any (a0 a1 a2 a3 a4 a5 : ByteArray) (w0 : a0.size ≤ maxLen) (w1 : a1.size ≤ maxLen) (w2 : a2.size ≤ maxLen) (w3 : a3.size ≤ maxLen) (w4 : a4.size ≤ maxLen) (w5 : a5.size ≤ maxLen) (w : World) :
    Calls Try.prog 5 #[.string a0, .string a1, .string a2, .string a3, .string a4, .string a5] w fun e w' => ∃ b, e = .returned (.bool b) ∧ w' = w := by
  unfold maxLen at *
  go_enter Try.func5, Try.ntmps5
  go_wp2
  all_goals (go_ret; exact ⟨_, rfl, rfl⟩)
theorem bytes8_any (a0 a1 a2 a3 a4 a5 : ByteArray) (w0 : a0.size ≤ maxLen) (w1 : a1.size ≤ maxLen) (w2 : a2.size ≤ maxLen) (w3 : a3.size ≤ maxLen) (w4 : a4.size ≤ maxLen) (w5 : a5.size ≤ maxLen) (w : World) :
    Calls Try.prog 8 #[.string a0, .string a1, .string a2, .string a3, .string a4, .string a5] w fun e w' => ∃ b, e = .returned (.bool b) ∧ w' = w := by
  unfold maxLen at *
  go_enter Try.func8, Try.ntmps8
  go_wp2
  all_goals (go_ret; exact ⟨_, rfl, rfl⟩)
end Go.Proofs.Qxb6609120a
