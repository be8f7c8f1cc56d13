/-
  THE FRAMES' SHARED PARTS: what the listed table gives the walk; a slice of integers that came in; an integer that fits.
-/
import Derived.Test.Qxb6609120aDoorLaw6b
import Derived.LaidMore
import Derived.Stop.Joined
import Derived.Lib.LaidTab
import Derived.MakeChecks
import Derived.Carry
import Derived.ProofKit
import Derived.OpenShut
namespace Go.Proofs.Qxb6609120aDoor
open Go.ChangeShapes Go.WideShapes Go.ChangeAt Go.RowKit
set_option linter.unusedVariables false

theorem own : ownKnob Tryd.prog.godebug = none := by kernel_rfl
theorem laidOut : laidOutB Tryd.prog = true := by kernel_rfl
/-- The row's list. -/
def laid1 : List (String × DataW Unit) := [("math/bits.deBruijn64tab", Rows.laid_math_bits_deBruijn64tab)]
theorem gTab : Tryd.prog.globalNamed "math/bits.deBruijn64tab" = some (Tryd.lays29_ren.g 1) := by kernel_rfl

/-- The door's own heap meets the condition. -/
theorem door_met (os : Os) (args : Array Value) : laidMetH Tryd.prog laid1 ((World.doorLaid Tryd.prog 100 os).forCall (fun _ _ => 0) ⟨#[], args, []⟩).memory :=
  laidMetH_of_parts3 (fuel := 8) (laidMet_of_run' 8 (by kernel_rfl) (by kernel_rfl)) (by kernel_rfl) (by kernel_rfl)

/-- The condition gives the walk its table. -/
theorem tab_of_laid {W : World} (h : laidMetH Tryd.prog laid1 W) : Tab W := by
  rw [MakeChecks.laidMetH_plain _ _ _ (by kernel_rfl)] at h
  have h2 : laidMet Tryd.prog (("math/bits.deBruijn64tab", Lib.tabData .u8 (Lib.deBruijn64tab.map (fun (n : Nat) => (n : Int)))) :: []) W := h
  have hT := Lib.tabIs_of_head (g := Tryd.lays29_ren.g 1) gTab (t := 111) (by kernel_rfl) (n := 64) (e := 5) (by kernel_rfl) (by kernel_rfl) (by kernel_rfl) (by kernel_rfl) h2
  intro j hj
  have := hT.cell gTab j (by simpa using hj)
  rw [this]
  simp [List.getD, hj]

/-- A slice of integers that came in. -/
theorem slice_in {H : Type} {enc : TypeId × Value → H} {W : World} {a : Option Addr} {len cap : Nat} {d : DataW H} {p : List MemPlace} (h : DataW.Trod enc Tryd.prog W 0 (fun _ => true) true 35 (.slice a len cap) d p) :
    ∃ l : List Int, len = l.length ∧ Sl .i64 W (.slice a l.length cap) l := by
  obtain ⟨fuel, hf⟩ := h
  rcases open_ints Tryd.underlying35 Tryd.underlying2 (by kernel_rfl) hf with ⟨hcs, _⟩ | ⟨x, l, c, zs, hcs, _, hl, hm, hz, _, hcell, hwz⟩
  · simp [Value.cells] at hcs
    obtain ⟨rfl, rfl, rfl⟩ := hcs
    exact ⟨[], rfl, none, 0, rfl, Nat.le_refl _, fun _ => rfl, fun h => absurd rfl h⟩
  · simp [Value.cells] at hcs
    obtain ⟨rfl, rfl, rfl⟩ := hcs
    have hz' : zs.length = cap := by simpa using hz
    have hlen : len = (zs.take len).length := by rw [List.length_take]; omega
    refine ⟨zs.take len, hlen, some x, cap, rfl, by omega, fun h => (by cases h), fun hne => ?_⟩
    have hpos : 0 < len := by have := List.length_pos_iff.2 hne; omega
    obtain ⟨b, off, spot⟩ := x
    have hspot : spot = none := by simpa [Addr.add] using World.cell?_spot (hcell 0 (by omega))
    subst hspot
    refine ⟨b, off, rfl, fun i hi => ?_⟩
    have h2 : i < zs.length := by omega
    have := hcell i h2
    rw [Addr.add_lit] at this
    rw [this]
    simp [h2, List.getD]

/-- An integer that came in fits. -/
theorem w64_in {n : Int} (h : (Lit.int .i64 n).wf = true) : wrap64 n = n := by
  have h2 : (decide (IntKind.i64.min ≤ n) && decide (n ≤ IntKind.i64.max)) = true := h
  rw [Bool.and_eq_true, decide_eq_true_iff, decide_eq_true_iff] at h2
  have e1 : IntKind.i64.min = -9223372036854775808 := by decide
  have e2 : IntKind.i64.max = 9223372036854775807 := by decide
  rw [e1, e2] at h2
  obtain ⟨a, b⟩ := h2
  clear e1 e2 h
  unfold wrap64
  omega

/-- FnSegmentWithDeadFirstDeathKept returns true. -/
theorem law6 (rows : Int) (jm : Bool) (a1 a2 a3 : Option Addr) (c1 c2 c3 : Nat) (l1 l2 l3 : List Int) (s1 s2 s3 t1 t2 t3 : Int) (w : World) (h1 : Sl .i64 w (.slice a1 l1.length c1) l1) (h2 : Sl .i64 w (.slice a2 l2.length c2) l2) (h3 : Sl .i64 w (.slice a3 l3.length c3) l3) (hT : Tab w) (r1 : wrap64 s1 = s1) :
    Calls Tryd.prog 6 #[.int .i64 rows, .bool jm, .slice a1 l1.length c1, .slice a2 l2.length c2, .slice a3 l3.length c3, .int .i64 s1, .int .i64 s2, .int .i64 s3, .int .i64 t1, .int .i64 t2, .int .i64 t3] w fun e w' => e = .returned (.bool true) ∧ Below w.heap.size w w' := by
  by_cases hm : l1.length ≤ 32768 ∧ l2.length ≤ 32768 ∧ l3.length ≤ 32768 ∧ okB l1 = true ∧ okB l2 = true ∧ okB l3 = true
  · obtain ⟨n1, n2, n3, o1, o2, o3⟩ := hm
    have d1 : Hid (wrap64 (0 + s1) = s1) := by
      show wrap64 (0 + s1) = s1
      rw [Int.zero_add]; exact r1
    by_cases q1 : 0 < l1.length
    · exact law6_main rows jm a1 a2 a3 c1 c2 c3 l1 l2 l3 s1 s2 s3 t1 t2 t3 t1 w h1 h2 h3 hT n1 n2 n3 o1 o2 o3 d1 (.inl ⟨q1, rfl⟩)
    · by_cases q2 : 0 < l2.length
      · exact law6_main rows jm a1 a2 a3 c1 c2 c3 l1 l2 l3 s1 s2 s3 t1 t2 t3 t2 w h1 h2 h3 hT n1 n2 n3 o1 o2 o3 d1 (.inr (.inl ⟨Nat.eq_zero_of_not_pos q1, q2, rfl⟩))
      · exact law6_main rows jm a1 a2 a3 c1 c2 c3 l1 l2 l3 s1 s2 s3 t1 t2 t3 t3 w h1 h2 h3 hT n1 n2 n3 o1 o2 o3 d1 (.inr (.inr ⟨Nat.eq_zero_of_not_pos q1, Nat.eq_zero_of_not_pos q2, rfl⟩))
  · exact law6_early rows jm a1 a2 a3 c1 c2 c3 l1 l2 l3 s1 s2 s3 t1 t2 t3 w h1 h2 h3 hm
end Go.Proofs.Qxb6609120aDoor
