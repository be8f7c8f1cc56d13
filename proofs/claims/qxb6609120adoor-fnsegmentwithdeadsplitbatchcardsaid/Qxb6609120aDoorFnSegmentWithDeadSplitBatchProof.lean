/-
  'Rows.FnSegmentWithDeadSplitBatchCardSaid', proved: the row out of 'law5' (below); the tie is the given one; the card by the kit's builder.
-/
import Derived.Test.Qxb6609120aDoorFrame
import Derived.Test.Qxb6609120aDoorLaw5b
import Derived.Test.Qxb6609120aDoorTie
import Derived.Test.Qxb6609120aDoorCards
import Derived.SevenTiedAt
namespace Go.Proofs.Qxb6609120aDoor.fnSegmentWithDeadSplitBatch
open Go.ChangeShapes Go.WideShapes Go.ChangeAt Go.RowKit
set_option linter.unusedVariables false

/-- An integer that came in lies below 2^63. -/
theorem lt64_in {n : Int} (h : (Lit.int .i64 n).wf = true) : n < 9223372036854775808 := by
  have h2 : (decide (IntKind.i64.min ≤ n) && decide (n ≤ IntKind.i64.max)) = true := h
  rw [Bool.and_eq_true, decide_eq_true_iff, decide_eq_true_iff] at h2
  have e2 : IntKind.i64.max = 9223372036854775807 := by decide
  rw [e2] at h2
  exact Int.lt_of_le_of_lt h2.2 (by decide)

/-- The Go function returns true. -/
theorem law5 (rows : Int) (jm : Bool) (a1 a2 a3 : Option Addr) (c1 c2 c3 : Nat) (l1 l2 l3 : List Int) (dr db ds s1 s2 t : Int) (w : World) (h1 : Sl .i64 w (.slice a1 l1.length c1) l1) (h2 : Sl .i64 w (.slice a2 l2.length c2) l2) (h3 : Sl .i64 w (.slice a3 l3.length c3) l3) (hT : Tab w) (r1 : dr < 9223372036854775808) :
    Calls Tryd.prog 5 #[.slice a1 l1.length c1, .int .i64 dr, .int .i64 db, .int .i64 ds, .int .i64 rows, .bool jm, .slice a2 l2.length c2, .slice a3 l3.length c3, .int .i64 s1, .int .i64 s2, .int .i64 t] w fun e w' => e = .returned (.bool true) ∧ Below w.heap.size w w' := by
  by_cases hm : l1.length ≤ 32768 ∧ l2.length ≤ 32768 ∧ l3.length ≤ 32768 ∧ okB l1 = true ∧ okB l2 = true ∧ okB l3 = true ∧ 0 ≤ dr
  · obtain ⟨n1, n2, n3, o1, o2, o3, hd⟩ := hm
    by_cases q1 : 0 < dr
    · exact law5_main rows jm a1 a2 a3 c1 c2 c3 l1 l2 l3 dr db ds s1 s2 t ds w h1 h2 h3 hT n1 n2 n3 o1 o2 o3 _ (.inl ⟨q1, r1, rfl, rfl⟩)
    · exact law5_main rows jm a1 a2 a3 c1 c2 c3 l1 l2 l3 dr db ds s1 s2 t t w h1 h2 h3 hT n1 n2 n3 o1 o2 o3 _ (.inr ⟨Int.le_antisymm (Int.not_lt.1 q1) hd, rfl, rfl⟩)
  · exact law5_early rows jm a1 a2 a3 c1 c2 c3 l1 l2 l3 dr db ds s1 s2 t w h1 h2 h3 hm

set_option maxRecDepth 100000 in
theorem lifted (os : Os) (started : os.Started) (H : Type) (enc : TypeId × Value → H) :
    ReturnsInHanded {} Tryd.checked os 5 .any (fun w args => (Rows.fnSegmentWithDeadSplitBatchSpec.pre enc Tryd.prog Tryd.f5 [] false w args ∧ laidMetH Tryd.prog laid1 w) ∧ sizedMet enc Tryd.prog Tryd.f5 (OpenSpec.ofChange Rows.fnSegmentWithDeadSplitBatchSpec) false w args)
      (Rows.fnSegmentWithDeadSplitBatchSpec.post enc Tryd.prog Tryd.f5 false true false false) := by
  refine returnsInHanded_of_change_and (C := Tryd.checked) (X := fun w _ => laidMetH Tryd.prog laid1 w) (fun _ _ _ hh h => h.of_heap hh) own started (by kernel_rfl) Tryd.func5
    (ChangeSpec.witness_shaped (enc := enc) (C := Tryd.checked) (os := os) (X := fun w _ => laidMetH Tryd.prog laid1 w) false (World.doorLaid Tryd.prog 100 os) #[.slice none 0 0, .int .i64 0, .int .i64 0, .int .i64 0, .int .i64 0, .bool false, .slice none 0 0, .slice none 0 0, .int .i64 0, .int .i64 0, .int .i64 0] 8 rfl (World.shaped_of_RefB (by kernel_rfl) (by kernel_rfl)) (by kernel_rfl) (by kernel_rfl) (by kernel_rfl) (door_met os _)) ?_
  intro W base args ds gs before hval0 hW _ _ hL _
  have hval : ∀ (j : Nat) t v, Tryd.f5.params[j]? = some t → args[j]? = some v → Value.okWide Tryd.prog W .any base t v := hval0
  have hW' := hW
  obtain ⟨p, q, hA0, hV, rfl, hfz, hnd⟩ := hW
  have hA : DataW.TrodAll enc Tryd.prog W 0 (fun _ => true) true Tryd.f5.params.toList args.toList ds p := hA0
  rw [Tryd.params5] at hA hval
  obtain ⟨v0, vs0, d0, ds0, p0, q0, hargs, rfl, rfl, h0, r0⟩ := trodAll_cons hA
  obtain ⟨v1, vs1, d1, ds1, p1, q1, rfl, rfl, rfl, h1, r1⟩ := trodAll_cons r0
  obtain ⟨v2, vs2, d2, ds2, p2, q2, rfl, rfl, rfl, h2, r2⟩ := trodAll_cons r1
  obtain ⟨v3, vs3, d3, ds3, p3, q3, rfl, rfl, rfl, h3, r3⟩ := trodAll_cons r2
  obtain ⟨v4, vs4, d4, ds4, p4, q4, rfl, rfl, rfl, h4, r4⟩ := trodAll_cons r3
  obtain ⟨v5, vs5, d5, ds5, p5, q5, rfl, rfl, rfl, h5, r5⟩ := trodAll_cons r4
  obtain ⟨v6, vs6, d6, ds6, p6, q6, rfl, rfl, rfl, h6, r6⟩ := trodAll_cons r5
  obtain ⟨v7, vs7, d7, ds7, p7, q7, rfl, rfl, rfl, h7, r7⟩ := trodAll_cons r6
  obtain ⟨v8, vs8, d8, ds8, p8, q8, rfl, rfl, rfl, h8, r8⟩ := trodAll_cons r7
  obtain ⟨v9, vs9, d9, ds9, p9, q9, rfl, rfl, rfl, h9, r9⟩ := trodAll_cons r8
  obtain ⟨v10, vs10, d10, ds10, p10, q10, rfl, rfl, rfl, h10, r10⟩ := trodAll_cons r9
  obtain ⟨rfl, rfl, rfl⟩ := trodAll_nil r10
  obtain rfl : args = #[v0, v1, v2, v3, v4, v5, v6, v7, v8, v9, v10] := by cases args; simp_all
  obtain ⟨rfl, rfl⟩ := trodVars_none hV
  obtain ⟨a0, len0, cap0, rfl⟩ := okWide_slice Tryd.underlying35 (hval 0 35 v0 rfl rfl)
  have lt0 : ∀ x ∈ p0, x.block < W.heap.size := by obtain ⟨m, hm⟩ := h0; exact DataW.trod_lt m _ _ _ hm
  obtain ⟨l0, rfl, sl0⟩ := slice_in h0
  obtain ⟨n1, rfl, rfl, rfl, w1⟩ := open_int Tryd.underlying2 (hval 1 2 v1 rfl rfl) h1
  obtain ⟨n2, rfl, rfl, rfl, w2⟩ := open_int Tryd.underlying2 (hval 2 2 v2 rfl rfl) h2
  obtain ⟨n3, rfl, rfl, rfl, w3⟩ := open_int Tryd.underlying2 (hval 3 2 v3 rfl rfl) h3
  obtain ⟨n4, rfl, rfl, rfl, w4⟩ := open_int Tryd.underlying2 (hval 4 2 v4 rfl rfl) h4
  obtain ⟨jm, rfl, rfl, rfl⟩ := open_bool Tryd.underlying4 (hval 5 4 v5 rfl rfl) h5
  obtain ⟨a6, len6, cap6, rfl⟩ := okWide_slice Tryd.underlying35 (hval 6 35 v6 rfl rfl)
  have lt6 : ∀ x ∈ p6, x.block < W.heap.size := by obtain ⟨m, hm⟩ := h6; exact DataW.trod_lt m _ _ _ hm
  obtain ⟨l6, rfl, sl6⟩ := slice_in h6
  obtain ⟨a7, len7, cap7, rfl⟩ := okWide_slice Tryd.underlying35 (hval 7 35 v7 rfl rfl)
  have lt7 : ∀ x ∈ p7, x.block < W.heap.size := by obtain ⟨m, hm⟩ := h7; exact DataW.trod_lt m _ _ _ hm
  obtain ⟨l7, rfl, sl7⟩ := slice_in h7
  obtain ⟨n8, rfl, rfl, rfl, w8⟩ := open_int Tryd.underlying2 (hval 8 2 v8 rfl rfl) h8
  obtain ⟨n9, rfl, rfl, rfl, w9⟩ := open_int Tryd.underlying2 (hval 9 2 v9 rfl rfl) h9
  obtain ⟨n10, rfl, rfl, rfl, w10⟩ := open_int Tryd.underlying2 (hval 10 2 v10 rfl rfl) h10
  clear hA0 hval0
  refine (law5 n4 jm a0 a6 a7 cap0 cap6 cap7 l0 l6 l7 n1 n2 n3 n8 n9 n10 W sl0 sl6 sl7 (tab_of_laid hL) (lt64_in w1)).mono fun e W' ⟨he, bel⟩ => ?_
  subst he
  exact ⟨_, rfl, _, _, _, [], _, [], hW', trodAll_mk1 (shut_bool Tryd.underlying4 _), (trodAll_cons_mk (Below.trod laidOut (by kernel_rfl) (of_decide_eq_true (by kernel_rfl)) h0 bel lt0) (trodAll_cons_mk (shut_int Tryd.underlying2 w1) (trodAll_cons_mk (shut_int Tryd.underlying2 w2) (trodAll_cons_mk (shut_int Tryd.underlying2 w3) (trodAll_cons_mk (shut_int Tryd.underlying2 w4) (trodAll_cons_mk (shut_bool Tryd.underlying4 _) (trodAll_cons_mk (Below.trod laidOut (by kernel_rfl) (of_decide_eq_true (by kernel_rfl)) h6 bel lt6) (trodAll_cons_mk (Below.trod laidOut (by kernel_rfl) (of_decide_eq_true (by kernel_rfl)) h7 bel lt7) (trodAll_cons_mk (shut_int Tryd.underlying2 w8) (trodAll_cons_mk (shut_int Tryd.underlying2 w9) (trodAll_cons_mk (shut_int Tryd.underlying2 w10) trodAll_mk0))))))))))), rfl, bel.frame _, fun h => by cases h⟩

theorem over : Rows.FnSegmentWithDeadSplitBatchSaid :=
  OpenClaim.holds_of_wide 5 Tryd.f5 rfl rfl rfl rfl rfl rfl rfl ⟨rfl, rfl, rfl, rfl, rfl⟩ rfl rfl rfl rfl rfl (by kernel_rfl) Tryd.func5 (by kernel_rfl)
    (of_decide_eq_true (by kernel_rfl)) (by unfold Func.isWrapper; first | (rw [if_pos (by decide +kernel)]; kernel_rfl) | (rw [if_neg (by decide +kernel)]; exact ⟨rfl, rfl⟩))
    (fun os started H enc _ => lifted os started H enc)

/-- ████ THE STATEMENT ████ -/
theorem proved : Rows.FnSegmentWithDeadSplitBatchCardSaid :=
  Claim7.holds_tied_plain_at .later [] [.data] true (true, "015da4b7f2dda07faf752772c2b3a38a69ed919db3c16c20bdfc66fd065ecf50") false
    over (fun _ h => by cases h) (by kernel_rfl) (fun _ h => by cases h) fnSegmentWithDeadSplitBatch_row_tie rfl ⟨rfl, rfl⟩ (by kernel_rfl) rfl
    (fun f fn hf hfn => by
      obtain rfl : f = 5 := Option.some.inj ((show Tryd.prog.funcNamed "example.com/lithify/lithify/zzlaws_root_b1.FnSegmentWithDeadSplitBatch" = some 5 by kernel_rfl).symm.trans hf) |>.symm
      obtain rfl : fn = Tryd.f5 := (Option.some.inj (Tryd.func5.symm.trans hfn)).symm
      refine ⟨by kernel_rfl, fun j t ht => ?_⟩
      have hm : t ∈ Tryd.f5.params.toList := by
        rw [Array.mem_toList_iff]
        exact Array.mem_of_getElem? ht
      have hall : (Tryd.f5.params.toList.all fun t => Tryd.prog.wantsStandIn t == false) = true := by kernel_rfl
      have hx : Tryd.prog.wantsStandIn t = false := by simpa using List.all_eq_true.1 hall t hm
      exact hx)
    (by kernel_rfl)
end Go.Proofs.Qxb6609120aDoor.fnSegmentWithDeadSplitBatch
