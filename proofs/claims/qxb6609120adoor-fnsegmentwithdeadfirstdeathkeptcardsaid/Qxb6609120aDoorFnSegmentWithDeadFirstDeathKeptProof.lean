/-
  'Rows.FnSegmentWithDeadFirstDeathKeptCardSaid', proved: the row out of 'law6' (Qxb6609120aDoorFrame); the tie is the given one; the card by the kit's builder.
-/
import Derived.Test.Qxb6609120aDoorFrame
import Derived.Test.Qxb6609120aDoorTie
import Derived.Test.Qxb6609120aDoorCards
import Derived.SevenTiedAt
namespace Go.Proofs.Qxb6609120aDoor.fnSegmentWithDeadFirstDeathKept
open Go.ChangeShapes Go.WideShapes Go.ChangeAt Go.RowKit
set_option linter.unusedVariables false

set_option maxRecDepth 100000 in
theorem lifted (os : Os) (started : os.Started) (H : Type) (enc : TypeId × Value → H) :
    ReturnsInHanded {} Tryd.checked os 6 .any (fun w args => (Rows.fnSegmentWithDeadFirstDeathKeptSpec.pre enc Tryd.prog Tryd.f6 [] false w args ∧ laidMetH Tryd.prog laid1 w) ∧ sizedMet enc Tryd.prog Tryd.f6 (OpenSpec.ofChange Rows.fnSegmentWithDeadFirstDeathKeptSpec) false w args)
      (Rows.fnSegmentWithDeadFirstDeathKeptSpec.post enc Tryd.prog Tryd.f6 false true false false) := by
  refine returnsInHanded_of_change_and (C := Tryd.checked) (X := fun w _ => laidMetH Tryd.prog laid1 w) (fun _ _ _ hh h => h.of_heap hh) own started (by kernel_rfl) Tryd.func6
    (ChangeSpec.witness_shaped (enc := enc) (C := Tryd.checked) (os := os) (X := fun w _ => laidMetH Tryd.prog laid1 w) false (World.doorLaid Tryd.prog 100 os) #[.int .i64 0, .bool false, .slice none 0 0, .slice none 0 0, .slice none 0 0, .int .i64 0, .int .i64 0, .int .i64 0, .int .i64 0, .int .i64 0, .int .i64 0] 8 rfl (World.shaped_of_RefB (by kernel_rfl) (by kernel_rfl)) (by kernel_rfl) (by kernel_rfl) (by kernel_rfl) (door_met os _)) ?_
  intro W base args ds gs before hval0 hW _ _ hL _
  have hval : ∀ (j : Nat) t v, Tryd.f6.params[j]? = some t → args[j]? = some v → Value.okWide Tryd.prog W .any base t v := hval0
  have hW' := hW
  obtain ⟨p, q, hA0, hV, rfl, hfz, hnd⟩ := hW
  have hA : DataW.TrodAll enc Tryd.prog W 0 (fun _ => true) true Tryd.f6.params.toList args.toList ds p := hA0
  rw [Tryd.params6] at hA hval
  obtain ⟨v0, vs0, d0, ds0, p0, q0, hargs, rfl, rfl, h0, r0⟩ := trodAll_cons hA
  obtain ⟨v1, vs1, d1, ds1, p1, q1, rfl, rfl, rfl, h1, r1⟩ := trodAll_cons r0
  obtain ⟨v2, vs2, d2, ds2, p2, q2, rfl, rfl, rfl, h2, r2⟩ := trodAll_cons r1
  obtain ⟨v3, vs3, d3, ds3, p3, q3, rfl, rfl, rfl, h3, r3⟩ := trodAll_cons r2
  obtain ⟨v4, vs4, d4, ds4, p4, q4, rfl, rfl, rfl, h4, r4⟩ := trodAll_cons r3
  obtain ⟨v5, vs5, d5, ds5, p5, q5, rfl, rfl, rfl, h5, r5⟩ := trodAll_cons r4
  obtain ⟨v6, vs6, d6, ds6, p6, q6, rfl, rfl, rfl, h6, r6⟩ := trodAll_cons r5
  obtain ⟨v7, vs7, d7, ds7, p7, q7, rfl, rfl, rfl, h7, r7⟩ := trodAll_cons r6
  obtain ⟨v8, vs8, d8, ds8, p8, q8, rfl, rfl, rfl, h8, r8⟩ := trodAll_cons r7
  obtain ⟨v9, vs9, d9, ds9, p9, q9, rfl, rfl, rfl, h9, r9⟩ := trodAll_cons r8
  obtain ⟨v10, vs10, d10, ds10, p10, q10, rfl, rfl, rfl, h10, r10⟩ := trodAll_cons r9
  obtain ⟨rfl, rfl, rfl⟩ := trodAll_nil r10
  obtain rfl : args = #[v0, v1, v2, v3, v4, v5, v6, v7, v8, v9, v10] := by cases args; simp_all
  obtain ⟨rfl, rfl⟩ := trodVars_none hV
  obtain ⟨n0, rfl, rfl, rfl, w0⟩ := open_int Tryd.underlying2 (hval 0 2 v0 rfl rfl) h0
  obtain ⟨jm, rfl, rfl, rfl⟩ := open_bool Tryd.underlying4 (hval 1 4 v1 rfl rfl) h1
  obtain ⟨a2, len2, cap2, rfl⟩ := okWide_slice Tryd.underlying35 (hval 2 35 v2 rfl rfl)
  have lt2 : ∀ x ∈ p2, x.block < W.heap.size := by obtain ⟨m, hm⟩ := h2; exact DataW.trod_lt m _ _ _ hm
  obtain ⟨l2, rfl, sl2⟩ := slice_in h2
  obtain ⟨a3, len3, cap3, rfl⟩ := okWide_slice Tryd.underlying35 (hval 3 35 v3 rfl rfl)
  have lt3 : ∀ x ∈ p3, x.block < W.heap.size := by obtain ⟨m, hm⟩ := h3; exact DataW.trod_lt m _ _ _ hm
  obtain ⟨l3, rfl, sl3⟩ := slice_in h3
  obtain ⟨a4, len4, cap4, rfl⟩ := okWide_slice Tryd.underlying35 (hval 4 35 v4 rfl rfl)
  have lt4 : ∀ x ∈ p4, x.block < W.heap.size := by obtain ⟨m, hm⟩ := h4; exact DataW.trod_lt m _ _ _ hm
  obtain ⟨l4, rfl, sl4⟩ := slice_in h4
  obtain ⟨n5, rfl, rfl, rfl, w5⟩ := open_int Tryd.underlying2 (hval 5 2 v5 rfl rfl) h5
  obtain ⟨n6, rfl, rfl, rfl, w6⟩ := open_int Tryd.underlying2 (hval 6 2 v6 rfl rfl) h6
  obtain ⟨n7, rfl, rfl, rfl, w7⟩ := open_int Tryd.underlying2 (hval 7 2 v7 rfl rfl) h7
  obtain ⟨n8, rfl, rfl, rfl, w8⟩ := open_int Tryd.underlying2 (hval 8 2 v8 rfl rfl) h8
  obtain ⟨n9, rfl, rfl, rfl, w9⟩ := open_int Tryd.underlying2 (hval 9 2 v9 rfl rfl) h9
  obtain ⟨n10, rfl, rfl, rfl, w10⟩ := open_int Tryd.underlying2 (hval 10 2 v10 rfl rfl) h10
  clear hA0 hval0
  refine (law6 n0 jm a2 a3 a4 cap2 cap3 cap4 l2 l3 l4 n5 n6 n7 n8 n9 n10 W sl2 sl3 sl4 (tab_of_laid hL) (w64_in w5)).mono fun e W' ⟨he, bel⟩ => ?_
  subst he
  exact ⟨_, rfl, _, _, _, [], _, [], hW', trodAll_mk1 (shut_bool Tryd.underlying4 _), (trodAll_cons_mk (shut_int Tryd.underlying2 w0) (trodAll_cons_mk (shut_bool Tryd.underlying4 _) (trodAll_cons_mk (Below.trod laidOut (by kernel_rfl) (of_decide_eq_true (by kernel_rfl)) h2 bel lt2) (trodAll_cons_mk (Below.trod laidOut (by kernel_rfl) (of_decide_eq_true (by kernel_rfl)) h3 bel lt3) (trodAll_cons_mk (Below.trod laidOut (by kernel_rfl) (of_decide_eq_true (by kernel_rfl)) h4 bel lt4) (trodAll_cons_mk (shut_int Tryd.underlying2 w5) (trodAll_cons_mk (shut_int Tryd.underlying2 w6) (trodAll_cons_mk (shut_int Tryd.underlying2 w7) (trodAll_cons_mk (shut_int Tryd.underlying2 w8) (trodAll_cons_mk (shut_int Tryd.underlying2 w9) (trodAll_cons_mk (shut_int Tryd.underlying2 w10) trodAll_mk0))))))))))), rfl, bel.frame _, fun h => by cases h⟩

theorem over : Rows.FnSegmentWithDeadFirstDeathKeptSaid :=
  OpenClaim.holds_of_wide 6 Tryd.f6 rfl rfl rfl rfl rfl rfl rfl ⟨rfl, rfl, rfl, rfl, rfl⟩ rfl rfl rfl rfl rfl (by kernel_rfl) Tryd.func6 (by kernel_rfl)
    (of_decide_eq_true (by kernel_rfl)) (by unfold Func.isWrapper; first | (rw [if_pos (by decide +kernel)]; kernel_rfl) | (rw [if_neg (by decide +kernel)]; exact ⟨rfl, rfl⟩))
    (fun os started H enc _ => lifted os started H enc)

/-- ████ THE STATEMENT ████ -/
theorem proved : Rows.FnSegmentWithDeadFirstDeathKeptCardSaid :=
  Claim7.holds_tied_plain_at .later [] [.data] true (true, "015da4b7f2dda07faf752772c2b3a38a69ed919db3c16c20bdfc66fd065ecf50") false
    over (fun _ h => by cases h) (by kernel_rfl) (fun _ h => by cases h) fnSegmentWithDeadFirstDeathKept_row_tie rfl ⟨rfl, rfl⟩ (by kernel_rfl) rfl
    (fun f fn hf hfn => by
      obtain rfl : f = 6 := Option.some.inj ((show Tryd.prog.funcNamed "example.com/lithify/lithify/zzlaws_root_b1.FnSegmentWithDeadFirstDeathKept" = some 6 by kernel_rfl).symm.trans hf) |>.symm
      obtain rfl : fn = Tryd.f6 := (Option.some.inj (Tryd.func6.symm.trans hfn)).symm
      refine ⟨by kernel_rfl, fun j t ht => ?_⟩
      have hm : t ∈ Tryd.f6.params.toList := by
        rw [Array.mem_toList_iff]
        exact Array.mem_of_getElem? ht
      have hall : (Tryd.f6.params.toList.all fun t => Tryd.prog.wantsStandIn t == false) = true := by kernel_rfl
      have hx : Tryd.prog.wantsStandIn t = false := by simpa using List.all_eq_true.1 hall t hm
      exact hx)
    (by kernel_rfl)
end Go.Proofs.Qxb6609120aDoor.fnSegmentWithDeadFirstDeathKept
