/-
  'Rows.FnAddedWalkRanksAgainstOldCardSaid', proved: the row out of 'law4' (below); the tie is the given one; the card by the kit's builder.
-/
import Derived.Test.Qxb6609120aDoorFrame
import Derived.Test.Qxb6609120aDoorLaw4
import Derived.Test.Qxb6609120aDoorTie
import Derived.Test.Qxb6609120aDoorCards
import Derived.SevenTiedAt
namespace Go.Proofs.Qxb6609120aDoor.fnAddedWalkRanksAgainstOld
open Go.ChangeShapes Go.WideShapes Go.ChangeAt Go.RowKit
set_option linter.unusedVariables false

/-- The Go function returns true. -/
theorem law4 (a1 a2 a3 : Option Addr) (c1 c2 c3 : Nat) (l1 l2 l3 : List Int) (b : Int) (w : World) (h1 : Sl .i64 w (.slice a1 l1.length c1) l1) (h2 : Sl .i64 w (.slice a2 l2.length c2) l2) (h3 : Sl .i64 w (.slice a3 l3.length c3) l3) (hT : Tab w) (hb : wrap64 b = b) :
    Calls Tryd.prog 4 #[.slice a1 l1.length c1, .slice a2 l2.length c2, .slice a3 l3.length c3, .int .i64 b] w fun e w' => e = .returned (.bool true) ∧ Below w.heap.size w w' := by
  by_cases hm : l1.length ≤ 32768 ∧ l2.length ≤ 32768 ∧ l3.length ≤ 32768 ∧ okB l1 = true ∧ okB l2 = true ∧ okB l3 = true
  · obtain ⟨n1, n2, n3, o1, o2, o3⟩ := hm
    exact law4_main a1 a2 a3 c1 c2 c3 l1 l2 l3 b w h1 h2 h3 hT hb n1 n2 n3 o1 o2 o3
  · exact law4_early a1 a2 a3 c1 c2 c3 l1 l2 l3 b w h1 h2 h3 hm

set_option maxRecDepth 100000 in
theorem lifted (os : Os) (started : os.Started) (H : Type) (enc : TypeId × Value → H) :
    ReturnsInHanded {} Tryd.checked os 4 .any (fun w args => (Rows.fnAddedWalkRanksAgainstOldSpec.pre enc Tryd.prog Tryd.f4 [] false w args ∧ laidMetH Tryd.prog laid1 w) ∧ sizedMet enc Tryd.prog Tryd.f4 (OpenSpec.ofChange Rows.fnAddedWalkRanksAgainstOldSpec) false w args)
      (Rows.fnAddedWalkRanksAgainstOldSpec.post enc Tryd.prog Tryd.f4 false true false false) := by
  refine returnsInHanded_of_change_and (C := Tryd.checked) (X := fun w _ => laidMetH Tryd.prog laid1 w) (fun _ _ _ hh h => h.of_heap hh) own started (by kernel_rfl) Tryd.func4
    (ChangeSpec.witness_shaped (enc := enc) (C := Tryd.checked) (os := os) (X := fun w _ => laidMetH Tryd.prog laid1 w) false (World.doorLaid Tryd.prog 100 os) #[.slice none 0 0, .slice none 0 0, .slice none 0 0, .int .i64 0] 8 rfl (World.shaped_of_RefB (by kernel_rfl) (by kernel_rfl)) (by kernel_rfl) (by kernel_rfl) (by kernel_rfl) (door_met os _)) ?_
  intro W base args ds gs before hval0 hW _ _ hL _
  have hval : ∀ (j : Nat) t v, Tryd.f4.params[j]? = some t → args[j]? = some v → Value.okWide Tryd.prog W .any base t v := hval0
  have hW' := hW
  obtain ⟨p, q, hA0, hV, rfl, hfz, hnd⟩ := hW
  have hA : DataW.TrodAll enc Tryd.prog W 0 (fun _ => true) true Tryd.f4.params.toList args.toList ds p := hA0
  rw [Tryd.params4] at hA hval
  obtain ⟨v0, vs0, d0, ds0, p0, q0, hargs, rfl, rfl, h0, r0⟩ := trodAll_cons hA
  obtain ⟨v1, vs1, d1, ds1, p1, q1, rfl, rfl, rfl, h1, r1⟩ := trodAll_cons r0
  obtain ⟨v2, vs2, d2, ds2, p2, q2, rfl, rfl, rfl, h2, r2⟩ := trodAll_cons r1
  obtain ⟨v3, vs3, d3, ds3, p3, q3, rfl, rfl, rfl, h3, r3⟩ := trodAll_cons r2
  obtain ⟨rfl, rfl, rfl⟩ := trodAll_nil r3
  obtain rfl : args = #[v0, v1, v2, v3] := by cases args; simp_all
  obtain ⟨rfl, rfl⟩ := trodVars_none hV
  obtain ⟨a0, len0, cap0, rfl⟩ := okWide_slice Tryd.underlying35 (hval 0 35 v0 rfl rfl)
  have lt0 : ∀ x ∈ p0, x.block < W.heap.size := by obtain ⟨m, hm⟩ := h0; exact DataW.trod_lt m _ _ _ hm
  obtain ⟨l0, rfl, sl0⟩ := slice_in h0
  obtain ⟨a1, len1, cap1, rfl⟩ := okWide_slice Tryd.underlying35 (hval 1 35 v1 rfl rfl)
  have lt1 : ∀ x ∈ p1, x.block < W.heap.size := by obtain ⟨m, hm⟩ := h1; exact DataW.trod_lt m _ _ _ hm
  obtain ⟨l1, rfl, sl1⟩ := slice_in h1
  obtain ⟨a2, len2, cap2, rfl⟩ := okWide_slice Tryd.underlying35 (hval 2 35 v2 rfl rfl)
  have lt2 : ∀ x ∈ p2, x.block < W.heap.size := by obtain ⟨m, hm⟩ := h2; exact DataW.trod_lt m _ _ _ hm
  obtain ⟨l2, rfl, sl2⟩ := slice_in h2
  obtain ⟨n3, rfl, rfl, rfl, w3⟩ := open_int Tryd.underlying2 (hval 3 2 v3 rfl rfl) h3
  clear hA0 hval0
  refine (law4 a0 a1 a2 cap0 cap1 cap2 l0 l1 l2 n3 W sl0 sl1 sl2 (tab_of_laid hL) (w64_in w3)).mono fun e W' ⟨he, bel⟩ => ?_
  subst he
  exact ⟨_, rfl, _, _, _, [], _, [], hW', trodAll_mk1 (shut_bool Tryd.underlying4 _), (trodAll_cons_mk (Below.trod laidOut (by kernel_rfl) (of_decide_eq_true (by kernel_rfl)) h0 bel lt0) (trodAll_cons_mk (Below.trod laidOut (by kernel_rfl) (of_decide_eq_true (by kernel_rfl)) h1 bel lt1) (trodAll_cons_mk (Below.trod laidOut (by kernel_rfl) (of_decide_eq_true (by kernel_rfl)) h2 bel lt2) (trodAll_cons_mk (shut_int Tryd.underlying2 w3) trodAll_mk0)))), rfl, bel.frame _, fun h => by cases h⟩

theorem over : Rows.FnAddedWalkRanksAgainstOldSaid :=
  OpenClaim.holds_of_wide 4 Tryd.f4 rfl rfl rfl rfl rfl rfl rfl ⟨rfl, rfl, rfl, rfl, rfl⟩ rfl rfl rfl rfl rfl (by kernel_rfl) Tryd.func4 (by kernel_rfl)
    (of_decide_eq_true (by kernel_rfl)) (by unfold Func.isWrapper; first | (rw [if_pos (by decide +kernel)]; kernel_rfl) | (rw [if_neg (by decide +kernel)]; exact ⟨rfl, rfl⟩))
    (fun os started H enc _ => lifted os started H enc)

/-- ████ THE STATEMENT ████ -/
theorem proved : Rows.FnAddedWalkRanksAgainstOldCardSaid :=
  Claim7.holds_tied_plain_at .later [] [.data] true (true, "015da4b7f2dda07faf752772c2b3a38a69ed919db3c16c20bdfc66fd065ecf50") false
    over (fun _ h => by cases h) (by kernel_rfl) (fun _ h => by cases h) fnAddedWalkRanksAgainstOld_row_tie rfl ⟨rfl, rfl⟩ (by kernel_rfl) rfl
    (fun f fn hf hfn => by
      obtain rfl : f = 4 := Option.some.inj ((show Tryd.prog.funcNamed "example.com/lithify/lithify/zzlaws_root_b1.FnAddedWalkRanksAgainstOld" = some 4 by kernel_rfl).symm.trans hf) |>.symm
      obtain rfl : fn = Tryd.f4 := (Option.some.inj (Tryd.func4.symm.trans hfn)).symm
      refine ⟨by kernel_rfl, fun j t ht => ?_⟩
      have hm : t ∈ Tryd.f4.params.toList := by
        rw [Array.mem_toList_iff]
        exact Array.mem_of_getElem? ht
      have hall : (Tryd.f4.params.toList.all fun t => Tryd.prog.wantsStandIn t == false) = true := by kernel_rfl
      have hx : Tryd.prog.wantsStandIn t = false := by simpa using List.all_eq_true.1 hall t hm
      exact hx)
    (by kernel_rfl)
end Go.Proofs.Qxb6609120aDoor.fnAddedWalkRanksAgainstOld
