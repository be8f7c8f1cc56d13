/-
  'Rows.FnTermFieldInjectiveAndNestedToldSaid', proved: fmt's text told by the authors' Lean function.
-/
import Derived.Test.Qxb6614965aFmtCards
import Derived.Test.Qxb6614965aFmtSteps
import Derived.Stop.JoinedAt
import Derived.SizedLaws
import Derived.SevenToldRow
namespace Go.Proofs.Qxb6614965aFmt.fnTermFieldInjectiveAndNested
open Go.ChangeShapes Go.WideShapes Go.ChangeAt Go.RowKit Go.Kit
open Go.ChangeMaps (open_string shut_string)
open Go.Extern.Stop Go.Stop Go.Extern

theorem own : ownKnob Tryf.prog.godebug = none := by kernel_rfl

theorem bytes_any (f : ByteArray) (j k : Int) (hf : f.size ≤ maxLen) (w : World) :
    Calls Tryf.prog 12 #[.string f, .int .i64 j, .int .i64 k] w fun e w' => ∃ b, e = .returned (.bool b) ∧ w' = w := by
  unfold maxLen at hf
  go_enter Tryf.func12, Tryf.ntmps12
  go_wp2
  all_goals (go_ret; exact ⟨_, rfl, rfl⟩)

theorem grantAt_any (f : ByteArray) (w : World) :
    Calls Tryf.prog 10 #[.string f] w fun e w' => e = .returned (.pointer (some ⟨w.heap.size, 0, none⟩)) ∧ ∃ c : Array Value, c[11]? = some (.string f) ∧ w' = w.alloc (.cells c 39) := by
  go_enter Tryf.func10, Tryf.ntmps10
  go_wp2
  go_ret
  exact ⟨rfl, _, rfl, rfl⟩

/-- The two grants lie in memory. -/
structure St (F : Interp) (B : Nat) (f : ByteArray) (w w1 : World) : Prop where
  ans : F.told.answers w1.tape
  size : B + 1 < w1.heap.size
  c1 : w1.cell? ⟨B, 11, none⟩ = some (.string f)
  c2 : w1.cell? ⟨B + 1, 11, none⟩ = some (.string ⟨#[]⟩)
  bel : Below B w w1
theorem St.next {F : Interp} {B : Nat} {f : ByteArray} {w w1 w2 : World} (S : St F B f w w1) (h : Below w1.heap.size w1 w2) : St F B f w w2 where
  ans := by rw [h.tape]; exact S.ans
  size := Nat.lt_of_lt_of_le S.size h.size
  c1 := by rw [h.cell (p := ⟨B, 11, none⟩) (by have := S.size; simp; omega)]; exact S.c1
  c2 := by rw [h.cell (p := ⟨B + 1, 11, none⟩) (by have := S.size; simp; omega)]; exact S.c2
  bel := S.bel.trans (h.mono (by have := S.size; omega))

theorem St.start (F : Interp) (f : ByteArray) (w : World) (c c0 : Array Value) (hc : c[11]? = some (.string f)) (hc0 : c0[11]? = some (.string ⟨#[]⟩)) (hF : F.told.answers w.tape) :
    St F w.heap.size f w ((w.alloc (.cells c 39)).alloc (.cells c0 39)) where
  ans := hF
  size := by simp
  c1 := by rw [World.cell?_alloc_lt _ _ _ (by simp), World.cell?_alloc_new]; exact hc
  c2 := by
    have : (w.alloc (.cells c 39)).heap.size = w.heap.size + 1 := by simp
    rw [← this, World.cell?_alloc_new]; exact hc0
  bel := ((Below.refl _ _).alloc (Nat.le_refl _) _).alloc (by simp) _

theorem inGrant_size (f s : ByteArray) : (inGrant f s).size = (Plain.pre f.data.toList).length + s.size := by
  show (Plain.pre f.data.toList ++ s.data.toList).toArray.size = _
  rw [List.size_toArray, List.length_append]
  rfl
theorem pathS_len (k : Int) : (pathS k).size = 17 + (Lib.itoa k).length := by
  rw [← Plain.path_len]; simp [pathS, ByteArray.size]
theorem inGrant_eq (f : ByteArray) (j k : Int) : ((inGrant f (pathS j)).toList == (inGrant f (pathS k)).toList) = (j == k) := by
  rw [Bool.eq_iff_iff, beq_iff_eq, beq_iff_eq, ByteArray.toList_eq, ByteArray.toList_eq]
  constructor
  · intro h
    simp [inGrant, pathS] at h
    exact Plain.path_inj h
  · rintro rfl; rfl
theorem inGrant_nil (s : ByteArray) : inGrant ⟨#[]⟩ s = s := inGrant_top _ _ (by rw [ByteArray.toList_eq]; rfl)

set_option maxRecDepth 10000 in
theorem walk (F : Interp) (f : ByteArray) (j k : Int) (wf : f.size ≤ maxLen) (wj : (Lit.int .i64 j).wf = true) (wk : (Lit.int .i64 k).wf = true) (w : World) (hF : F.told.answers w.tape) :
    Calls Tryf.prog 5 #[.string f, .int .i64 j, .int .i64 k] w fun e w' => e = .returned (.bool true) ∧ Below w.heap.size w w' := by
  unfold maxLen at wf
  have e1 := inGrant_eq f j k
  have hF0 : Hid (F.told.answers w.tape) := hF
  have Wj : Hid ((Lit.int .i64 j).wf = true) := wj
  have Wk : Hid ((Lit.int .i64 k).wf = true) := wk
  have bj := bounds_i64 wj
  clear hF wj wk
  go_enter Tryf.func5, Tryf.ntmps5
  go_wp2_with (first
      | (go_at_call 12; refine (bytes_any _ _ _ (by unfold maxLen; assumption) _).mono ?_; rintro e w' ⟨b, rfl, rfl⟩)
      | (go_at_call 10; refine (grantAt_any _ _).mono ?_; rintro e w1 ⟨rfl, c, hc, rfl⟩))
  · go_ret
    exact ⟨rfl, Below.refl _ _⟩
  · go_ret
    exact ⟨rfl, Below.refl _ _⟩
  · have fsz : f.size ≤ 1048576 := by omega
    have S0 := fun c0 h => St.start F f w' c c0 hc h hF0.out
    refine (term_any F w'.heap.size f j _ ?_ ?_ ?_ fsz Wj.out).mono ?_
    · exact (S0 _ rfl).ans
    · exact Nat.lt_of_succ_lt (S0 _ rfl).size
    · exact (S0 _ rfl).c1
    rintro e w1 ⟨rfl, hb⟩
    have S := (S0 _ rfl).next hb
    clear hb S0 hc hF0
    generalize hBe : w'.heap.size = B at *
    have HB : Hid (w'.heap.size = B) := hBe
    clear hBe
    go_wp2_with fail
    refine (term_any F B f k _ S.ans (by have := S.size; omega) S.c1 fsz Wk.out).mono ?_
    rintro e w2 ⟨rfl, hb⟩
    replace S := S.next hb
    clear hb
    by_cases hfe : f.toList.isEmpty = true
    · have HP : Hid ((Plain.pre f.data.toList).length = 0) := by
        show _ = _
        rw [List.isEmpty_iff, ByteArray.toList_eq] at hfe
        simp [Plain.pre, hfe]
      go_wp2_with fail
      refine (decimal_any j Wj.out _).mono ?_
      rintro e w3 ⟨s, rfl, hs, hb⟩
      replace S := S.next hb
      have hs21 : s.size ≤ 21 := by rw [hs]; exact FmtText.itoa_length_le Wj.out
      have hlen : (((inGrant f (pathS j)).size : Int) == 16 + (s.size : Int) + 1) = true := by
        rw [beq_iff_eq, inGrant_size, HP.out, pathS_len, hs]; omega
      clear hb hs
      go_wp2_with fail
      refine (term_any F (B + 1) ⟨#[]⟩ j _ S.ans S.size S.c2 (by simp [ByteArray.size]) Wj.out).mono ?_
      rintro e w4 ⟨rfl, hb⟩
      replace S := S.next hb
      clear hb
      rw [inGrant_nil]
      go_wp2_with fail
      refine (field_any B f (pathS j) _ S.c1 fsz (by have := pathS_size j Wj.out; omega)).mono ?_
      rintro e w5 ⟨rfl, rfl⟩
      go_wp2
      go_ret
      exact ⟨rfl, by rw [HB.out]; exact S.bel⟩
    · have hfe' : f.toList.isEmpty = false := by simpa using hfe
      have HP : Hid ((Plain.pre f.data.toList).length = f.size + 1) := by
        show _ = _
        rw [List.isEmpty_eq_false_iff, ByteArray.toList_eq] at hfe'
        rw [Plain.pre, if_neg hfe', List.length_append]
        rfl
      clear hfe
      go_wp2_with fail
      refine (decimal_any j Wj.out _).mono ?_
      rintro e w3 ⟨s, rfl, hs, hb⟩
      replace S := S.next hb
      have hs21 : s.size ≤ 21 := by rw [hs]; exact FmtText.itoa_length_le Wj.out
      have hlen : (((inGrant f (pathS j)).size : Int) == (f.size : Int) + 1 + 16 + (s.size : Int) + 1) = true := by
        rw [beq_iff_eq, inGrant_size, HP.out, pathS_len, hs]; omega
      clear hb hs
      go_wp2_with fail
      refine (term_any F (B + 1) ⟨#[]⟩ j _ S.ans S.size S.c2 (by simp [ByteArray.size]) Wj.out).mono ?_
      rintro e w4 ⟨rfl, hb⟩
      replace S := S.next hb
      clear hb
      rw [inGrant_nil]
      go_wp2_with fail
      refine (field_any B f (pathS j) _ S.c1 fsz (by have := pathS_size j Wj.out; omega)).mono ?_
      rintro e w5 ⟨rfl, rfl⟩
      go_wp2
      go_ret
      exact ⟨rfl, by rw [HB.out]; exact S.bel⟩

set_option maxRecDepth 100000 in
theorem lifted (os : Os) (started : os.Started) (H : Type) (enc : TypeId × Value → H) :
    ReturnsInTold none {} Tryf.checked os 5 .any Input.okWide ((OpenSpec.ofChange Rows.fnTermFieldInjectiveAndNestedSpec).preRow enc Tryf.prog Tryf.f5 [] false []) (fun F => ((OpenSpec.ofChange Rows.fnTermFieldInjectiveAndNestedSpec).at F).post enc Tryf.prog Tryf.f5 false true false false) (aloneAtReturn Tryf.prog) nothingAlways := by
  refine returnsInTold_of_row (C := Tryf.checked) (s := OpenSpec.ofChange Rows.fnTermFieldInjectiveAndNestedSpec) (by kernel_rfl) own started (by kernel_rfl) Tryf.func5
    (OpenSpec.witness_stopped (enc := enc) (C := Tryf.checked) false ⟨#[], #[.string ⟨#[]⟩, .int .i64 1, .int .i64 1], []⟩ 8 (by kernel_rfl) (by kernel_rfl) (by kernel_rfl) (by kernel_rfl)) ?_
  intro F W base args ds gs before _ hF hval0 hW _ _ hsz _ _
  have hval : ∀ (j : Nat) t v, Tryf.f5.params[j]? = some t → args[j]? = some v → Value.okWide Tryf.prog W .any base t v := hval0
  have hW' := hW
  obtain ⟨p, q, hA0, hV, rfl, hfz, hnd⟩ := hW
  have hA : DataW.TrodAll enc Tryf.prog W 0 (fun _ => true) true Tryf.f5.params.toList args.toList ds p := hA0
  rw [Tryf.params5] at hA hval
  obtain ⟨v0, v1, v2, d0, d1, d2, p0, p1, p2, rfl, rfl, rfl, h0, h1, h2⟩ := trodAll_three hA
  obtain ⟨rfl, rfl⟩ := trodVars_none hV
  obtain ⟨f, rfl, rfl, rfl, wf⟩ := open_string Tryf.underlying9 (hval 0 9 v0 rfl rfl) h0
  obtain ⟨j, rfl, rfl, rfl, wj⟩ := open_int Tryf.underlying3 (hval 1 3 v1 rfl rfl) h1
  obtain ⟨k, rfl, rfl, rfl, wk⟩ := open_int Tryf.underlying3 (hval 2 3 v2 rfl rfl) h2
  clear hA0 hval0
  refine (walk F f j k wf wj wk W hF).mono fun e W' ⟨he, hw⟩ => ?_
  subst he
  refine ⟨_, rfl, _, _, _, [], [], [], hW', ?_, ?_, rfl, ?_, fun h => by cases h⟩
  · exact trodAll_mk1 (shut_bool Tryf.underlying4 true)
  · exact trodAll_mk3 (shut_string Tryf.underlying9 wf) (shut_int Tryf.underlying3 wj) (shut_int Tryf.underlying3 wk)
  · exact hw.frame _

theorem laidOut : laidOutB Tryf.pinned.checked.prog = true := by kernel_rfl
theorem stops : Tryf.pinned.checked.prog.stops = ["fmt.Sprintf"] := by kernel_rfl
theorem stopKnobs : Tryf.pinned.checked.prog.stopKnobs = [] := by kernel_rfl
theorem quiet (os : Os) : Stop.quiet Tryf.pinned.checked.prog os := by
  intro k hk
  rw [stopKnobs] at hk
  cases hk

/-- ████ THE STATEMENT ████ -/
theorem proved : Rows.FnTermFieldInjectiveAndNestedToldSaid :=
  Claim7.holds_of_told_any 5 Tryf.f5 "fmt.Sprintf" [] [] _ _ _ (by kernel_rfl) rfl rfl rfl laidOut (by kernel_rfl) rfl ⟨rfl, rfl, rfl, rfl, rfl, rfl, rfl⟩ rfl rfl (by kernel_rfl) (by kernel_rfl) Tryf.func5 (by kernel_rfl)
    (of_decide_eq_true (by kernel_rfl)) (by unfold Func.isWrapper; first | (rw [if_pos (by decide +kernel)]; kernel_rfl) | (rw [if_neg (by decide +kernel)]; exact ⟨rfl, rfl⟩)) stops.symm rfl stopKnobs.symm (by kernel_rfl)
    (by kernel_rfl) (by kernel_rfl) (by kernel_rfl) (by kernel_rfl) (by kernel_rfl) (by kernel_rfl) (by kernel_rfl) (by kernel_rfl) (by kernel_rfl) rfl (by kernel_rfl) rfl rfl
    rfl rfl
    rfl (by kernel_rfl) (by kernel_rfl) (by kernel_rfl) (by decide) (by kernel_rfl)
    (OpenClaim.moreEntering_of (by kernel_rfl) (by kernel_rfl) (by kernel_rfl) (by kernel_rfl) (by kernel_rfl) (by kernel_rfl) (by kernel_rfl) (by kernel_rfl) (by kernel_rfl) (by kernel_rfl))
    ⟨_, WideRow.started_initial, quiet _⟩
    (fun os started _ H enc _ => lifted os started H enc)
end Go.Proofs.Qxb6614965aFmt.fnTermFieldInjectiveAndNested
