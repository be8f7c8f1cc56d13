/-
  FnAddedWalkRanksAgainstOld: it returns true.
-/
import Derived.Test.Qxb6609120aDoorThree2
import Derived.Test.Qxb6609120aDoorZwalk
import Derived.Test.Qxb6609120aDoorRanks
namespace Go.Proofs.Qxb6609120aDoor
open Go.RowKit
open Plain (Srt Asc asc_ext)
set_option linter.unusedVariables false

set_option maxRecDepth 10000 in
theorem law4_early (a1 a2 a3 : Option Addr) (c1 c2 c3 : Nat) (l1 l2 l3 : List Int) (b : Int) (w : World) (h1 : Sl .i64 w (.slice a1 l1.length c1) l1) (h2 : Sl .i64 w (.slice a2 l2.length c2) l2) (h3 : Sl .i64 w (.slice a3 l3.length c3) l3)
    (hmain : ¬ (l1.length ≤ 32768 ∧ l2.length ≤ 32768 ∧ l3.length ≤ 32768 ∧ okB l1 = true ∧ okB l2 = true ∧ okB l3 = true)) :
    Calls Tryd.prog 4 #[.slice a1 l1.length c1, .slice a2 l2.length c2, .slice a3 l3.length c3, .int .i64 b] w fun e w' => e = .returned (.bool true) ∧ Below w.heap.size w w' := by
  by_cases b1 : 32768 < l1.length
  · clear hmain
    go_enter Tryd.func4, Tryd.ntmps4
    go_wp2_with (first
      | (go_at_call 15; refine (bytes15_any _ _ _ _ _ _ _ _ _ _ _).mono ?_; rintro _ _ ⟨bb, rfl, hwe⟩; have hwe := hwe.symm; subst hwe; cases bb)
      )
    all_goals
      go_ret
      exact ⟨rfl, Below.refl _ _⟩
  · by_cases b2 : 32768 < l2.length
    · clear hmain
      go_enter Tryd.func4, Tryd.ntmps4
      go_wp2_with (first
        | (go_at_call 15; refine (bytes15_any _ _ _ _ _ _ _ _ _ _ _).mono ?_; rintro _ _ ⟨bb, rfl, hwe⟩; have hwe := hwe.symm; subst hwe; cases bb)
        )
      all_goals
        go_ret
        exact ⟨rfl, Below.refl _ _⟩
    · by_cases b3 : 32768 < l3.length
      · clear hmain
        go_enter Tryd.func4, Tryd.ntmps4
        go_wp2_with (first
          | (go_at_call 15; refine (bytes15_any _ _ _ _ _ _ _ _ _ _ _).mono ?_; rintro _ _ ⟨bb, rfl, hwe⟩; have hwe := hwe.symm; subst hwe; cases bb)
          )
        all_goals
          go_ret
          exact ⟨rfl, Below.refl _ _⟩
      · have q1 := ordsOK_any _ l1 w h1 (by omega)
        have q2 := ordsOK_any _ l2 w h2 (by omega)
        have q3 := ordsOK_any _ l3 w h3 (by omega)
        clear h1 h2 h3
        cases E1 : okB l1 with
        | false =>
          clear hmain
          go_enter Tryd.func4, Tryd.ntmps4
          go_wp2_with (first
            | (go_at_call 15; refine (bytes15_any _ _ _ _ _ _ _ _ _ _ _).mono ?_; rintro _ _ ⟨bb, rfl, hwe⟩; have hwe := hwe.symm; subst hwe; cases bb)
            | (go_at_call_of 16 a1; refine q1.mono ?_; rintro _ _ ⟨rfl, hwe⟩; have hwe := hwe.symm; subst hwe; rw [E1])
            )
          all_goals
            go_ret
            exact ⟨rfl, Below.refl _ _⟩
        | true =>
          cases E2 : okB l2 with
          | false =>
            clear hmain
            go_enter Tryd.func4, Tryd.ntmps4
            go_wp2_with (first
              | (go_at_call 15; refine (bytes15_any _ _ _ _ _ _ _ _ _ _ _).mono ?_; rintro _ _ ⟨bb, rfl, hwe⟩; have hwe := hwe.symm; subst hwe; cases bb)
              | (go_at_call_of 16 a1; refine q1.mono ?_; rintro _ _ ⟨rfl, hwe⟩; have hwe := hwe.symm; subst hwe; rw [E1])
              | (go_at_call_of 16 a2; refine q2.mono ?_; rintro _ _ ⟨rfl, hwe⟩; have hwe := hwe.symm; subst hwe; rw [E2])
              )
            all_goals
              go_ret
              exact ⟨rfl, Below.refl _ _⟩
          | true =>
            cases E3 : okB l3 with
            | false =>
              clear hmain
              go_enter Tryd.func4, Tryd.ntmps4
              go_wp2_with (first
                | (go_at_call 15; refine (bytes15_any _ _ _ _ _ _ _ _ _ _ _).mono ?_; rintro _ _ ⟨bb, rfl, hwe⟩; have hwe := hwe.symm; subst hwe; cases bb)
                | (go_at_call_of 16 a1; refine q1.mono ?_; rintro _ _ ⟨rfl, hwe⟩; have hwe := hwe.symm; subst hwe; rw [E1])
                | (go_at_call_of 16 a2; refine q2.mono ?_; rintro _ _ ⟨rfl, hwe⟩; have hwe := hwe.symm; subst hwe; rw [E2])
                | (go_at_call_of 16 a3; refine q3.mono ?_; rintro _ _ ⟨rfl, hwe⟩; have hwe := hwe.symm; subst hwe; rw [E3])
                )
              all_goals
                go_ret
                exact ⟨rfl, Below.refl _ _⟩
            | true => exact absurd ⟨by omega, by omega, by omega, E1, E2, E3⟩ hmain

theorem New.form {w w' : World} {v : Value} {l : List Int} (H : New w w' v l) : ∃ a c, v = .slice a l.length c := by
  obtain ⟨a, c, hv, _⟩ := H.sl
  exact ⟨a, c, hv⟩
set_option maxHeartbeats 2000000 in
set_option maxRecDepth 10000 in
theorem law4_main (a1 a2 a3 : Option Addr) (c1 c2 c3 : Nat) (l1 l2 l3 : List Int) (b : Int) (w : World) (h1 : Sl .i64 w (.slice a1 l1.length c1) l1) (h2 : Sl .i64 w (.slice a2 l2.length c2) l2) (h3 : Sl .i64 w (.slice a3 l3.length c3) l3) (hT : Tab w) (hbw : Hid (wrap64 b = b))
    (n1 : l1.length ≤ 32768) (n2 : l2.length ≤ 32768) (n3 : l3.length ≤ 32768) (o1 : okB l1 = true) (o2 : okB l2 = true) (o3 : okB l3 = true) :
    Calls Tryd.prog 4 #[.slice a1 l1.length c1, .slice a2 l2.length c2, .slice a3 l3.length c3, .int .i64 b] w fun e w' => e = .returned (.bool true) ∧ Below w.heap.size w w' := by
  have q1 := ordsOK_any _ l1 w h1 (by omega)
  have q2 := ordsOK_any _ l2 w h2 (by omega)
  have q3 := ordsOK_any _ l3 w h3 (by omega)
  rw [o1] at q1
  rw [o2] at q2
  rw [o3] at q3
  have H1 := hid_of h1
  have H2 := hid_of h2
  have H3 := hid_of h3
  have HT := hid_of hT
  have Q1 := hid_of q1
  have Q2 := hid_of q2
  have Q3 := hid_of q3
  have HC := hid_of (three_any a1 a2 a3 c1 c2 c3 l1 l2 l3 w h1 h2 h3 n1 n2 n3 o1 o2 o3)
  clear q1 q2 q3 h1 h2 h3 hT o1 o2 o3
  have tok : True := trivial
  go_enter Tryd.func4, Tryd.ntmps4
  go_wp2_with (first
    | (go_at_call 15; refine (bytes15_any _ _ _ _ _ _ _ _ _ _ _).mono ?_; rintro _ _ ⟨bb, rfl, hwe⟩; have hwe := hwe.symm; subst hwe; cases bb)
    | (go_at_call_of 16 a1; refine Q1.out.mono ?_; rintro _ _ ⟨rfl, hwe⟩; have hwe := hwe.symm; subst hwe)
    | (go_at_call_of 16 a2; refine Q2.out.mono ?_; rintro _ _ ⟨rfl, hwe⟩; have hwe := hwe.symm; subst hwe)
    | (go_at_call_of 16 a3; refine Q3.out.mono ?_; rintro _ _ ⟨rfl, hwe⟩; have hwe := hwe.symm; subst hwe)
    | (go_at_call 17
       refine HC.out.mono ?_
       rintro _ w1 ⟨pn, ps, po, h, N, S, O, rfl, hh, hN, hS, hO, m1, m2, m3, h32, B1⟩
       have AN := hid_of hN.ran.asc
       have AS := hid_of hS.ran.asc
       have AO := hid_of hO.ran.asc
       have M1 := hid_of m1
       have M2 : Hid (∀ x, x ∈ S ↔ x ∈ l1 ∨ x ∈ l2) := fun x => by rw [m2, m1]
       have M3 : Hid (∀ x, x ∈ N ↔ (x ∈ l1 ∨ x ∈ l2) ∨ x ∈ l3) := fun x => by rw [m3, m2, m1]
       have HZ := hid_of (zzWalk_any (fun k => w.heap.size ≤ k) h hh pn ps po N S O b w1 hN hS hO (fun x hx => (m3 x).2 (.inl hx)) (fun x hx => (m2 x).2 (.inl hx)) h32 (HT.out.keep B1) hbw)
       clear hN hS hO m1 m2 m3 h32 HC)
    | (go_at_call 18
       refine HZ.out.mono ?_
       rintro _ w2 ⟨gv, rfl, hg2, hb2⟩
       have B2 : Below w.heap.size w w2 := B1.trans (hb2.mono B1.size)
       have HG := hid_of hg2
       obtain ⟨ga, gc, egv⟩ : ∃ ga gc, gv = .slice ga (rk N S O b).length gc := by
         obtain ⟨ga, gc, hv, _⟩ := hg2
         exact ⟨ga, gc, hv⟩
       have EG := hid_of egv
       clear HZ hg2 egv)
    | (go_at_call_of 19 a1
       refine (setOf_any _ l1 w2 (by omega) (H1.out.keep B2)).mono ?_
       rintro _ w3 ⟨vO, D, rfl, hn3, hA3, hM3, hL3⟩
       have hD : D = O := asc_ext hA3 AO.out (fun x => by rw [hM3, M1.out])
       subst hD
       obtain ⟨aO, cO, rfl⟩ := hn3.form
       have B3 : Below w.heap.size w w3 := B2.trans (hn3.below.mono B2.size)
       have LO : Hid (D.length ≤ 4194304) := Nat.le_trans hL3 (by omega)
       have HN3 := hid_of hn3
       clear hA3 hM3 hL3 hn3)
    | (have _t := tok
       go_at_call_of 20 a1
       refine (join_any _ _ l1 l2 w3 (H1.out.keep B3) (H2.out.keep B3) (by omega) (by omega)).mono ?_
       rintro _ w4 ⟨vj, rfl, hn4⟩
       have B4 : Below w.heap.size w w4 := B3.trans (hn4.below.mono B3.size)
       clear tok _t)
    | (go_at_call_of 19 vj
       refine (setOf_any vj (l1 ++ l2) w4 (by rw [List.length_append]; omega) hn4.sl).mono ?_
       rintro _ w5 ⟨vS, DS, rfl, hn5, hA5, hM5, hL5⟩
       have hD : DS = S := asc_ext hA5 AS.out (fun x => by rw [hM5, M2.out]; simp)
       subst hD
       have B5 : Below w.heap.size w w5 := B4.trans (hn5.below.mono B4.size)
       have LS : Hid (DS.length ≤ 4194304) := Nat.le_trans hL5 (by rw [List.length_append]; omega)
       have HN5 := hid_of hn5
       have C35 : Below w3.heap.size w3 w5 := hn4.below.trans (hn5.below.mono hn4.below.size)
       clear hA5 hM5 hL5 hn5)
    | (go_at_call_of 20 a1
       refine (join_any _ _ l1 l2 w5 (H1.out.keep B5) (H2.out.keep B5) (by omega) (by omega)).mono ?_
       rintro _ w6 ⟨vk, rfl, hn6⟩
       have B6 : Below w.heap.size w w6 := B5.trans (hn6.below.mono B5.size))
    | (go_at_call_of 20 vk
       refine (join_any _ _ (l1 ++ l2) l3 w6 hn6.sl (H3.out.keep B6) (by rw [List.length_append]; omega) (by omega)).mono ?_
       rintro _ w7 ⟨vm, rfl, hn7⟩
       have B7 : Below w.heap.size w w7 := B6.trans (hn7.below.mono B6.size))
    | (go_at_call_of 19 vm
       refine (setOf_any vm (l1 ++ l2 ++ l3) w7 (by rw [List.length_append, List.length_append]; omega) hn7.sl).mono ?_
       rintro _ w8 ⟨vN, DN, rfl, hn8, hA8, hM8, hL8⟩
       have hD : DN = N := asc_ext hA8 AN.out (fun x => by rw [hM8, M3.out]; simp [or_assoc])
       subst hD
       have B8 : Below w.heap.size w w8 := B7.trans (hn8.below.mono B7.size)
       have LN : Hid (DN.length ≤ 4194304) := Nat.le_trans hL8 (by rw [List.length_append, List.length_append]; omega)
       have HN8 := hid_of hn8
       have C58 : Below w5.heap.size w5 w8 := (hn6.below.trans (hn7.below.mono hn6.below.size)).trans (hn8.below.mono (Nat.le_trans hn6.below.size hn7.below.size))
       clear hA8 hM8 hL8 hn8)
    | (go_at_call 22
       refine (minus_any vN vS DN DS w8 HN8.out.sl (HN5.out.sl.keep C58) AN.out AS.out LN.out LS.out).mono ?_
       rintro _ w9 ⟨v9, rfl, hn9⟩
       have C39 : Below w3.heap.size w3 w9 := (C35.trans (C58.mono C35.size)).trans (hn9.below.mono (Nat.le_trans C35.size C58.size))
       have B9 : Below w.heap.size w w9 := B8.trans (hn9.below.mono B8.size)
       have HN9 := hid_of hn9
       clear hn9)
    | (go_at_call 21
       refine (ranks_any v9 _ (minus DN DS) D b w9 HN9.out.sl (HN3.out.sl.keep C39) (List.Pairwise.filter _ AN.out) AO.out (Nat.le_trans (List.length_filter_le _ _) LN.out) LO.out).mono ?_
       rintro _ w10 ⟨v10, rfl, hn10⟩
       have B10 : Below w.heap.size w w10 := B9.trans (hn10.below.mono B9.size)
       have C2 : Below w2.heap.size w2 w10 := (HN3.out.below.trans (C39.mono HN3.out.below.size)).trans (hn10.below.mono (Nat.le_trans HN3.out.below.size C39.size))
       have HN10 : Hid (New w9 w10 v10 (rk DN DS D b)) := hn10
       clear hn10)
    | (go_at_call 23
       refine (eq64_any gv v10 (rk DN DS D b) (rk DN DS D b) w10 (HG.out.keep C2) HN10.out.sl (Nat.le_trans (rk_len _ _ _ _) LN.out) (Nat.le_trans (rk_len _ _ _ _) LN.out)).mono ?_
       rintro _ w11 ⟨rfl, n11, rfl⟩
       rw [decide_eq_true (rfl : rk DN DS D b = rk DN DS D b)]))
  · go_ret
    exact ⟨rfl, Below.refl _ _⟩
  · go_ret
    exact ⟨rfl, B10.trans ((below_drewN w10 n11).mono B10.size)⟩
end Go.Proofs.Qxb6609120aDoor
