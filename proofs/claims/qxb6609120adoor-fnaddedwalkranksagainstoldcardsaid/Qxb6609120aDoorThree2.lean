/-
  zzBuildThree, walked.
-/
import Derived.Test.Qxb6609120aDoorThree
namespace Go.Proofs.Qxb6609120aDoor
open Go.RowKit
open Plain (Srt Asc asc_ext)
set_option linter.unusedVariables false

set_option maxHeartbeats 2000000 in
set_option maxRecDepth 10000 in
theorem three_any (a1 a2 a3 : Option Addr) (c1 c2 c3 : Nat) (l1 l2 l3 : List Int) (w : World) (h1 : Sl .i64 w (.slice a1 l1.length c1) l1) (h2 : Sl .i64 w (.slice a2 l2.length c2) l2) (h3 : Sl .i64 w (.slice a3 l3.length c3) l3) (n1 : l1.length ≤ 32768) (n2 : l2.length ≤ 32768) (n3 : l3.length ≤ 32768) (o1 : okB l1 = true) (o2 : okB l2 = true) (o3 : okB l3 = true) :
    Calls Tryd.prog 17 #[.slice a1 l1.length c1, .slice a2 l2.length c2, .slice a3 l3.length c3] w fun e w' => ∃ pn ps po h N S O, e = .returned (.tuple #[.pointer pn, .pointer ps, .pointer po, .int .i64 (h : Nat)]) ∧ h ≤ 4 ∧ Node (fun b => w.heap.size ≤ b) h w' 0 pn N ∧ Node (fun b => w.heap.size ≤ b) h w' 0 ps S ∧ Node (fun b => w.heap.size ≤ b) h w' 0 po O ∧ (∀ x, x ∈ O ↔ x ∈ l1) ∧ (∀ x, x ∈ S ↔ x ∈ O ∨ x ∈ l2) ∧ (∀ x, x ∈ N ↔ x ∈ S ∨ x ∈ l3) ∧ (∀ x ∈ N, x < 4294967296) ∧ Below w.heap.size w w' := by
  have H1 := hid_of h1
  have H2 := hid_of h2
  have H3 := hid_of h3
  have O1 := hid_of o1
  have O2 := hid_of o2
  have O3 := hid_of o3
  clear h1 h2 h3 o1 o2 o3
  go_enter Tryd.func17, Tryd.ntmps17
  go_wp2_with (refine wpList_alloc49 rfl rfl ?_; intro w1 N1; have k0 := N1.cell 0 _ rfl; have k1 := N1.cell 1 _ rfl)
  simp only [Act.put, List.setIfInBounds_toArray, List.set_cons_zero, List.set_cons_succ]
  have B1 := N1.below
  have hR0 : RSet (fun b => w.heap.size ≤ b) w1 none 0 [] := ⟨by decide, Node.nil _ _ _ _, by simp⟩
  go_cut [11] from 18 to 21 (fun s11 wx => Made3 w w1 wx s11 [] l1 0)
  case first =>
    go_region_held3 (fun w' => Below w1.heap.size w1 w' ∧ w'.cell? ⟨w.heap.size, 0, none⟩ = some (.pointer none) ∧ w'.cell? ⟨w.heap.size, 1, none⟩ = some (.int .i64 0))
      (first
        | (with_reducible refine s3_of ?_ k0 k1
           first
             | (with_reducible exact (Below.refl _ _).drew)
             | (with_reducible exact ((Below.refl _ _).alloc (Nat.le_refl _) _).drew)
             | (with_reducible exact hB2)
             | (with_reducible exact hB2.alloc hB2.size _)
             | (with_reducible exact hb3)
             | (with_reducible exact hb3.alloc hb3.size _)
             | (with_reducible exact bel_put hb3 (Nat.le_refl _))
             | (with_reducible exact bel_put hb3 hB2.size)
             | (with_reducible exact bel_put (hb3.alloc hb3.size _) hb3.size)))
      (first
        | (go_at_call 27; refine (clone3 (by assumption) (H1.out.keep B1) n1).mono ?_; rintro _ u1 ⟨v1, rfl, hn2, hA2, hB2⟩)
        | (go_at_call 26; refine (with3 (hR0) hA2 hn2 (by first | exact Below.refl _ _ | exact (Below.refl _ _).alloc (Nat.le_refl _) _) (okB_zero O1.out) (okB_32 O1.out) n1).mono ?_; rintro _ u3 ⟨p', h', S', rfl, hR3, hm3, hb3, hk3, hup3⟩; first | (have F := cells_a hn2 hk3; obtain ⟨x0, x1, f0, f1⟩ := F) | (have F := cells_b hk3; obtain ⟨x0, x1, f0, f1⟩ := F) | skip))
    all_goals
      go_wp2_with fail
      go_meet
      first
        | exact made_a B1.size hn2 hR3 hm3 hb3 hk3 hup3
        | exact made_b B1.size hA2 hn2 hR3 hm3 hb3 hk3 hup3
        | exact made_c B1.size hB2 hR3 hm3 hb3 hup3
  case rest =>
  obtain ⟨g1, p1, e1, O, rfl, V1, M1, _, hbA⟩ := hcut
  have B2 : Below w.heap.size w wc := B1.trans (hbA.mono B1.size)
  have k0 := V1.c0
  have k1 := V1.c1
  have HV1 := hid_of V1
  have HM1 := hid_of M1
  clear V1 M1 hR0 N1 B1 hbA
  rename World => w1x
  go_wp2_with fail
  go_cut [12] from 22 to 25 (fun s12 wx => Made3 w w1x wx s12 O l2 e1)
  case first =>
    go_region_held3 (fun w' => Below w1x.heap.size w1x w' ∧ w'.cell? ⟨g1, 0, none⟩ = some (.pointer p1) ∧ w'.cell? ⟨g1, 1, none⟩ = some (.int .i64 (e1 : Nat)))
      (first
        | (with_reducible refine s3_of ?_ k0 k1
           first
             | (with_reducible exact (Below.refl _ _).drew)
             | (with_reducible exact ((Below.refl _ _).alloc (Nat.le_refl _) _).drew)
             | (with_reducible exact hB2)
             | (with_reducible exact hB2.alloc hB2.size _)
             | (with_reducible exact hb3)
             | (with_reducible exact hb3.alloc hb3.size _)
             | (with_reducible exact bel_put hb3 (Nat.le_refl _))
             | (with_reducible exact bel_put hb3 hB2.size)
             | (with_reducible exact bel_put (hb3.alloc hb3.size _) hb3.size)))
      (first
        | (go_at_call 27; refine (clone3 (by assumption) (H2.out.keep B2) n2).mono ?_; rintro _ u1 ⟨v1, rfl, hn2, hA2, hB2⟩)
        | (go_at_call 26; refine (with3 (HV1.out.set) hA2 hn2 (by first | exact Below.refl _ _ | exact (Below.refl _ _).alloc (Nat.le_refl _) _) (okB_zero O2.out) (okB_32 O2.out) n2).mono ?_; rintro _ u3 ⟨p', h', S', rfl, hR3, hm3, hb3, hk3, hup3⟩; first | (have F := cells_a hn2 hk3; obtain ⟨x0, x1, f0, f1⟩ := F) | (have F := cells_b hk3; obtain ⟨x0, x1, f0, f1⟩ := F) | skip))
    all_goals
      go_wp2_with fail
      go_meet
      first
        | exact made_a B2.size hn2 hR3 hm3 hb3 hk3 hup3
        | exact made_b B2.size hA2 hn2 hR3 hm3 hb3 hk3 hup3
        | exact made_c B2.size hB2 hR3 hm3 hb3 hup3
  case rest =>
  obtain ⟨g2, p2, e2, S, rfl, V2, M2, hu2, hbB⟩ := hcut
  rename World => w2x
  have B3 : Below w.heap.size w w2x := B2.trans (hbB.mono B2.size)
  have k0 := V2.c0
  have k1 := V2.c1
  have HV1 := hid_of (HV1.out.keep hbB)
  have HV2 := hid_of V2
  have HM2 := hid_of M2
  clear V2 M2 hbB
  go_wp2_with fail
  go_cut [13] from 26 to 29 (fun s13 wx => Made3 w w2x wx s13 S l3 e2)
  case first =>
    go_region_held3 (fun w' => Below w2x.heap.size w2x w' ∧ w'.cell? ⟨g2, 0, none⟩ = some (.pointer p2) ∧ w'.cell? ⟨g2, 1, none⟩ = some (.int .i64 (e2 : Nat)))
      (first
        | (with_reducible refine s3_of ?_ k0 k1
           first
             | (with_reducible exact (Below.refl _ _).drew)
             | (with_reducible exact ((Below.refl _ _).alloc (Nat.le_refl _) _).drew)
             | (with_reducible exact hB2)
             | (with_reducible exact hB2.alloc hB2.size _)
             | (with_reducible exact hb3)
             | (with_reducible exact hb3.alloc hb3.size _)
             | (with_reducible exact bel_put hb3 (Nat.le_refl _))
             | (with_reducible exact bel_put hb3 hB2.size)
             | (with_reducible exact bel_put (hb3.alloc hb3.size _) hb3.size)))
      (first
        | (go_at_call 27; refine (clone3 (by assumption) (H3.out.keep B3) n3).mono ?_; rintro _ u1 ⟨v1, rfl, hn2, hA2, hB2⟩)
        | (go_at_call 26; refine (with3 (HV2.out.set) hA2 hn2 (by first | exact Below.refl _ _ | exact (Below.refl _ _).alloc (Nat.le_refl _) _) (okB_zero O3.out) (okB_32 O3.out) n3).mono ?_; rintro _ u3 ⟨p', h', S', rfl, hR3, hm3, hb3, hk3, hup3⟩; first | (have F := cells_a hn2 hk3; obtain ⟨x0, x1, f0, f1⟩ := F) | (have F := cells_b hk3; obtain ⟨x0, x1, f0, f1⟩ := F) | skip))
    all_goals
      go_wp2_with fail
      go_meet
      first
        | exact made_a B3.size hn2 hR3 hm3 hb3 hk3 hup3
        | exact made_b B3.size hA2 hn2 hR3 hm3 hb3 hk3 hup3
        | exact made_c B3.size hB2 hR3 hm3 hb3 hup3
  case rest =>
  obtain ⟨g3, p3, e3, N, rfl, V3, M3, hu3, hbC⟩ := hcut
  rename World => w3x
  have B4 : Below w.heap.size w w3x := B3.trans (hbC.mono B3.size)
  have k0 := V3.c0
  have k1 := V3.c1
  have he4 := V3.set.le
  have HV1 := hid_of (HV1.out.keep hbC)
  have HV2 := hid_of (HV2.out.keep hbC)
  have HV3 := hid_of V3
  have HM3 := hid_of M3
  clear V3 M3 hbC
  go_wp2_with (first
    | (go_at_call 33
       refine (height_any p3 e3 w3x).mono ?_
       rintro _ w5 ⟨rfl, hb5⟩
       have k05 := cell_below hb5 k0
       have k15 := cell_below hb5 k1)
    | (go_at_call 34
       refine (root_any p3 e3 w5).mono ?_
       rintro _ w6 ⟨rfl, hb6⟩
       have hb36 : Below w3x.heap.size w3x w6 := hb5.trans (hb6.mono hb5.size)
       have B6 : Below w.heap.size w w6 := B4.trans (hb36.mono B4.size)
       have HW1 := hid_of (HV1.out.keep hb36)
       have HW2 := hid_of (HV2.out.keep hb36)
       have HW3 := hid_of (HV3.out.keep hb36)
       have d0 := HW2.out.c0
       have d1 := HW2.out.c1
       clear k05 k15 hb5 hb6))
  go_region_held3 (fun w' => Below w6.heap.size w6 w' ∧ w'.cell? ⟨g2, 0, none⟩ = some (.pointer p2) ∧ w'.cell? ⟨g2, 1, none⟩ = some (.int .i64 (e2 : Nat)))
    (first
      | (with_reducible refine s3_of ?_ d0 d1
         first
           | (with_reducible exact (Below.refl _ _).drew)
           | (with_reducible exact hr1)
           | (with_reducible exact hr2)
           | (with_reducible exact hr3)))
    (first
      | (go_at_call 34; refine (root3 (by assumption) p2 e2).mono ?_; rintro _ r1 ⟨rfl, hr1⟩)
      | (go_at_call 33; refine (height3 (by assumption) p2 e2).mono ?_; rintro _ r2 ⟨rfl, hr2⟩)
      | (go_at_call 35; refine (raise3 (w := w) (by assumption) B6.size hu3 he4 HW2.out.set.node).mono ?_; rintro _ w7 ⟨qs, rfl, hns, hr3⟩))
  have B7 : Below w.heap.size w w7 := B6.trans (hr3.mono B6.size)
  have HX1 := hid_of (HW1.out.keep hr3)
  have HX3 := hid_of (HW3.out.keep hr3)
  have HNS := hid_of hns
  have f0 := HX1.out.c0
  have f1 := HX1.out.c1
  clear hr1 hr2 hr3 hns
  go_wp2_with fail
  go_region_held3 (fun w' => Below w7.heap.size w7 w' ∧ w'.cell? ⟨g1, 0, none⟩ = some (.pointer p1) ∧ w'.cell? ⟨g1, 1, none⟩ = some (.int .i64 (e1 : Nat)))
    (first
      | (with_reducible refine s3_of ?_ f0 f1
         first
           | (with_reducible exact (Below.refl _ _).drew)
           | (with_reducible exact hr1)
           | (with_reducible exact hr2)
           | (with_reducible exact hr3)))
    (first
      | (go_at_call 34; refine (root3 (by assumption) p1 e1).mono ?_; rintro _ r1 ⟨rfl, hr1⟩)
      | (go_at_call 33; refine (height3 (by assumption) p1 e1).mono ?_; rintro _ r2 ⟨rfl, hr2⟩)
      | (go_at_call 35; refine (raise3 (w := w) (by assumption) B7.size (Nat.le_trans hu2 hu3) he4 HX1.out.set.node).mono ?_; rintro _ w8 ⟨qo, rfl, hno, hr3⟩))
  have B8 : Below w.heap.size w w8 := B7.trans (hr3.mono B7.size)
  have HNN := hid_of (HX3.out.set.node.keep hr3)
  have HNS2 := hid_of (HNS.out.keep hr3)
  have HNO := hid_of hno
  have H32 := hid_of HX3.out.set.h32
  clear hr1 hr2 hr3 hno
  go_wp2_with fail
  refine bodyPost_ret (v := .tuple #[.pointer p3, .pointer qs, .pointer qo, .int .i64 (e3 : Nat)]) ?_ rfl ⟨p3, qs, qo, e3, N, S, O, rfl, he4, HNN.out, HNS2.out, HNO.out, fun x => by rw [HM1.out]; simp, HM2.out, HM3.out, H32.out, B8⟩
  simp only [results, Tryd.results17]
  simp
end Go.Proofs.Qxb6609120aDoor
