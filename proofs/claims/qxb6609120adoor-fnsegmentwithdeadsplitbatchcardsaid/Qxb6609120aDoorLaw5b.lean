/-
  FnSegmentWithDeadSplitBatch: it returns true: the long way.
-/
import Derived.Test.Qxb6609120aDoorLaw5
import Derived.Test.Qxb6609120aDoorLaw6b
namespace Go.Proofs.Qxb6609120aDoor
open Go.RowKit
open Plain (Srt Asc asc_ext)
set_option linter.unusedVariables false

/-! ### The region that draws: the empty set's cells stand through it. -/
theorem s5_start {w w1 : World} (N1 : NewC w w1 [.pointer none, .int .i64 0]) : Below w.heap.size w w1.drew ∧ w1.drew.cell? ⟨w.heap.size, 0, none⟩ = some (.pointer none) ∧ w1.drew.cell? ⟨w.heap.size, 1, none⟩ = some (.int .i64 0) :=
  ⟨N1.below.drew, N1.cell 0 _ rfl, N1.cell 1 _ rfl⟩
theorem s5_below {w u u1 : World} (h : Below w.heap.size w u ∧ u.cell? ⟨w.heap.size, 0, none⟩ = some (.pointer none) ∧ u.cell? ⟨w.heap.size, 1, none⟩ = some (.int .i64 0)) (hb : Below u.heap.size u u1) :
    Below w.heap.size w u1 ∧ u1.cell? ⟨w.heap.size, 0, none⟩ = some (.pointer none) ∧ u1.cell? ⟨w.heap.size, 1, none⟩ = some (.int .i64 0) :=
  ⟨h.1.trans (hb.mono h.1.size), cell_below hb h.2.1, cell_below hb h.2.2⟩
theorem s5_grown {w u u1 : World} {ob : Option Nat} (h : Below w.heap.size w u ∧ u.cell? ⟨w.heap.size, 0, none⟩ = some (.pointer none) ∧ u.cell? ⟨w.heap.size, 1, none⟩ = some (.int .i64 0)) (hb : u.grownBy u1 ob) (hob : ∀ k, ob = some k → w.heap.size < k) :
    Below w.heap.size w u1 ∧ u1.cell? ⟨w.heap.size, 0, none⟩ = some (.pointer none) ∧ u1.cell? ⟨w.heap.size, 1, none⟩ = some (.int .i64 0) :=
  ⟨h.1.grown hb h.1.size (fun k hk => Nat.le_of_lt (hob k hk)), hb.cell h.2.1 (by intro e; have := hob _ e.symm; simp at this), hb.cell h.2.2 (by intro e; have := hob _ e.symm; simp at this)⟩
theorem clone5 {w u : World} {v : Value} {l : List Int} (h : Below w.heap.size w u ∧ u.cell? ⟨w.heap.size, 0, none⟩ = some (.pointer none) ∧ u.cell? ⟨w.heap.size, 1, none⟩ = some (.int .i64 0)) (hs : Sl .i64 w v l) (hl : l.length ≤ 32768) :
    Calls Tryd.prog 27 #[v] u fun e w' => ∃ v', e = .returned v' ∧ New u w' v' l ∧ w.heap.size < u.heap.size :=
  (clone_any _ l u (hs.keep h.1) (Nat.le_trans hl (by decide))).mono fun e w' ⟨v', he, hn⟩ => ⟨v', he, hn, World.block_lt_of_cell? u _ h.2.1⟩
theorem with5 {u0 u : World} {v : Value} {l : List Int} {B : Nat} (hn : New u0 u v l) (hB : B < u0.heap.size) (h0 : ∀ x ∈ l, 0 ≤ x) (h32 : ∀ x ∈ l, x < 4294967296) (hl : l.length ≤ 32768) :
    Calls Tryd.prog 26 #[.agg #[.pointer none, .int .i64 0], v] u fun e w' => ∃ p' h' S' ob, e = .returned (.agg #[.pointer p', .int .i64 (h' : Nat)]) ∧ RSet (fun b => B ≤ b) w' p' h' S' ∧ (∀ x, x ∈ S' ↔ x ∈ l) ∧ u.grownBy w' ob ∧ ∀ k, ob = some k → B < k := by
  obtain ⟨ob, ho, hob⟩ := hn.ord
  refine (zzWith_any (fun _ => False) none 0 [] l v ob u ⟨by decide, Node.nil _ _ _ _, by simp⟩ ho (fun b hb => hb.elim) h0 h32 (Nat.le_trans hl (by decide))).mono ?_
  rintro e w' ⟨p', h', S', he, hR, hm, hgr⟩
  refine ⟨p', h', S', ob, he, ⟨hR.le, hR.node.wide (fun b hb => hb.elim (fun h => h.elim) (fun h => ?_)), hR.h32⟩, fun x => by rw [hm]; simp, hgr, fun k hk => Nat.lt_of_lt_of_le hB (hob k hk)⟩
  exact Nat.le_of_lt (Nat.lt_of_lt_of_le hB (Nat.le_trans hn.below.size h))

theorem w64_assoc1 (a b c : Int) : wrap64 (wrap64 (a + b) + c) = wrap64 (a + (b + c)) := by unfold wrap64; omega
theorem w64_assoc2 (a b c : Int) : wrap64 (a + wrap64 (b + c)) = wrap64 (a + (b + c)) := by unfold wrap64; omega

/-- What the sums come to, on both ways. -/
theorem l5_facts {dr ds t since R : Int} {l2 l3 : List Int} (n2 : l2.length ≤ 32768) (n3 : l3.length ≤ 32768) (hb : (0 < dr ∧ dr < 9223372036854775808 ∧ since = ds ∧ R = wrap64 (wrap64 (dr + (l2.length : Int)) + (l3.length : Int))) ∨ (dr = 0 ∧ since = t ∧ R = (l2.length : Int) + (l3.length : Int))) :
    (if dr = 0 then t else ds) = since ∧ (if wrap64 (dr + (l2.length : Int)) = 0 then t else since) = since ∧ wrap64 (dr + ((l2 ++ l3).length : Int)) = R ∧ wrap64 (wrap64 (dr + (l2.length : Int)) + (l3.length : Int)) = R := by
  rw [List.length_append, Int.natCast_add]
  rcases hb with ⟨h0, h1, h2, h3⟩ | ⟨h0, h1, h2⟩
  · refine ⟨?_, ?_, ?_, h3.symm⟩
    · rw [if_neg (by omega)]; exact h2.symm
    · rw [if_neg ?_]
      have ha : (0 : Int) ≤ (l2.length : Int) := by omega
      have hc : (l2.length : Int) ≤ 32768 := by omega
      clear h2 h3 n2 n3
      generalize (l2.length : Int) = a at *
      unfold wrap64
      omega
    · rw [h3, w64_assoc1]
  · subst h0
    have e : wrap64 (wrap64 (0 + (l2.length : Int)) + (l3.length : Int)) = (l2.length : Int) + (l3.length : Int) := by
      rw [w64_assoc1, Int.zero_add]
      exact w64_id (by omega) (by omega)
    refine ⟨by rw [if_pos rfl]; exact h1.symm, ?_, ?_, by rw [e, h2]⟩
    · rw [h1]; simp
    · rw [h2, ← w64_assoc1]; exact e

/-- The same, where the walk does not look. -/
structure F5 (dr db ds t since R s1 s2 : Int) (l2 l3 : List Int) : Prop where
  z1 : (if dr = 0 then t else ds) = since
  z2 : (if wrap64 (dr + (l2.length : Int)) = 0 then t else since) = since
  z3 : wrap64 (dr + ((l2 ++ l3).length : Int)) = R
  z4 : wrap64 (wrap64 (dr + (l2.length : Int)) + (l3.length : Int)) = R
  z5 : wrap64 (db + wrap64 (s1 + s2)) = wrap64 (wrap64 (db + s1) + s2)
structure Same (a b : Int) : Prop where
  eq : a = b

set_option maxHeartbeats 1000000 in
set_option maxRecDepth 10000 in
theorem law5_main (rows : Int) (jm : Bool) (a1 a2 a3 : Option Addr) (c1 c2 c3 : Nat) (l1 l2 l3 : List Int) (dr db ds s1 s2 t since : Int) (w : World) (h1 : Sl .i64 w (.slice a1 l1.length c1) l1) (h2 : Sl .i64 w (.slice a2 l2.length c2) l2) (h3 : Sl .i64 w (.slice a3 l3.length c3) l3) (hT : Tab w)
    (n1 : l1.length ≤ 32768) (n2 : l2.length ≤ 32768) (n3 : l3.length ≤ 32768) (o1 : okB l1 = true) (o2 : okB l2 = true) (o3 : okB l3 = true)
    (R : Int) (hb : (0 < dr ∧ dr < 9223372036854775808 ∧ since = ds ∧ R = wrap64 (wrap64 (dr + (l2.length : Int)) + (l3.length : Int))) ∨ (dr = 0 ∧ since = t ∧ R = (l2.length : Int) + (l3.length : Int))) :
    Calls Tryd.prog 5 #[.slice a1 l1.length c1, .int .i64 dr, .int .i64 db, .int .i64 ds, .int .i64 rows, .bool jm, .slice a2 l2.length c2, .slice a3 l3.length c3, .int .i64 s1, .int .i64 s2, .int .i64 t] w fun e w' => e = .returned (.bool true) ∧ Below w.heap.size w w' := by
  have q1 := ordsOK_any _ l1 w h1 (by omega)
  have q2 := ordsOK_any _ l2 w h2 (by omega)
  have q3 := ordsOK_any _ l3 w h3 (by omega)
  rw [o1] at q1
  rw [o2] at q2
  rw [o3] at q3
  have H1 : Hid (Sl .i64 w (.slice a1 l1.length c1) l1) := h1
  have H2 : Hid (Sl .i64 w (.slice a2 l2.length c2) l2) := h2
  have H3 : Hid (Sl .i64 w (.slice a3 l3.length c3) l3) := h3
  have HT : Hid (Tab w) := hT
  have Q1 : Hid (Calls Tryd.prog 16 #[.slice a1 l1.length c1] w fun e w' => e = .returned (.bool true) ∧ w' = w) := q1
  have Q2 : Hid (Calls Tryd.prog 16 #[.slice a2 l2.length c2] w fun e w' => e = .returned (.bool true) ∧ w' = w) := q2
  have Q3 : Hid (Calls Tryd.prog 16 #[.slice a3 l3.length c3] w fun e w' => e = .returned (.bool true) ∧ w' = w) := q3
  have O1 : Hid (okB l1 = true) := o1
  have O2 : Hid (okB l2 = true) := o2
  have O3 : Hid (okB l3 = true) := o3
  obtain ⟨z1, z2, z3, z4⟩ := l5_facts n2 n3 hb
  have Z : F5 dr db ds t since R s1 s2 l2 l3 := ⟨z1, z2, z3, z4, (w64_assoc2 db s1 s2).trans (w64_assoc1 db s1 s2).symm⟩
  clear q1 q2 q3 h1 h2 h3 hT o1 o2 o3 z1 z2 z3 z4
  rcases hb with ⟨hd, hd2, e1, e2⟩ | ⟨e0, e1, e2⟩
  all_goals
    have XS := Same.mk e1
    have XR := Same.mk e2
    clear e1 e2
  · clear hd2
    go_enter Tryd.func5, Tryd.ntmps5
    go_wp2_with (first
      | (go_at_call 24; refine (bytes24_any _ _ _ _ _ _ _ _ _ _ _ _ _ _ _ _ _ _).mono ?_; rintro _ _ ⟨b, rfl, hwe⟩; have hwe := hwe.symm; subst hwe; cases b)
      | (go_at_call_of 16 a1; refine Q1.out.mono ?_; rintro _ _ ⟨rfl, hwe⟩; have hwe := hwe.symm; subst hwe)
      | (go_at_call_of 16 a2; refine Q2.out.mono ?_; rintro _ _ ⟨rfl, hwe⟩; have hwe := hwe.symm; subst hwe)
      | (go_at_call_of 16 a3; refine Q3.out.mono ?_; rintro _ _ ⟨rfl, hwe⟩; have hwe := hwe.symm; subst hwe)
      | (refine wpList_alloc49 rfl rfl ?_; intro w1 N1))
    · go_ret
      exact ⟨rfl, Below.refl _ _⟩
    go_region_held3 (fun w' => Below w.heap.size w w' ∧ w'.cell? ⟨w.heap.size, 0, none⟩ = some (.pointer none) ∧ w'.cell? ⟨w.heap.size, 1, none⟩ = some (.int .i64 0))
      (first | (with_reducible exact s5_start N1) | (with_reducible refine s5_below ?_ hn2.below; assumption) | (with_reducible refine s5_grown ?_ hgr3 hob3; assumption) | (with_reducible refine s5_below ?_ hb4; assumption))
      (first
        | (go_at_call 27; refine (clone5 (by assumption) H1.out n1).mono ?_; rintro _ w2 ⟨v1, rfl, hn2, hlt2⟩)
        | (go_at_call 26; refine (with5 hn2 hlt2 (okB_zero O1.out) (okB_32 O1.out) n1).mono ?_; rintro _ w3 ⟨p0, h0, S0, ob0, rfl, hR3, hm3, hgr3, hob3⟩)
        | (go_at_call 25; refine (newSeg_any _ rows p0 h0 S0 _ db ds jm w3 hR3).mono ?_; rintro _ w4 ⟨g0, rfl, hs4, hb4⟩))
    have S4 := s5_below (s5_grown (s5_below (s5_start N1) hn2.below) hgr3 hob3) hb4
    have B4 : Below w.heap.size w w4 := S4.1
    have G0 : Hid (Seg (fun b => w.heap.size ≤ b) w4 g0 rows S0 _ db ds jm) := hs4.wide (fun b h => h.elim id (fun h => Nat.le_trans (s5_grown (s5_below (s5_start N1) hn2.below) hgr3 hob3).1.size h))
    have M0 : Hid (∀ x, x ∈ S0 ↔ x ∈ l1) := hm3
    clear S4 hs4 hm3 hR3
    go_wp2_with (first
      | (go_at_call_of 27 a2; refine (clone_any _ l2 w4 (H2.out.keep B4) (by omega)).mono ?_; rintro _ w5 ⟨v2, rfl, hn5⟩)
      | (go_at_call_of 28 v2
         refine (mark_any w.heap.size g0 rows S0 l2 _ db ds jm v2 s1 t w4 w5 B4.size G0.out hn5 (okB_zero O2.out) (okB_32 O2.out) (by omega)).mono ?_
         rintro _ w6 ⟨g1, S1, rfl, hs6, hm6, hk6, hbe6⟩
         rw [Z.z1] at hs6
         have B6 : Below w.heap.size w w6 := hbe6 w B4
         have G1 : Hid (Seg (fun b => w.heap.size ≤ b) w6 g1 rows S1 _ (wrap64 (db + s1)) _ jm) := hs6
         have G0b : Hid (Seg (fun b => w.heap.size ≤ b) w6 g0 rows S0 _ db ds jm) := hk6 _ _ _ _ _ _ _ G0.out
         have M1 : Hid (∀ x, x ∈ S1 ↔ x ∈ S0 ∨ x ∈ l2) := hm6
         clear hs6 hm6 hk6 hbe6 G0)
      | (go_at_call_of 27 a3; refine (clone_any _ l3 w6 (H3.out.keep B6) (by omega)).mono ?_; rintro _ w7 ⟨v3, rfl, hn7⟩)
      | (go_at_call_of 28 v3
         refine (mark_any w.heap.size g1 rows S1 l3 _ _ _ jm v3 s2 t w6 w7 B6.size G1.out hn7 (okB_zero O3.out) (okB_32 O3.out) (by omega)).mono ?_
         rintro _ w8 ⟨g2, S2, rfl, hs8, hm8, hk8, hbe8⟩
         rw [Z.z4, Z.z2] at hs8
         have B8 : Below w.heap.size w w8 := hbe8 w B6
         have G2 : Hid (Seg (fun b => w.heap.size ≤ b) w8 g2 rows S2 _ (wrap64 (wrap64 (db + s1) + s2)) _ jm) := hs8
         have G0c : Hid (Seg (fun b => w.heap.size ≤ b) w8 g0 rows S0 _ db ds jm) := hk8 _ _ _ _ _ _ _ G0b.out
         have M2 : Hid (∀ x, x ∈ S2 ↔ x ∈ S1 ∨ x ∈ l3) := hm8
         clear hs8 hm8 hk8 hbe8 G1 G0b)
      | (go_at_call_of 20 a1; refine (join_any _ _ l1 l2 w10 (H1.out.keep B10) (H2.out.keep B10) (by omega) (by omega)).mono ?_; rintro _ w11 ⟨vk, rfl, hn11⟩; have B11 : Below w.heap.size w w11 := B10.trans (hn11.below.mono B10.size))
      | (go_at_call_of 20 vk; refine (join_any _ _ (l1 ++ l2) l3 w11 hn11.sl (H3.out.keep B11) (by rw [List.length_append]; omega) (by omega)).mono ?_; rintro _ w12 ⟨vm, rfl, hn12⟩; have B12 : Below w.heap.size w w12 := B11.trans (hn12.below.mono B11.size))
      | (go_at_call_of 20 a2; refine (join_any _ _ l2 l3 w8 (H2.out.keep B8) (H3.out.keep B8) (by omega) (by omega)).mono ?_; rintro _ w9 ⟨vj, rfl, hn9⟩)
      | (go_at_call_of 28 vj
         refine (mark_any w.heap.size g0 rows S0 (l2 ++ l3) _ db ds jm vj _ t w8 w9 B8.size G0c.out hn9 (fun x hx => (List.mem_append.1 hx).elim (okB_zero O2.out x) (okB_zero O3.out x)) (fun x hx => (List.mem_append.1 hx).elim (okB_32 O2.out x) (okB_32 O3.out x)) (by rw [List.length_append]; omega)).mono ?_
         rintro _ w10 ⟨g3, S3, rfl, hs10, hm10, hk10, hbe10⟩
         rw [Z.z3, Z.z5, Z.z1, XS.eq, XR.eq] at hs10
         have B10 : Below w.heap.size w w10 := hbe10 w B8
         have G3 : Hid (Seg (fun b => w.heap.size ≤ b) w10 g3 rows S3 _ (wrap64 (wrap64 (db + s1) + s2)) _ jm) := hs10
         have hg2 := hk10 _ _ _ _ _ _ _ G2.out
         rw [XS.eq, XR.eq] at hg2
         have G2d : Hid (Seg (fun b => w.heap.size ≤ b) w10 g2 rows S2 _ (wrap64 (wrap64 (db + s1) + s2)) _ jm) := hg2
         have G0d : Hid (Seg (fun b => w.heap.size ≤ b) w10 g0 rows S0 _ db ds jm) := hk10 _ _ _ _ _ _ _ G0c.out
         have M3 : Hid (∀ x, x ∈ S3 ↔ x ∈ S0 ∨ x ∈ l2 ++ l3) := hm10
         clear hs10 hg2 hm10 hk10 hbe10 G2 G0c)
      | (go_at_call_of 19 a1
         refine (setOf_any _ l1 w15 (by omega) (H1.out.keep B15)).mono ?_
         rintro _ w16 ⟨vB, D0, rfl, hn16, hA0, hM0, hL0⟩
         have hD0 : D0 = S0 := asc_ext hA0 G0d.out.asc (fun x => by rw [hM0, M0.out])
         subst hD0
         have c16 : Below w10.heap.size w10 w16 := c15.trans (hn16.below.mono c15.size)
         have B16 : Below w.heap.size w w16 := B15.trans (hn16.below.mono B15.size)
         have L16 : Hid (D0.length ≤ 4194304) := Nat.le_trans hL0 (by omega))
      | (go_at_call 19
         refine (setOf_any vm (l1 ++ l2 ++ l3) w12 (by rw [List.length_append, List.length_append]; omega) hn12.sl).mono ?_
         rintro _ w13 ⟨vA, D, rfl, hn13, hA, hM, hL⟩
         have hD2 : D = S2 := asc_ext hA G2d.out.asc (fun x => by rw [hM, M2.out, M1.out, M0.out]; simp [or_assoc])
         have hD3 : D = S3 := asc_ext hA G3.out.asc (fun x => by rw [hM, M3.out, M0.out]; simp)
         subst hD2
         subst hD3
         have c13 : Below w10.heap.size w10 w13 := (hn11.below.trans (hn12.below.mono hn11.below.size)).trans (hn13.below.mono (Nat.le_trans hn11.below.size hn12.below.size))
         have B13 : Below w.heap.size w w13 := B12.trans (hn13.below.mono B12.size)
         have L13 : Hid (D.length ≤ 4194304) := Nat.le_trans hL (by rw [List.length_append, List.length_append]; omega))
      | (go_at_call_of 29 g2; refine (segIs_any _ g2 rows D _ _ _ jm vA w13 (G2d.out.keep c13) (HT.out.keep B13) hn13.sl L13.out).mono ?_; rintro _ w14 ⟨rfl, hb14⟩; have c14 : Below w10.heap.size w10 w14 := c13.trans (hb14.mono c13.size); have B14 : Below w.heap.size w w14 := B13.trans (hb14.mono B13.size))
      | (go_at_call_of 29 g3; refine (segIs_any _ g3 rows D _ _ _ jm vA w14 (G3.out.keep c14) (HT.out.keep B14) (hn13.sl.keep hb14) L13.out).mono ?_; rintro _ w15 ⟨rfl, hb15⟩; have c15 : Below w10.heap.size w10 w15 := c14.trans (hb15.mono c14.size); have B15 : Below w.heap.size w w15 := B14.trans (hb15.mono B14.size))
      | (go_at_call_of 29 g0; refine (segIs_any _ g0 rows D0 _ _ _ jm vB w16 (G0d.out.keep c16) (HT.out.keep B16) hn16.sl L16.out).mono ?_; rintro _ w17 ⟨rfl, hb17⟩; have B17 : Below w.heap.size w w17 := B16.trans (hb17.mono B16.size)))
    go_ret
    exact ⟨rfl, B17⟩
  · subst e0
    go_enter Tryd.func5, Tryd.ntmps5
    go_wp2_with (first
      | (go_at_call 24; refine (bytes24_any _ _ _ _ _ _ _ _ _ _ _ _ _ _ _ _ _ _).mono ?_; rintro _ _ ⟨b, rfl, hwe⟩; have hwe := hwe.symm; subst hwe; cases b)
      | (go_at_call_of 16 a1; refine Q1.out.mono ?_; rintro _ _ ⟨rfl, hwe⟩; have hwe := hwe.symm; subst hwe)
      | (go_at_call_of 16 a2; refine Q2.out.mono ?_; rintro _ _ ⟨rfl, hwe⟩; have hwe := hwe.symm; subst hwe)
      | (go_at_call_of 16 a3; refine Q3.out.mono ?_; rintro _ _ ⟨rfl, hwe⟩; have hwe := hwe.symm; subst hwe)
      | (refine wpList_alloc49 rfl rfl ?_; intro w1 N1))
    · go_ret
      exact ⟨rfl, Below.refl _ _⟩
    go_region_held3 (fun w' => Below w.heap.size w w' ∧ w'.cell? ⟨w.heap.size, 0, none⟩ = some (.pointer none) ∧ w'.cell? ⟨w.heap.size, 1, none⟩ = some (.int .i64 0))
      (first | (with_reducible exact s5_start N1) | (with_reducible refine s5_below ?_ hn2.below; assumption) | (with_reducible refine s5_grown ?_ hgr3 hob3; assumption) | (with_reducible refine s5_below ?_ hb4; assumption))
      (first
        | (go_at_call 27; refine (clone5 (by assumption) H1.out n1).mono ?_; rintro _ w2 ⟨v1, rfl, hn2, hlt2⟩)
        | (go_at_call 26; refine (with5 hn2 hlt2 (okB_zero O1.out) (okB_32 O1.out) n1).mono ?_; rintro _ w3 ⟨p0, h0, S0, ob0, rfl, hR3, hm3, hgr3, hob3⟩)
        | (go_at_call 25; refine (newSeg_any _ rows p0 h0 S0 _ db ds jm w3 hR3).mono ?_; rintro _ w4 ⟨g0, rfl, hs4, hb4⟩))
    have S4 := s5_below (s5_grown (s5_below (s5_start N1) hn2.below) hgr3 hob3) hb4
    have B4 : Below w.heap.size w w4 := S4.1
    have G0 : Hid (Seg (fun b => w.heap.size ≤ b) w4 g0 rows S0 _ db ds jm) := hs4.wide (fun b h => h.elim id (fun h => Nat.le_trans (s5_grown (s5_below (s5_start N1) hn2.below) hgr3 hob3).1.size h))
    have M0 : Hid (∀ x, x ∈ S0 ↔ x ∈ l1) := hm3
    clear S4 hs4 hm3 hR3
    go_wp2_with (first
      | (go_at_call_of 27 a2; refine (clone_any _ l2 w4 (H2.out.keep B4) (by omega)).mono ?_; rintro _ w5 ⟨v2, rfl, hn5⟩)
      | (go_at_call_of 28 v2
         refine (mark_any w.heap.size g0 rows S0 l2 _ db ds jm v2 s1 t w4 w5 B4.size G0.out hn5 (okB_zero O2.out) (okB_32 O2.out) (by omega)).mono ?_
         rintro _ w6 ⟨g1, S1, rfl, hs6, hm6, hk6, hbe6⟩
         rw [Z.z1] at hs6
         have B6 : Below w.heap.size w w6 := hbe6 w B4
         have G1 : Hid (Seg (fun b => w.heap.size ≤ b) w6 g1 rows S1 _ (wrap64 (db + s1)) _ jm) := hs6
         have G0b : Hid (Seg (fun b => w.heap.size ≤ b) w6 g0 rows S0 _ db ds jm) := hk6 _ _ _ _ _ _ _ G0.out
         have M1 : Hid (∀ x, x ∈ S1 ↔ x ∈ S0 ∨ x ∈ l2) := hm6
         clear hs6 hm6 hk6 hbe6 G0)
      | (go_at_call_of 27 a3; refine (clone_any _ l3 w6 (H3.out.keep B6) (by omega)).mono ?_; rintro _ w7 ⟨v3, rfl, hn7⟩)
      | (go_at_call_of 28 v3
         refine (mark_any w.heap.size g1 rows S1 l3 _ _ _ jm v3 s2 t w6 w7 B6.size G1.out hn7 (okB_zero O3.out) (okB_32 O3.out) (by omega)).mono ?_
         rintro _ w8 ⟨g2, S2, rfl, hs8, hm8, hk8, hbe8⟩
         rw [Z.z4, Z.z2] at hs8
         have B8 : Below w.heap.size w w8 := hbe8 w B6
         have G2 : Hid (Seg (fun b => w.heap.size ≤ b) w8 g2 rows S2 _ (wrap64 (wrap64 (db + s1) + s2)) _ jm) := hs8
         have G0c : Hid (Seg (fun b => w.heap.size ≤ b) w8 g0 rows S0 _ db ds jm) := hk8 _ _ _ _ _ _ _ G0b.out
         have M2 : Hid (∀ x, x ∈ S2 ↔ x ∈ S1 ∨ x ∈ l3) := hm8
         clear hs8 hm8 hk8 hbe8 G1 G0b)
      | (go_at_call_of 20 a1; refine (join_any _ _ l1 l2 w10 (H1.out.keep B10) (H2.out.keep B10) (by omega) (by omega)).mono ?_; rintro _ w11 ⟨vk, rfl, hn11⟩; have B11 : Below w.heap.size w w11 := B10.trans (hn11.below.mono B10.size))
      | (go_at_call_of 20 vk; refine (join_any _ _ (l1 ++ l2) l3 w11 hn11.sl (H3.out.keep B11) (by rw [List.length_append]; omega) (by omega)).mono ?_; rintro _ w12 ⟨vm, rfl, hn12⟩; have B12 : Below w.heap.size w w12 := B11.trans (hn12.below.mono B11.size))
      | (go_at_call_of 20 a2; refine (join_any _ _ l2 l3 w8 (H2.out.keep B8) (H3.out.keep B8) (by omega) (by omega)).mono ?_; rintro _ w9 ⟨vj, rfl, hn9⟩)
      | (go_at_call_of 28 vj
         refine (mark_any w.heap.size g0 rows S0 (l2 ++ l3) _ db ds jm vj _ t w8 w9 B8.size G0c.out hn9 (fun x hx => (List.mem_append.1 hx).elim (okB_zero O2.out x) (okB_zero O3.out x)) (fun x hx => (List.mem_append.1 hx).elim (okB_32 O2.out x) (okB_32 O3.out x)) (by rw [List.length_append]; omega)).mono ?_
         rintro _ w10 ⟨g3, S3, rfl, hs10, hm10, hk10, hbe10⟩
         rw [Z.z3, Z.z5, Z.z1, XS.eq, XR.eq] at hs10
         have B10 : Below w.heap.size w w10 := hbe10 w B8
         have G3 : Hid (Seg (fun b => w.heap.size ≤ b) w10 g3 rows S3 _ (wrap64 (wrap64 (db + s1) + s2)) _ jm) := hs10
         have hg2 := hk10 _ _ _ _ _ _ _ G2.out
         rw [XS.eq, XR.eq] at hg2
         have G2d : Hid (Seg (fun b => w.heap.size ≤ b) w10 g2 rows S2 _ (wrap64 (wrap64 (db + s1) + s2)) _ jm) := hg2
         have G0d : Hid (Seg (fun b => w.heap.size ≤ b) w10 g0 rows S0 _ db ds jm) := hk10 _ _ _ _ _ _ _ G0c.out
         have M3 : Hid (∀ x, x ∈ S3 ↔ x ∈ S0 ∨ x ∈ l2 ++ l3) := hm10
         clear hs10 hg2 hm10 hk10 hbe10 G2 G0c)
      | (go_at_call_of 19 a1
         refine (setOf_any _ l1 w15 (by omega) (H1.out.keep B15)).mono ?_
         rintro _ w16 ⟨vB, D0, rfl, hn16, hA0, hM0, hL0⟩
         have hD0 : D0 = S0 := asc_ext hA0 G0d.out.asc (fun x => by rw [hM0, M0.out])
         subst hD0
         have c16 : Below w10.heap.size w10 w16 := c15.trans (hn16.below.mono c15.size)
         have B16 : Below w.heap.size w w16 := B15.trans (hn16.below.mono B15.size)
         have L16 : Hid (D0.length ≤ 4194304) := Nat.le_trans hL0 (by omega))
      | (go_at_call 19
         refine (setOf_any vm (l1 ++ l2 ++ l3) w12 (by rw [List.length_append, List.length_append]; omega) hn12.sl).mono ?_
         rintro _ w13 ⟨vA, D, rfl, hn13, hA, hM, hL⟩
         have hD2 : D = S2 := asc_ext hA G2d.out.asc (fun x => by rw [hM, M2.out, M1.out, M0.out]; simp [or_assoc])
         have hD3 : D = S3 := asc_ext hA G3.out.asc (fun x => by rw [hM, M3.out, M0.out]; simp)
         subst hD2
         subst hD3
         have c13 : Below w10.heap.size w10 w13 := (hn11.below.trans (hn12.below.mono hn11.below.size)).trans (hn13.below.mono (Nat.le_trans hn11.below.size hn12.below.size))
         have B13 : Below w.heap.size w w13 := B12.trans (hn13.below.mono B12.size)
         have L13 : Hid (D.length ≤ 4194304) := Nat.le_trans hL (by rw [List.length_append, List.length_append]; omega))
      | (go_at_call_of 29 g2; refine (segIs_any _ g2 rows D _ _ _ jm vA w13 (G2d.out.keep c13) (HT.out.keep B13) hn13.sl L13.out).mono ?_; rintro _ w14 ⟨rfl, hb14⟩; have c14 : Below w10.heap.size w10 w14 := c13.trans (hb14.mono c13.size); have B14 : Below w.heap.size w w14 := B13.trans (hb14.mono B13.size))
      | (go_at_call_of 29 g3; refine (segIs_any _ g3 rows D _ _ _ jm vA w14 (G3.out.keep c14) (HT.out.keep B14) (hn13.sl.keep hb14) L13.out).mono ?_; rintro _ w15 ⟨rfl, hb15⟩; have c15 : Below w10.heap.size w10 w15 := c14.trans (hb15.mono c14.size); have B15 : Below w.heap.size w w15 := B14.trans (hb15.mono B14.size))
      | (go_at_call_of 29 g0; refine (segIs_any _ g0 rows D0 _ _ _ jm vB w16 (G0d.out.keep c16) (HT.out.keep B16) hn16.sl L16.out).mono ?_; rintro _ w17 ⟨rfl, hb17⟩; have B17 : Below w.heap.size w w17 := B16.trans (hb17.mono B16.size)))
    go_ret
    exact ⟨rfl, B17⟩
end Go.Proofs.Qxb6609120aDoor
