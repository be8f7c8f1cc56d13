/-
  FnSegmentWithDeadFirstDeathKept: it returns true: the long way.
-/
import Derived.Test.Qxb6609120aDoorLaw6
namespace Go.Proofs.Qxb6609120aDoor
open Go.RowKit
open Plain (Srt Asc asc_ext)
set_option linter.unusedVariables false

theorem okB_zero {l : List Int} (h : okB l = true) : ∀ x ∈ l, 0 ≤ x := fun x hx => by
  unfold okB at h
  have := List.all_eq_true.1 h x hx
  simp at this
  exact this.1
theorem okB_32 {l : List Int} (h : okB l = true) : ∀ x ∈ l, x < 4294967296 := fun x hx => by
  unfold okB at h
  have := List.all_eq_true.1 h x hx
  simp at this
  exact this.2
theorem Seg.wide {ok ok' : Nat → Prop} {w : World} {g : Nat} {rows : Int} {S : List Int} {dr db ds : Int} {jm : Bool} (H : Seg ok w g rows S dr db ds jm) (ho : ∀ b, ok b → ok' b) : Seg ok' w g rows S dr db ds jm := H.go (fun _ _ _ => rfl) (fun b h _ => ho b h)
theorem w64_id {n : Int} (h0 : 0 ≤ n) (h1 : n < 9223372036854775808) : wrap64 n = n := by unfold wrap64; omega
theorem w64_len {a b c : Nat} (h1 : a ≤ 32768) (h2 : b ≤ 32768) (h3 : c ≤ 32768) : wrap64 (0 + (a : Int)) = (a : Int) ∧ wrap64 ((a : Int) + (b : Int)) = (a : Int) + (b : Int) ∧ wrap64 ((a : Int) + (b : Int) + (c : Int)) = (a : Int) + (b : Int) + (c : Int) := ⟨by rw [Int.zero_add]; exact w64_id (by omega) (by omega), w64_id (by omega) (by omega), w64_id (by omega) (by omega)⟩

set_option maxHeartbeats 2000000 in
set_option maxRecDepth 10000 in
theorem law6_main (rows : Int) (jm : Bool) (a1 a2 a3 : Option Addr) (c1 c2 c3 : Nat) (l1 l2 l3 : List Int) (s1 s2 s3 t1 t2 t3 since : Int) (w : World) (h1 : Sl .i64 w (.slice a1 l1.length c1) l1) (h2 : Sl .i64 w (.slice a2 l2.length c2) l2) (h3 : Sl .i64 w (.slice a3 l3.length c3) l3) (hT : Tab w)
    (n1 : l1.length ≤ 32768) (n2 : l2.length ≤ 32768) (n3 : l3.length ≤ 32768) (o1 : okB l1 = true) (o2 : okB l2 = true) (o3 : okB l3 = true) (d1 : Hid (wrap64 (0 + s1) = s1))
    (hb : (0 < l1.length ∧ since = t1) ∨ (l1.length = 0 ∧ 0 < l2.length ∧ since = t2) ∨ (l1.length = 0 ∧ l2.length = 0 ∧ since = t3)) :
    Calls Tryd.prog 6 #[.int .i64 rows, .bool jm, .slice a1 l1.length c1, .slice a2 l2.length c2, .slice a3 l3.length c3, .int .i64 s1, .int .i64 s2, .int .i64 s3, .int .i64 t1, .int .i64 t2, .int .i64 t3] w fun e w' => e = .returned (.bool true) ∧ Below w.heap.size w w' := by
  have q1 := ordsOK_any _ l1 w h1 (by omega)
  have q2 := ordsOK_any _ l2 w h2 (by omega)
  have q3 := ordsOK_any _ l3 w h3 (by omega)
  rw [o1] at q1
  rw [o2] at q2
  rw [o3] at q3
  have hds : (if (l1.length : Int) + (l2.length : Int) = 0 then t3 else if (l1.length : Int) = 0 then t2 else t1) = since := by
    rcases hb with ⟨x, rfl⟩ | ⟨x, y, rfl⟩ | ⟨x, y, rfl⟩
    · rw [if_neg (by omega), if_neg (by omega)]
    · rw [if_neg (by omega), if_pos (by omega)]
    · rw [if_pos (by omega)]
  obtain ⟨e1, e2, e3⟩ := w64_len n1 n2 n3
  have H1 : Hid (Sl .i64 w (.slice a1 l1.length c1) l1) := h1
  have H2 : Hid (Sl .i64 w (.slice a2 l2.length c2) l2) := h2
  have H3 : Hid (Sl .i64 w (.slice a3 l3.length c3) l3) := h3
  have HT : Hid (Tab w) := hT
  have Q1 : Hid (Calls Tryd.prog 16 #[.slice a1 l1.length c1] w fun e w' => e = .returned (.bool true) ∧ w' = w) := q1
  have Q2 : Hid (Calls Tryd.prog 16 #[.slice a2 l2.length c2] w fun e w' => e = .returned (.bool true) ∧ w' = w) := q2
  have Q3 : Hid (Calls Tryd.prog 16 #[.slice a3 l3.length c3] w fun e w' => e = .returned (.bool true) ∧ w' = w) := q3
  have E : Hid (wrap64 (0 + (l1.length : Int)) = (l1.length : Int) ∧ wrap64 ((l1.length : Int) + (l2.length : Int)) = (l1.length : Int) + (l2.length : Int) ∧ wrap64 ((l1.length : Int) + (l2.length : Int) + (l3.length : Int)) = (l1.length : Int) + (l2.length : Int) + (l3.length : Int) ∧ wrap64 (0 + s1) = s1) := ⟨e1, e2, e3, d1.out⟩
  have HDS : Hid ((if (l1.length : Int) + (l2.length : Int) = 0 then t3 else if (l1.length : Int) = 0 then t2 else t1) = since) := hds
  have HB : Hid ((0 < l1.length ∧ since = t1) ∨ (l1.length = 0 ∧ 0 < l2.length ∧ since = t2) ∨ (l1.length = 0 ∧ l2.length = 0 ∧ since = t3)) := hb
  have O1 : Hid (okB l1 = true) := o1
  have O2 : Hid (okB l2 = true) := o2
  have O3 : Hid (okB l3 = true) := o3
  clear q1 q2 q3 h1 h2 h3 hT hds hb o1 o2 o3 e1 e2 e3 d1
  have hb := HB.out
  clear HB
  have hb : (0 < l1.length ∧ since = t1) ∨ ((l1.length : Int) < 1 ∧ 0 < l2.length ∧ since = t2) ∨ ((l1.length : Int) < 1 ∧ (l2.length : Int) < 1 ∧ since = t3) := by
    rcases hb with h | ⟨x, y, e⟩ | ⟨x, y, e⟩
    · exact Or.inl h
    · exact Or.inr (Or.inl ⟨by omega, y, e⟩)
    · exact Or.inr (Or.inr ⟨by omega, by omega, e⟩)
  rcases hb with ⟨x, e⟩ | ⟨x, y, e⟩ | ⟨x, y, e⟩
  all_goals (have e := e.symm; subst e)
  all_goals
    go_enter Tryd.func6, Tryd.ntmps6
    go_wp2_with (first
      | (go_at_call 30; refine (bytes30_any _ _ _ _ _ _ _ _ _ _ _ _ _ _ _ _ _ _).mono ?_; rintro _ _ ⟨b, rfl, hwe⟩; have hwe := hwe.symm; subst hwe; cases b)
      | (go_at_call_of 16 a1; refine Q1.out.mono ?_; rintro _ _ ⟨rfl, hwe⟩; have hwe := hwe.symm; subst hwe)
      | (go_at_call_of 16 a2; refine Q2.out.mono ?_; rintro _ _ ⟨rfl, hwe⟩; have hwe := hwe.symm; subst hwe)
      | (go_at_call_of 16 a3; refine Q3.out.mono ?_; rintro _ _ ⟨rfl, hwe⟩; have hwe := hwe.symm; subst hwe)
      | (refine wpList_alloc49 rfl rfl ?_; intro w1 N1; have k0 := N1.cell 0 _ rfl; have k1 := N1.cell 1 _ rfl)
      | (go_at_call 25
         refine (newSeg_any (fun _ => False) rows none 0 [] 0 0 0 jm w1 ⟨by decide, Node.nil _ _ _ _, by simp⟩).mono ?_
         rintro _ w2 ⟨g0, rfl, hs0, hb2⟩
         have B2 : Below w.heap.size w w2 := N1.below.trans (hb2.mono N1.below.size)
         have S0 : Hid (Seg (fun b => w.heap.size ≤ b) w2 g0 rows [] 0 0 0 jm) := hs0.wide (fun b h => h.elim False.elim (fun h => Nat.le_trans N1.below.size h))
         clear hs0 k0 k1)
      | (go_at_call_of 27 a1; refine (clone_any _ l1 w2 (H1.out.keep B2) (by omega)).mono ?_; rintro _ w3 ⟨v1, rfl, hn3⟩)
      | (go_at_call_of 28 s1
         refine (mark_any w.heap.size g0 rows [] l1 0 0 0 jm v1 s1 t1 w2 w3 B2.size S0.out hn3 (okB_zero O1.out) (okB_32 O1.out) (by omega)).mono ?_
         rintro _ w4 ⟨g1, S1, rfl, hs4, hm4, hk4, hbe4⟩
         rw [E.out.1, E.out.2.2.2, if_pos rfl] at hs4
         have B4 : Below w.heap.size w w4 := hbe4 w B2
         have G1 : Hid (Seg (fun b => w.heap.size ≤ b) w4 g1 rows S1 (l1.length : Int) s1 t1 jm) := hs4
         have M1 : Hid (∀ x, x ∈ S1 ↔ x ∈ ([] : List Int) ∨ x ∈ l1) := hm4
         clear hs4 hm4 hk4 hbe4 S0)
      | (go_at_call_of 27 a2; refine (clone_any _ l2 w4 (H2.out.keep B4) (by omega)).mono ?_; rintro _ w5 ⟨v2, rfl, hn5⟩)
      | (go_at_call_of 28 s2
         refine (mark_any w.heap.size g1 rows S1 l2 _ s1 t1 jm v2 s2 t2 w4 w5 B4.size G1.out hn5 (okB_zero O2.out) (okB_32 O2.out) (by omega)).mono ?_
         rintro _ w6 ⟨g2, S2, rfl, hs6, hm6, hk6, hbe6⟩
         rw [E.out.2.1] at hs6
         have B6 : Below w.heap.size w w6 := hbe6 w B4
         have G2 : Hid (Seg (fun b => w.heap.size ≤ b) w6 g2 rows S2 ((l1.length : Int) + (l2.length : Int)) (wrap64 (s1 + s2)) (if (l1.length : Int) = 0 then t2 else t1) jm) := hs6
         have G1b : Hid (Seg (fun b => w.heap.size ≤ b) w6 g1 rows S1 (l1.length : Int) s1 t1 jm) := hk6 _ _ _ _ _ _ _ G1.out
         have M2 : Hid (∀ x, x ∈ S2 ↔ x ∈ S1 ∨ x ∈ l2) := hm6
         clear hs6 hm6 hk6 hbe6 G1)
      | (go_at_call_of 27 a3; refine (clone_any _ l3 w6 (H3.out.keep B6) (by omega)).mono ?_; rintro _ w7 ⟨v3, rfl, hn7⟩)
      | (go_at_call_of 28 s3
         refine (mark_any w.heap.size g2 rows S2 l3 _ _ _ jm v3 s3 t3 w6 w7 B6.size G2.out hn7 (okB_zero O3.out) (okB_32 O3.out) (by omega)).mono ?_
         rintro _ w8 ⟨g3, S3, rfl, hs8, hm8, hk8, hbe8⟩
         rw [E.out.2.2.1, HDS.out] at hs8
         have B8 : Below w.heap.size w w8 := hbe8 w B6
         have G3 : Hid (Seg (fun b => w.heap.size ≤ b) w8 g3 rows S3 ((l1.length : Int) + (l2.length : Int) + (l3.length : Int)) (wrap64 (wrap64 (s1 + s2) + s3)) _ jm) := hs8
         have G1c : Hid (Seg (fun b => w.heap.size ≤ b) w8 g1 rows S1 (l1.length : Int) s1 t1 jm) := hk8 _ _ _ _ _ _ _ G1b.out
         have M3 : Hid (∀ x, x ∈ S3 ↔ x ∈ S2 ∨ x ∈ l3) := hm8
         clear hs8 hm8 hk8 hbe8 G2 G1b)
      | (go_at_call_of 20 a1; refine (join_any _ _ l1 l2 w8 (H1.out.keep B8) (H2.out.keep B8) (by omega) (by omega)).mono ?_; rintro _ w9 ⟨vj, rfl, hn9⟩; have B9 : Below w.heap.size w w9 := B8.trans (hn9.below.mono B8.size))
      | (go_at_call_of 20 a3; refine (join_any _ _ (l1 ++ l2) l3 w9 hn9.sl (H3.out.keep B9) (by rw [List.length_append]; omega) (by omega)).mono ?_; rintro _ w10 ⟨vk, rfl, hn10⟩; have B10 : Below w.heap.size w w10 := B9.trans (hn10.below.mono B9.size))
      | (go_at_call_of 19 a1
         refine (setOf_any _ l1 w12 (by omega) (H1.out.keep B12)).mono ?_
         rintro _ w13 ⟨vB, D1, rfl, hn13, hA1, hM1, hL1⟩
         have hD1 : D1 = S1 := asc_ext hA1 G1c.out.asc (fun x => by rw [hM1, M1.out]; simp)
         subst hD1
         have c13 : Below w8.heap.size w8 w13 := (c11.trans (hb12.mono c11.size)).trans (hn13.below.mono (Nat.le_trans c11.size hb12.size))
         have B13 : Below w.heap.size w w13 := B12.trans (hn13.below.mono B12.size)
         have L13 : Hid (D1.length ≤ 4194304) := Nat.le_trans hL1 (by omega))
      | (go_at_call 19
         refine (setOf_any vk (l1 ++ l2 ++ l3) w10 (by rw [List.length_append, List.length_append]; omega) hn10.sl).mono ?_
         rintro _ w11 ⟨vA, D, rfl, hn11, hA, hM, hL⟩
         have hD : D = S3 := asc_ext hA G3.out.asc (fun x => by rw [hM, M3.out, M2.out, M1.out]; simp [or_assoc])
         subst hD
         have c11 : Below w8.heap.size w8 w11 := (hn9.below.trans (hn10.below.mono hn9.below.size)).trans (hn11.below.mono (Nat.le_trans hn9.below.size hn10.below.size))
         have B11 : Below w.heap.size w w11 := B10.trans (hn11.below.mono B10.size)
         have L11 : Hid (D.length ≤ 4194304) := Nat.le_trans hL (by rw [List.length_append, List.length_append]; omega))
      | (go_at_call_of 29 g3; refine (segIs_any _ g3 rows D _ _ _ jm vA w11 (G3.out.keep c11) (HT.out.keep B11) hn11.sl L11.out).mono ?_; rintro _ w12 ⟨rfl, hb12⟩; have B12 : Below w.heap.size w w12 := B11.trans (hb12.mono B11.size))
      | (go_at_call_of 29 g1; refine (segIs_any _ g1 rows D1 _ _ _ jm vB w13 (G1c.out.keep c13) (HT.out.keep B13) hn13.sl L13.out).mono ?_; rintro _ w14 ⟨rfl, hb14⟩; have B14 : Below w.heap.size w w14 := B13.trans (hb14.mono B13.size)))
    · go_ret
      exact ⟨rfl, Below.refl _ _⟩
    · go_ret
      exact ⟨rfl, B14⟩
end Go.Proofs.Qxb6609120aDoor
