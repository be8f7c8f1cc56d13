/-
  RowSet.with, and that the height does not fall.
-/
import Derived.Test.Qxb6609120aDoorZwith
namespace Go.Proofs.Qxb6609120aDoor
open Go.RowKit
open Plain (Srt Asc asc_ext)
set_option linter.unusedVariables false

/-- The result's cells, written; the call ends. -/
theorem Sorted.doneUp {ok ok' : Nat → Prop} {w w8 : World} {p : Option Addr} {h hb0 : Nat} {S S0 O : List Int} {ob sb rb : Nat} {tmps : Array Value} (H : Sorted ok w w8 p h S ob sb rb) (h4 : tmps.getD 4 undef = .pointer (some ⟨rb, 0, none⟩)) (hR : ∀ {w' : World}, Node ok' h w' 0 p S → RSet ok' w' p h S) (ho : ∀ b, ok b → ok' b) (hm : ∀ x, x ∈ S ↔ x ∈ S0 ∨ x ∈ O) (hup : hb0 ≤ h) :
    bodyPost Tryd.prog Tryd.f39 (fun e w' => ∃ p' h' S', e = Ending.returned (Value.agg #[Value.pointer p', Value.int IntKind.i64 ((h' : Nat) : Int)]) ∧ RSet ok' w' p' h' S' ∧ (∀ (x : Int), x ∈ S' ↔ x ∈ S0 ∨ x ∈ O) ∧ w.grownBy w' (some ob) ∧ hb0 ≤ h') Exit.ret { tmps := tmps, defers := [] }
      ((w8.setCell ⟨rb, 0, none⟩ (.pointer p)).setCell ⟨rb, 1, none⟩ (.int .i64 (h : Nat))) := by
  have hst : ∀ b, b ≠ rb → ((w8.setCell ⟨rb, 0, none⟩ (.pointer p)).setCell ⟨rb, 1, none⟩ (.int .i64 (h : Nat))).heap[b]? = w8.heap[b]? := fun b hne => by
    rw [Below.heap_setCell _ _ _ _ (by intro e; exact hne e), Below.heap_setCell _ _ _ _ (by intro e; exact hne e)]
  refine bodyPost_ret (v := .agg #[.pointer p, .int .i64 (h : Nat)]) ?_ rfl ⟨p, h, S, rfl, hR (H.node.go (fun b ho _ => hst b (H.apart b ho).2.2) (fun b hb _ => ho b hb)), hm, ⟨H.grow.os, H.grow.tape, H.grow.output, by simpa using H.grow.size, fun k hk hne => ?_⟩, hup⟩
  · rw [results_cell1 Tryd.results39, h4]
    simp [asAddr, load49 (two0 (b := .pointer none) H.r0) (two1 H.r1)]
  · rw [hst k (by have := H.g2; omega)]; exact H.grow.block k hk hne

set_option maxRecDepth 10000 in
theorem setWith_up (ok : Nat → Prop) (p : Option Addr) (h : Nat) (S O : List Int) (ob cap : Nat) (w : World) (hR : RSet ok w p h S) (ho : Own .i64 2 w ob O) (hok : ∀ b, ok b → b ≠ ob) (hne : O ≠ []) (h0 : ∀ x ∈ O, 0 ≤ x) (h32 : ∀ x ∈ O, x < 4294967296) (hl : O.length ≤ 1048576) (hc : O.length ≤ cap) :
    Calls Tryd.prog 39 #[.agg #[.pointer p, .int .i64 (h : Nat)], .slice (some ⟨ob, 0, none⟩) O.length cap] w fun e w' => ∃ p' h' S', e = .returned (.agg #[.pointer p', .int .i64 (h' : Nat)]) ∧ RSet (fun b => ok b ∨ w.heap.size ≤ b) w' p' h' S' ∧ (∀ x, x ∈ S' ↔ x ∈ S ∨ x ∈ O) ∧ w.grownBy w' (some ob) ∧ h ≤ h' := by
  have tok : True := trivial
  have hblt := ho.lt
  have hpos := List.length_pos_iff.2 hne
  have hz : ((O.length : Int) == 0) = false := by rw [beq_eq_false_iff_ne]; omega
  go_enter Tryd.func39, Tryd.ntmps39
  go_wp2_with (first
    | (have _t := tok; refine wpList_box49 rfl (.tmp 0) p (h : Nat) rfl rfl ?_; intro w1 N1; have c0 := N1.cell 0 _ rfl; have c1 := N1.cell 1 _ rfl; clear tok _t)
    | (refine wpList_alloc49 rfl rfl ?_; intro w2 N2; have e0 := N2.cell 0 _ rfl; have e1 := N2.cell 1 _ rfl; have f0 := N2.warm 0; have f1 := N2.warm 1)
    | (go_at_call 52
       refine (sort_any ob cap O _ (ho.keep2 N1.below N2.below) hl).mono ?_
       rintro _ w3 ⟨rfl, hat, hgr⟩
       have HS := after_sort N1 N2 hgr hR.node hok hblt
       have HS' : Hid (Sorted (fun b => ok b ∧ b < w.heap.size) w w3 p h S ob w.heap.size w1.heap.size) := HS
       have s0 := HS.s0
       have s1 := HS.s1
       clear HS c0 c1 e0 e1 f0 f1))
  obtain ⟨l, hl1, hl2, hl3⟩ := srt_last O hne
  have hlb := h32 l hl3
  have hl0 := h0 l hl3
  have HL2 : Hid (∀ x ∈ srt O, x ≤ l) := hl2
  have hgl : w3.cell? ⟨ob, O.length - 1, none⟩ = some (.int .i64 l) := by
    have hi : O.length - 1 < (srt O).length := by rw [srt_len]; omega
    have := hat.cell (O.length - 1) hi
    rw [Nat.zero_add] at this
    rw [this]
    rw [List.getElem?_eq_getElem hi] at hl1
    rw [Option.some.inj hl1]
  have HAT : Hid (At .i64 w3 ob 0 (srt O)) := hat
  have hh4 := hR.le
  clear hl1 hl2 hl3 hat s0 s1 hgr
  obtain ⟨m, hm⟩ : ∃ m : Nat, O.length = m + 1 := ⟨O.length - 1, by omega⟩
  have HM : Hid (O.length = m + 1) := hm
  rw [hm] at hgl hz hl hc ⊢
  rw [Nat.add_sub_cancel] at hgl
  rw [show ((m + 1 : Nat) : Int) = (m : Int) + 1 by omega]
  clear hm hpos hz
  go_loopw [5] (fun sg wr => ∃ (g : Nat), sg = .int .i64 g ∧ h ≤ g ∧ g ≤ 4 ∧ Sorted (fun b => ok b ∧ b < w.heap.size) w wr p h S ob w.heap.size w1.heap.size ∧ At .i64 wr ob 0 (srt O) ∧ wr.cell? ⟨ob, m, none⟩ = some (.int .i64 l)) (fun sg _ => 4 - (intOf sg).toNat)
  case atStart => exact ⟨h, rfl, Nat.le_refl _, hh4, HS'.out, HAT.out, hgl⟩
  case round =>
    clear HS' HAT hgl
    obtain ⟨g, rfl, hhg, hg4, hS, hA, hgl⟩ := hrel
    have HS : Hid (Sorted (fun b => ok b ∧ b < w.heap.size) w wr p h S ob w.heap.size w1.heap.size) := hS
    have HA : Hid (At .i64 wr ob 0 (srt O)) := hA
    have hspn : (l : Int) < ((spn 4 : Nat) : Int) := by have : spn 4 = 68719476736 := rfl; omega
    have iw : IntKind.i64.wrap (m : Int) = (m : Int) := by rw [IntKind.wrap_i64]; omega
    have i1 : (m : Int) < (m : Int) + 1 := by omega
    have i2 : (0 : Int) ≤ (m : Int) := by omega
    have hspan : ∀ w, Calls Tryd.prog 50 #[.int .i64 (g : Int)] w fun e w' => e = .returned (.int .i64 ((spn g : Nat) : Int)) ∧ w' = w := span_any g hg4
    clear hS hA
    by_cases hge : ((spn g : Nat) : Int) ≤ l
    · have hg3 : g < 4 := by
        by_cases e : g = 4
        · subst e; omega
        · omega
      go_wp2_with fail
      go_region_held3 (fun w' => w'.cell? ⟨ob, m, none⟩ = some (.int .i64 l)) (first | exact hgl | assumption) ((go_at_call 50; refine (hspan _).mono ?_; rintro _ _ ⟨rfl, rfl⟩))
      go_wp2_with fail
      go_roundw
      case rel => exact ⟨g + 1, by go_num, by omega, by omega, HS.out.drew, HA.out.keep (Below.refl _ _).drew, hgl⟩
      case measure => simp [intOf]; omega
    · have hls : ∀ x ∈ srt O, x < ((spn g : Nat) : Int) := fun x hx => by have := HL2.out x hx; omega
      have HLS : Hid (∀ x ∈ srt O, x < ((spn g : Nat) : Int)) := hls
      clear hls
      go_wp2_with fail
      go_region_held3 (fun w' => w'.cell? ⟨ob, m, none⟩ = some (.int .i64 l)) (first | exact hgl | assumption) ((go_at_call 50; refine (hspan _).mono ?_; rintro _ _ ⟨rfl, rfl⟩))
      have HS4 := HS.out.drew
      have HA4 := HA.out.keep (Below.refl _ _).drew
      generalize wr.drew = w4 at HS4 HA4 ⊢
      have s0 := HS4.s0
      have s1 := HS4.s1
      have hz4 := HS4.grow.size
      have HS4' : Hid (Sorted (fun b => ok b ∧ b < w.heap.size) w w4 p h S ob w.heap.size w1.heap.size) := HS4
      have HA4' : Hid (At .i64 w4 ob 0 (srt O)) := HA4
      clear HS4 HA4 HS HA hgl
      go_wp2_with (first
        | (go_at_call 44
           refine (raise_any _ h g hhg hg4 p S w4 HS4'.out.node).mono ?_
           rintro _ w5 ⟨p1, rfl, hn5, hb5⟩
           have HS5 := HS4'.out.keep hb5
           have t0 := HS5.s0
           have t1 := HS5.s1
           have tf0 := HS5.sf 0
           have tf1 := HS5.sf 1
           have HS6 := HS5.put hn5 (HS4'.out.apart2)
           have HS6' : Hid (Sorted (fun b => (ok b ∧ b < w.heap.size) ∨ w4.heap.size ≤ b) w ((w5.setCell ⟨w.heap.size, 0, none⟩ (.pointer p1)).setCell ⟨w.heap.size, 1, none⟩ (.int .i64 (g : Nat))) p1 g S ob w.heap.size w1.heap.size) := HS6
           have HA6 : Hid (At .i64 ((w5.setCell ⟨w.heap.size, 0, none⟩ (.pointer p1)).setCell ⟨w.heap.size, 1, none⟩ (.int .i64 (g : Nat))) ob 0 (srt O)) := (HA4'.out.keep hb5).two (Ne.symm HS4'.out.n1)
           clear HS6 HS5 hn5 s0 s1)
        | (go_at_call 53
           have HS6 := HS6'.out
           have HA6' := HA6.out
           generalize ((w5.setCell ⟨w.heap.size, 0, none⟩ (.pointer p1)).setCell ⟨w.heap.size, 1, none⟩ (.int .i64 (g : Nat))) = w6 at HS6 HA6' ⊢
           have HW := with_any g hg4 _ 0 p1 S (srt O) ob 0 cap w6 HS6.node hR.h32 ⟨srt_srt O, srt_ne hne, fun x hx => by have := h0 x ((srt_mem O x).1 hx); simpa using this, fun x hx => by have := HLS.out x hx; simpa using this, fun x hx => h32 x ((srt_mem O x).1 hx), HA6', by rw [srt_len, HM.out]; exact hc, by rw [srt_len, HM.out]; exact hl⟩ (spn_le4 g hg4)
           rw [srt_len, HM.out] at HW
           refine HW.mono ?_
           rintro _ w7 ⟨⟨q, S', rfl, hn7, hm7⟩, hb7⟩
           have hz6 := HS6.grow.size
           have HS7 := HS6.keep hb7
           have r0 := HS7.r0
           have r1 := HS7.r1
           have v0 := HS7.s0
           have v1 := HS7.s1
           have vf0 := HS7.sf 0
           have rf0 := HS7.rf 0
           have rf1 := HS7.rf 1
           have nsr := HS7.n3
           have HS8 : Hid (Sorted (fun b => ((ok b ∧ b < w.heap.size) ∨ w4.heap.size ≤ b) ∨ w6.heap.size ≤ b) w (w7.setCell ⟨w.heap.size, 0, none⟩ (.pointer (some ⟨q, 0, none⟩))) (some ⟨q, 0, none⟩) g S' ob w.heap.size w1.heap.size) := HS7.put1 hn7 HS6.apart2
           have HMM : Hid (∀ x, x ∈ S' ↔ x ∈ S ∨ x ∈ srt O) := hm7
           clear HW HS6 HA6' HS7 hn7 hm7 HS6' HA6 t0 t1 tf0 tf1 HS4' HA4'))
      exact HS8.out.doneUp rfl (RSet.mk hg4 · (fun x hx => ((HMM.out x).1 hx).elim (hR.h32 x) (fun h' => h32 x ((srt_mem O x).1 h')))) (fun b hb => by
        rcases hb with (hb | hb) | hb
        · exact Or.inl hb.1
        · exact Or.inr (Nat.le_trans hz4 hb)
        · exact Or.inr (Nat.le_trans hz6 hb)) (fun x => by rw [HMM.out x, srt_mem]) hhg

theorem setWith_allUp (ok : Nat → Prop) (p : Option Addr) (h : Nat) (S O : List Int) (v : Value) (ob : Option Nat) (w : World) (hR : RSet ok w p h S) (ho : OrdV w v O ob) (hok : ∀ b, ok b → some b ≠ ob) (h0 : ∀ x ∈ O, 0 ≤ x) (h32 : ∀ x ∈ O, x < 4294967296) (hl : O.length ≤ 1048576) :
    Calls Tryd.prog 39 #[.agg #[.pointer p, .int .i64 (h : Nat)], v] w fun e w' => ∃ p' h' S', e = .returned (.agg #[.pointer p', .int .i64 (h' : Nat)]) ∧ RSet (fun b => ok b ∨ w.heap.size ≤ b) w' p' h' S' ∧ (∀ x, x ∈ S' ↔ x ∈ S ∨ x ∈ O) ∧ w.grownBy w' ob ∧ h ≤ h' := by
  by_cases hne : O = []
  · obtain ⟨rfl, a, cap, rfl⟩ := ho.none hne
    subst hne
    refine (setWith_none p h a cap w).mono ?_
    rintro e w' ⟨rfl, hb⟩
    exact ⟨p, h, S, rfl, ⟨hR.le, (hR.node.keep hb).wide (fun b h => Or.inl h), hR.h32⟩, by simp, Below.grownAny hb _, Nat.le_refl _⟩
  · obtain ⟨b, cap, rfl, rfl, hc, hown⟩ := ho.some hne
    exact setWith_up ok p h S O b cap w hR hown (fun k hk e => hok k hk (by rw [e])) hne h0 h32 hl hc


set_option maxRecDepth 10000 in
theorem zzWith_up (ok : Nat → Prop) (p : Option Addr) (h : Nat) (S O : List Int) (v : Value) (ob : Option Nat) (w : World) (hR : RSet ok w p h S) (ho : OrdV w v O ob) (hok : ∀ b, ok b → some b ≠ ob) (h0 : ∀ x ∈ O, 0 ≤ x) (h32 : ∀ x ∈ O, x < 4294967296) (hl : O.length ≤ 1048576) :
    Calls Tryd.prog 26 #[.agg #[.pointer p, .int .i64 (h : Nat)], v] w fun e w' => ∃ p' h' S', e = .returned (.agg #[.pointer p', .int .i64 (h' : Nat)]) ∧ RSet (fun b => ok b ∨ w.heap.size ≤ b) w' p' h' S' ∧ (∀ x, x ∈ S' ↔ x ∈ S ∨ x ∈ O) ∧ w.grownBy w' ob ∧ h ≤ h' := by
  obtain ⟨a, cap, hv⟩ : ∃ a cap, v = .slice a O.length cap := by
    by_cases hne : O = []
    · obtain ⟨_, a, cap, hv⟩ := ho.none hne
      exact ⟨a, cap, by rw [hv, hne]; rfl⟩
    · obtain ⟨b, cap, _, hv, _⟩ := ho.some hne
      exact ⟨_, cap, hv⟩
  subst hv
  have tok : True := trivial
  go_enter Tryd.func26, Tryd.ntmps26
  go_wp2_with (first
    | (have _t := tok; refine wpList_box49 rfl (.tmp 0) p (h : Nat) rfl rfl ?_; intro w1 N1; have c0 := N1.cell 0 _ rfl; have c1 := N1.cell 1 _ rfl; clear tok _t)
    | (refine wpList_alloc49 rfl rfl ?_; intro w2 N2; have d0 := cell_below N2.below c0; have d1 := cell_below N2.below c1; have e0 := N2.cell 0 _ rfl; have e1 := N2.cell 1 _ rfl; have f0 := N2.warm 0; have f1 := N2.warm 1; clear c0 c1)
    | (go_at_call 39
       have B2 : Below w.heap.size w w2 := N1.below.trans (N2.below.mono N1.below.size)
       have hob : some w1.heap.size ≠ ob := ho.ne _ N1.below.size
       refine (setWith_allUp (fun b => ok b ∧ b < w.heap.size) p h S O _ ob w2 ⟨hR.le, (hR.node.lt).keep B2, hR.h32⟩ (ho.keep B2) (fun b hb => hok b hb.1) h0 h32 hl).mono ?_
       rintro _ w3 ⟨p', h', S', rfl, hR3, hm3, hgr3, hup3⟩
       have g0 := hgr3.cell e0 hob
       have g1 := hgr3.cell e1 hob
       have hbl := hgr3.block w1.heap.size (World.block_lt_of_cell? w2 _ e0) hob
       have i0 := (frozen_moved hbl 0).trans f0
       have i1 := (frozen_moved hbl 1).trans f1
       clear d0 d1 e0 e1 f0 f1))
  have hst : ∀ b, b ≠ w1.heap.size → ((w3.setCell ⟨w1.heap.size, 0, none⟩ (.pointer p')).setCell ⟨w1.heap.size, 1, none⟩ (.int .i64 (h' : Nat))).heap[b]? = w3.heap[b]? := fun b hne => by
    rw [Below.heap_setCell _ _ _ _ (by intro e; exact hne e), Below.heap_setCell _ _ _ _ (by intro e; exact hne e)]
  have hs2 : w2.heap.size = w1.heap.size + 1 := N2.size
  have hs1 : w.heap.size ≤ w1.heap.size := N1.below.size
  refine bodyPost_ret (v := .agg #[.pointer p', .int .i64 (h' : Nat)]) ?_ rfl ⟨p', h', S', rfl, ⟨hR3.le, hR3.node.go (fun b hb _ => hst b (by rcases hb with hb | hb <;> omega)) (fun b hb _ => hb.elim (fun h => Or.inl h.1) (fun h => Or.inr (by omega))), hR3.h32⟩, hm3, ⟨?_, ?_, ?_, ?_, fun k hk hne => ?_⟩, hup3⟩
  · rw [results_cell1 Tryd.results26]
    simp [asAddr, load49 (two0 (b := .pointer none) g0) (two1 g1)]
  · show w3.os = _; rw [hgr3.os, B2.os]
  · show w3.tape = _; rw [hgr3.tape, B2.tape]
  · show w3.output = _; rw [hgr3.output, B2.output]
  · have := hgr3.size
    simp; omega
  · rw [hst k (by omega), hgr3.block k (by omega) hne, B2.block k hk]
end Go.Proofs.Qxb6609120aDoor
