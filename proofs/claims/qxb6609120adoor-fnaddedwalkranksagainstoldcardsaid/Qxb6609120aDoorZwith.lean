/-
  ZZwith: the set's own with, handed on.
-/
import Derived.Test.Qxb6609120aDoorRound
namespace Go.Proofs.Qxb6609120aDoor
open Go.RowKit
open Plain (Srt Asc asc_ext)
set_option linter.unusedVariables false

set_option maxRecDepth 10000 in
theorem zzWith_any (ok : Nat → Prop) (p : Option Addr) (h : Nat) (S O : List Int) (v : Value) (ob : Option Nat) (w : World) (hR : RSet ok w p h S) (ho : OrdV w v O ob) (hok : ∀ b, ok b → some b ≠ ob) (h0 : ∀ x ∈ O, 0 ≤ x) (h32 : ∀ x ∈ O, x < 4294967296) (hl : O.length ≤ 1048576) :
    Calls Tryd.prog 26 #[.agg #[.pointer p, .int .i64 (h : Nat)], v] w fun e w' => ∃ p' h' S', e = .returned (.agg #[.pointer p', .int .i64 (h' : Nat)]) ∧ RSet (fun b => ok b ∨ w.heap.size ≤ b) w' p' h' S' ∧ (∀ x, x ∈ S' ↔ x ∈ S ∨ x ∈ O) ∧ w.grownBy w' ob := by
  obtain ⟨a, cap, hv⟩ : ∃ a cap, v = .slice a O.length cap := by
    by_cases hne : O = []
    · obtain ⟨_, a, cap, hv⟩ := ho.none hne
      exact ⟨a, cap, by rw [hv, hne]; rfl⟩
    · obtain ⟨b, cap, _, hv, _⟩ := ho.some hne
      exact ⟨_, cap, hv⟩
  subst hv
  have tok : True := trivial
  go_enter Tryd.func26, Tryd.ntmps26
  go_wp2_with (first
    | (have _t := tok; refine wpList_box49 rfl (.tmp 0) p (h : Nat) rfl rfl ?_; intro w1 N1; have c0 := N1.cell 0 _ rfl; have c1 := N1.cell 1 _ rfl; clear tok _t)
    | (refine wpList_alloc49 rfl rfl ?_; intro w2 N2; have d0 := cell_below N2.below c0; have d1 := cell_below N2.below c1; have e0 := N2.cell 0 _ rfl; have e1 := N2.cell 1 _ rfl; have f0 := N2.warm 0; have f1 := N2.warm 1; clear c0 c1)
    | (go_at_call 39
       have B2 : Below w.heap.size w w2 := N1.below.trans (N2.below.mono N1.below.size)
       have hob : some w1.heap.size ≠ ob := ho.ne _ N1.below.size
       refine (setWith_all (fun b => ok b ∧ b < w.heap.size) p h S O _ ob w2 ⟨hR.le, (hR.node.lt).keep B2, hR.h32⟩ (ho.keep B2) (fun b hb => hok b hb.1) h0 h32 hl).mono ?_
       rintro _ w3 ⟨p', h', S', rfl, hR3, hm3, hgr3⟩
       have g0 := hgr3.cell e0 hob
       have g1 := hgr3.cell e1 hob
       have hbl := hgr3.block w1.heap.size (World.block_lt_of_cell? w2 _ e0) hob
       have i0 := (frozen_moved hbl 0).trans f0
       have i1 := (frozen_moved hbl 1).trans f1
       clear d0 d1 e0 e1 f0 f1))
  have hst : ∀ b, b ≠ w1.heap.size → ((w3.setCell ⟨w1.heap.size, 0, none⟩ (.pointer p')).setCell ⟨w1.heap.size, 1, none⟩ (.int .i64 (h' : Nat))).heap[b]? = w3.heap[b]? := fun b hne => by
    rw [Below.heap_setCell _ _ _ _ (by intro e; exact hne e), Below.heap_setCell _ _ _ _ (by intro e; exact hne e)]
  have hs2 : w2.heap.size = w1.heap.size + 1 := N2.size
  have hs1 : w.heap.size ≤ w1.heap.size := N1.below.size
  refine bodyPost_ret (v := .agg #[.pointer p', .int .i64 (h' : Nat)]) ?_ rfl ⟨p', h', S', rfl, ⟨hR3.le, hR3.node.go (fun b hb _ => hst b (by rcases hb with hb | hb <;> omega)) (fun b hb _ => hb.elim (fun h => Or.inl h.1) (fun h => Or.inr (by omega))), hR3.h32⟩, hm3, ⟨?_, ?_, ?_, ?_, fun k hk hne => ?_⟩⟩
  · rw [results_cell1 Tryd.results26]
    simp [asAddr, load49 (two0 (b := .pointer none) g0) (two1 g1)]
  · show w3.os = _; rw [hgr3.os, B2.os]
  · show w3.tape = _; rw [hgr3.tape, B2.tape]
  · show w3.output = _; rw [hgr3.output, B2.output]
  · have := hgr3.size
    simp; omega
  · rw [hst k (by omega), hgr3.block k (by omega) hne, B2.block k hk]
end Go.Proofs.Qxb6609120aDoor
