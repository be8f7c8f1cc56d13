/-
  ZZmembers: a set's ordinals, in order, in a new slice.
-/
import Derived.Test.Qxb6609120aDoorEach2
namespace Go.Proofs.Qxb6609120aDoor
open Go.RowKit
open Plain (Srt Asc asc_ext)
set_option linter.unusedVariables false

theorem enter55 (args : Array Value) (w : World) : (callFunc 55 args).run Tryd.prog w = .ok (.enter 55 args) w := by
  simp [go_sem]
/-- What has been gathered: the variable vb's slice holds l. -/
structure Got (B vb : Nat) (w2 : World) (l : List Int) (w' : World) : Prop where
  lt : vb < B
  le : w2.heap.size = B
  warm : w'.frozen? ⟨vb, 0, none⟩ = false
  grow : w2.grownBy w' (some vb)
  row : ∃ v, w'.cell? ⟨vb, 0, none⟩ = some v ∧ w'.ownsRow B 2 1 v l.length (l.map (Value.int .i64))
theorem Got.start {w1 w2 : World} (N : NewC w1 w2 [.slice none 0 0]) : Got w2.heap.size w1.heap.size w2 [] w2 :=
  ⟨by have := N.size; omega, rfl, N.warm 0, World.grownBy.refl _ _, _, N.cell 0 _ rfl, rfl, Or.inl ⟨rfl, rfl⟩⟩
theorem Got.drew {B vb : Nat} {w2 w' : World} {l : List Int} (H : Got B vb w2 l w') (n : Nat) : Got B vb w2 l (w'.drewN n) := by
  obtain ⟨v, h1, h2⟩ := H.row
  exact ⟨H.lt, H.le, H.warm, ⟨H.grow.os, H.grow.tape, H.grow.output, H.grow.size, H.grow.block⟩, v, h1, h2⟩
theorem ownBlock_ge {w : World} {B n : Nat} {v : Value} {xs : List Value} (h : w.ownsRow B 2 1 v n xs) : ∀ k, v.ownBlock = some k → B ≤ k := fun k hk => by
  rcases h.2 with ⟨rfl, _⟩ | ⟨g, cap, cur, rfl, hb, _⟩
  · cases hk
  · have : g = k := Option.some.inj hk
    omega

theorem owns_slice {w : World} {B n : Nat} {v : Value} {xs : List Value} (h : w.ownsRow B 2 1 v n xs) : ∃ a m c, v = .slice a m c := by
  rcases h.2 with ⟨rfl, _⟩ | ⟨g, cap, cur, rfl, _⟩
  · exact ⟨_, _, _, rfl⟩
  · exact ⟨_, _, _, rfl⟩
set_option maxRecDepth 10000 in
theorem gather_any (B vb : Nat) (w2 w' : World) (l : List Int) (x : Int) (H : Got B vb w2 l w') (hl : l.length < 1099511627776) :
    Calls Tryd.prog 55 #[.int .i64 x, .pointer (some ⟨vb, 0, none⟩)] w' fun e w'' => e = .returned (.bool true) ∧ Got B vb w2 (l ++ [x]) w'' := by
  obtain ⟨v, hc, hown⟩ := H.row
  obtain ⟨i0, hi, hz0, hz1, hz2⟩ := info_parts info2
  have hBw : B ≤ w'.heap.size := by have := H.grow.size; have := H.le; omega
  have hlt := H.lt
  have hf := H.warm
  have HG : Hid (w2.grownBy w' (some vb)) := H.grow
  have HLE : Hid (w2.heap.size = B) := H.le
  have HOB := ownBlock_ge hown
  have HOB' : Hid (∀ k, v.ownBlock = some k → B ≤ k) := HOB
  clear HOB H
  go_enter Tryd.func55, Tryd.ntmps55
  go_wp2_with (at_builtin
               refine wpList_append_own _ rfl (.tmp 4) (.tmp 6) 35 rfl B 2 i0 (.int .i64 0) 1 8 Tryd.underlying35 hi hz0 hz1 hz2 rfl (by decide) v l.length (l.map (Value.int .i64)) rfl (hown.alloc _) ⟨w'.heap.size, 0, none⟩ 1 1 [.int .i64 x] rfl rfl (one_new w' _ 2) (one_cell1 rfl) (by unfold maxLen; omega) (by omega) (by simp; omega) ?_
               intro v' w5 hown5 hg5 hnn
               obtain ⟨a', n', c', rfl⟩ := owns_slice hown5
               have hvb : some vb ≠ v.ownBlock := by intro e; have := HOB'.out vb e.symm; omega
               have hc5 : w5.cell? ⟨vb, 0, none⟩ = some v := hg5.cell (show (w'.alloc (.cells #[.int .i64 x] 2)).cell? ⟨vb, 0, none⟩ = some v from by rw [World.cell?_alloc_lt _ _ _ (show vb < w'.heap.size by omega)]; exact hc) hvb
               have hblk : w5.heap[vb]? = w'.heap[vb]? := (hg5.block vb (show vb < (w'.alloc (.cells #[.int .i64 x] 2)).heap.size by simp; omega) hvb).trans (((Below.refl w'.heap.size w').alloc (Nat.le_refl _) _).block vb (by omega))
               have hf5 : w5.frozen? ⟨vb, 0, none⟩ = false := (frozen_moved hblk 0).trans hf
               clear hnn)
  go_ret
  have hbk : ∀ k, k ≠ vb → (w5.setCell ⟨vb, 0, none⟩ (.slice a' n' c')).heap[k]? = w5.heap[k]? := fun k hne => by
    rw [Below.heap_setCell _ _ _ _ (by intro e; exact hne e)]
  refine ⟨rfl, hlt, HLE.out, by rw [World.frozen?_setCell]; exact hf5, ⟨?_, ?_, ?_, ?_, fun k hk hne => ?_⟩, .slice a' n' c', World.cell?_setCell_same _ _ _ hc5, ?_⟩
  · show w5.os = _; rw [hg5.os]; exact HG.out.os
  · show w5.tape = _; rw [hg5.tape]; exact HG.out.tape
  · show w5.output = _; rw [hg5.output]; exact HG.out.output
  · have h1 := hg5.size
    have h2 := HG.out.size
    simp at h1 ⊢; omega
  · have hkv : k ≠ vb := fun e => hne (by rw [e])
    have h2 := HG.out.size
    have hle := HLE.out
    rw [hbk k hkv, hg5.block k (by simp; omega) (by intro e; have := HOB'.out k e.symm; omega), ((Below.refl w'.heap.size w').alloc (Nat.le_refl _) _).block k (by omega)]
    exact HG.out.block k hk hne
  · rw [List.length_append, List.map_append]
    refine ⟨hown5.1, ?_⟩
    rcases hown5.2 with h | ⟨g, cap, cur, hv, hb, hg, rest⟩
    · exact Or.inl h
    · exact Or.inr ⟨g, cap, cur, hv, hb, by rw [hbk g (by omega)]; exact hg, rest⟩

theorem run_alloc35 (w : World) : (Instr.alloc 35 true (.tuple #[])).run Tryd.prog w = .ok (.pointer (some ⟨w.heap.size, 0, none⟩)) (w.alloc (.cells #[.slice none 0 0] 35)) := by
  simp [Instr.alloc, go_sem]
theorem wpList_alloc35 {ops : Array Oper} {rest : List Oper} {o : Oper} {a : Act} {w : World} {Q : Exit → Act → World → Prop} (hgd : o.guard = none) (ho : o.op = Op.alloc 35)
    (h : ∀ w', NewC w w' [.slice none 0 0] → wpList Tryd.prog ops Q rest (a.put o.dst (.pointer (some ⟨w.heap.size, 0, none⟩))) w') : wpList Tryd.prog ops Q (o :: rest) a w := by
  refine wpList_plain hgd fun K hK => ?_
  unfold Oper.wp
  simp [execOp, ho, run_alloc35, Result.andThen]
  exact hK _ _ (h _ (newC w [.slice none 0 0] 35))

theorem Tab.keep {w w' : World} (h : Tab w) (hb : Below w.heap.size w w') : Tab w' := fun j hj => cell_below hb (h j hj)
theorem Tab.lt {w : World} (h : Tab w) : Tryd.lays29_ren.g 1 < w.heap.size := World.block_lt_of_cell? w _ (h 0 (by decide))
theorem Tab.grown {w w' : World} {g : Nat} (h : Tab w) (hg : w.grownBy w' (some g)) (hne : Tryd.lays29_ren.g 1 ≠ g) : Tab w' := fun j hj => hg.cell (h j hj) (by intro e; exact hne (Option.some.inj e))

set_option maxRecDepth 10000 in
theorem members_any (ok : Nat → Prop) (p : Option Addr) (h : Nat) (S : List Int) (w : World) (hR : RSet ok w p h S) (hT : Tab w) :
    Calls Tryd.prog 42 #[.agg #[.pointer p, .int .i64 (h : Nat)]] w fun e w' => ∃ v', e = .returned v' ∧ New w w' v' S := by
  have tok : True := trivial
  go_enter Tryd.func42, Tryd.ntmps42
  go_wp2_with (first
    | (have _t := tok; refine wpList_box49 rfl (.tmp 0) p (h : Nat) rfl rfl ?_; intro w1 N1; clear tok _t)
    | (refine wpList_alloc35 rfl rfl ?_; intro w2 N2; have c0 := cell_below N2.below (N1.cell 0 _ rfl); have c1 := cell_below N2.below (N1.cell 1 _ rfl))
    | (go_at_call 54
       have b2 : Below w.heap.size w w2 := N1.below.trans (N2.below.mono N1.below.size)
       have HE := each_any 55 (.pointer (some ⟨w1.heap.size, 0, none⟩)) (fun b => b < w.heap.size) w2 (Got w2.heap.size w1.heap.size w2) ⟨enter55, fun l w' H b hb hlt => H.grow.block b hlt (by intro e; have h9 : b = w1.heap.size := Option.some.inj e; have := N1.below.size; omega), fun l w' H => (hT.keep b2).grown H.grow (by have := hT.lt; have := N1.below.size; omega), fun l w' n H => H.drew n, fun l x w' H hl _ _ => gather_any _ _ _ _ l x H hl⟩ h hR.le 0 p S [] w2 (hR.node.go (fun b _ hlt => b2.block b hlt) (fun b _ hlt => hlt)) rfl (spn_le4 h hR.le) hR.h32 (by have := asc_len hR.node.ran.asc (fun x hx => hR.node.ran.lo x hx) hR.h32 (by decide); simp; omega) (Got.start N2)
       refine HE.mono ?_
       rintro _ w3 ⟨rfl, H3⟩
       obtain ⟨v, hv, hown⟩ := H3.row
       have HG : Hid (Got w2.heap.size w1.heap.size w2 ([] ++ S) w3) := H3
       clear HE H3 c0 c1))
  go_ret
  have hb3 : Below w.heap.size w w3 := b2.grown HG.out.grow b2.size (by intro k hk; cases hk; exact N1.below.size)
  rw [List.nil_append] at hown
  refine ⟨v, rfl, ?_⟩
  have hge : w.heap.size ≤ w2.heap.size := b2.size
  rcases hown.2 with ⟨rfl, h0⟩ | ⟨g, cap, cur, rfl, hrest⟩
  · have hS0 : S = [] := List.length_eq_zero_iff.1 h0
    subst hS0
    exact ⟨hb3, ⟨none, 0, rfl, Nat.le_refl _, fun _ => rfl, fun h => absurd rfl h⟩, fun h => absurd rfl h⟩
  · obtain ⟨q1, q2, q3, q4⟩ := own_of_row hown
    exact New.of_own hb3 (Nat.le_trans hge q2) q3 q4
end Go.Proofs.Qxb6609120aDoor
