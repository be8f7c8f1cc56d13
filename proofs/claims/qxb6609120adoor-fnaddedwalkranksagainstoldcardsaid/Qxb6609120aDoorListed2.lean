/-
  rowNode.listed, whole.
-/
import Derived.Test.Qxb6609120aDoorListed
namespace Go.Proofs.Qxb6609120aDoor
open Go.RowKit
open Plain (Srt Asc asc_ext)
set_option linter.unusedVariables false

theorem hid_of {P : Prop} (h : P) : Hid P := h
theorem run_box108 (w : World) (p : Option Addr) : (Instr.box 108 (.pointer p)).run Tryd.prog w = .ok (.pointer (some ⟨w.heap.size, 0, none⟩)) (w.alloc (.cells #[.pointer p] 108)) := by
  simp [Instr.box, go_sem]
theorem wpList_box108 {ops : Array Oper} {rest : List Oper} {o : Oper} {a : Act} {w : World} {Q : Exit → Act → World → Prop} (hgd : o.guard = none) (x : Operand) (p : Option Addr) (ho : o.op = Op.box 108 x) (hx : a.eval x = .pointer p)
    (h : ∀ w', NewC w w' [.pointer p] → wpList Tryd.prog ops Q rest (a.put o.dst (.pointer (some ⟨w.heap.size, 0, none⟩))) w') : wpList Tryd.prog ops Q (o :: rest) a w := by
  refine wpList_plain hgd fun K hK => ?_
  unfold Oper.wp
  simp [execOp, ho, hx, run_box108, Result.andThen]
  exact hK _ _ (h _ (newC w [.pointer p] 108))

/-- Where a listed slice lies: in a node's list, or in the room f. -/
def Src (ok : Nat → Prop) (w : World) (v : Nat → Value) (l : Nat → List Int) (f : Nat) (sv : Value) (S : List Int) : Prop :=
  (∃ b lb lo cap, ListN w S b lb lo cap ∧ ok b ∧ ok lb ∧ sv = .slice (some ⟨lb, lo, none⟩) S.length cap) ∨ (sv = v f ∧ l f = S)
theorem Src.fr {ok : Nat → Prop} {w w' : World} {v : Nat → Value} {l : Nat → List Int} {f : Nat} {sv : Value} {S : List Int} (H : Src ok w v l f sv S) (hf : Fr ok w w') : Src ok w' v l f sv S := by
  rcases H with ⟨b, lb, lo, cap, hL, o1, o2, hs⟩ | h
  · exact .inl ⟨b, lb, lo, cap, hL.move (hf.block b o1) (hf.block lb o2), o1, o2, hs⟩
  · exact .inr h
theorem owns_at {w : World} {B g n cap : Nat} {L : List Int} (h : w.ownsRow B 109 1 (.slice (some ⟨g, 0, none⟩) n cap) L.length (L.map (Value.int .u32))) : n = L.length ∧ L.length ≤ cap ∧ At .u32 w g 0 L := by
  have h2 := h.2
  rcases h2 with ⟨h0, _⟩ | ⟨g', cap', cur, hv, _⟩
  · cases h0
  · cases hv
    obtain ⟨q1, q2, q3, q4⟩ := own_of_row h
    exact ⟨rfl, q3, q4.at⟩
theorem Src.sl {wb gb B : Nat} {ok : Nat → Prop} {w : World} {Y : List Int} {b : Int} {v0 : Value} {v : Nat → Value} {l : Nat → List Int} {f : Nat} {sv : Value} {S : List Int} (H : Src ok w v l f sv S) (hf : f = 2 ∨ f = 3) (hW : WkV wb gb B ok w Y b v0 v l) : ∃ a cap, sv = .slice a S.length cap ∧ S.length ≤ cap ∧ (S ≠ [] → ∃ lb lo, a = some ⟨lb, lo, none⟩ ∧ At .u32 w lb lo S) := by
  rcases H with ⟨b, lb, lo, cap, hL, o1, o2, rfl⟩ | ⟨rfl, rfl⟩
  · exact ⟨_, cap, rfl, hL.cap, fun _ => ⟨lb, lo, rfl, hL.row⟩⟩
  · have ho := hW.o f hf
    rcases ho.2 with ⟨hv, hn⟩ | ⟨g, cap, cur, hv, _⟩
    · rw [hv]
      exact ⟨none, 0, by rw [hn], by omega, fun h => absurd (List.length_eq_zero_iff.1 hn) h⟩
    · rw [hv] at ho ⊢
      obtain ⟨_, q2, q3⟩ := owns_at ho
      exact ⟨_, cap, rfl, q2, fun _ => ⟨g, 0, rfl, q3⟩⟩

/-- What listed leaves. -/
structure Lstd (wb gb B : Nat) (ok : Nat → Prop) (w w' : World) (Y : List Int) (b : Int) (v0 : Value) (v : Nat → Value) (l : Nat → List Int) (f : Nat) (S : List Int) (sv : Value) : Prop where
  out : ∃ v' l', WkV wb gb B ok w' Y b v0 v' l' ∧ (∀ j, j ≠ f → v' j = v j ∧ l' j = l j) ∧ Src ok w' v' l' f sv S
  fr : Fr ok w w'

set_option maxRecDepth 10000 in
theorem listed_list (wb gb B : Nat) (ok : Nat → Prop) (w : World) (Y : List Int) (b : Int) (v0 : Value) (v : Nat → Value) (l : Nat → List Int) (f : Nat) (hf : f = 2 ∨ f = 3) (H : WkV wb gb B ok w Y b v0 v l) (h y : Int) (S : List Int) (nb lb lo cap : Nat) (hL : ListN w S nb lb lo cap) (o1 : ok nb) (o2 : ok lb) :
    Calls Tryd.prog 65 #[.pointer (some ⟨nb, 0, none⟩), .int .i64 h, .int .i64 y, .pointer (some ⟨wb, f, none⟩)] w fun e w' => ∃ sv, e = .returned sv ∧ Lstd wb gb B ok w w' Y b v0 v l f S sv := by
  have HW : Hid (WkV wb gb B ok w Y b v0 v l) := H
  have HL : Hid (ListN w S nb lb lo cap) := hL
  have hq := neq_slice w 69 109 (some ⟨lb, lo, none⟩) S.length cap Tryd.underlying69
  clear H hL
  go_enter Tryd.func65, Tryd.ntmps65
  go_wp2_with (refine wpList_box108 rfl (.tmp 3) (some ⟨wb, f, none⟩) rfl rfl ?_; intro w1 N1; have c2 := cell_below N1.below HL.out.cells.list; have hq := neq_slice w1 69 109 (some ⟨lb, lo, none⟩) S.length cap Tryd.underlying69)
  go_ret
  exact ⟨_, rfl, ⟨v, l, HW.out.keep N1.below, fun _ _ => ⟨rfl, rfl⟩, .inl ⟨nb, lb, lo, cap, HL.out.keep N1.below, o1, o2, rfl⟩⟩, Fr.of_below N1.below HW.out.lt⟩

/-- The room, filled so far. -/
def Fill (wb gb B : Nat) (ok : Nat → Prop) (w3 : World) (Y : List Int) (b : Int) (v0 : Value) (v : Nat → Value) (l : Nat → List Int) (f : Nat) (L : List Int) (w' : World) : Prop :=
  (∃ v' l', WkV wb gb B ok w' Y b v0 v' l' ∧ l' f = L ∧ ∀ j, j ≠ f → v' j = v j ∧ l' j = l j) ∧ Fr ok w3 w'
theorem fill_rel (wb gb B : Nat) (ok : Nat → Prop) (w3 : World) (Y : List Int) (b : Int) (v0 : Value) (v : Nat → Value) (l : Nat → List Int) (f bx : Nat) (hf : f = 2 ∨ f = 3) (hbx : ok bx) (hcx : w3.cell? ⟨bx, 0, none⟩ = some (.pointer (some ⟨wb, f, none⟩))) :
    Rel 83 (.pointer (some ⟨bx, 0, none⟩)) ok w3 (Fill wb gb B ok w3 Y b v0 v l f) where
  enter := enter83
  keep := fun L w' H k hk _ => H.2.block k hk
  tab := fun L w' H => by
    obtain ⟨⟨v', l', hW, _⟩, _⟩ := H
    exact hW.tab
  drew := fun L w' n H => by
    obtain ⟨⟨v', l', hW, h1, h2⟩, hfr⟩ := H
    exact ⟨⟨v', l', hW.keep (below_drewN w' n), h1, h2⟩, hfr.trans (Fr.of_below (below_drewN w' n) hW.lt)⟩
  step := fun L x w' H hl hx0 hx1 => by
    obtain ⟨⟨v', l', hW, h1, h2⟩, hfr⟩ := H
    subst h1
    refine (room_any wb gb B ok w' Y b x v0 v' l' f bx hf hW hbx (by rw [cell_moved (hfr.block bx hbx)]; exact hcx) hl hx0 hx1).mono ?_
    rintro e w'' ⟨rfl, ⟨u, hU⟩, hfr2⟩
    exact ⟨rfl, ⟨_, _, hU, up_same _ _ _, fun j hj => ⟨by rw [up_other _ _ hj]; exact (h2 j hj).1, by rw [up_other _ _ hj]; exact (h2 j hj).2⟩⟩, hfr.trans hfr2⟩

theorem slice_form {w : World} {B n : Nat} {e : TypeId} {v : Value} {xs : List Value} (h : w.ownsRow B e 1 v n xs) : ∃ a m c, v = .slice a m c := by
  rcases h.2 with ⟨h1, _⟩ | ⟨g, cap, cur, h1, _⟩
  · exact ⟨_, _, _, h1⟩
  · exact ⟨_, _, _, h1⟩

/-- The room, emptied. -/
theorem room_empty {wb gb B : Nat} {ok : Nat → Prop} {w w1 : World} {Y : List Int} {b : Int} {v0 : Value} {v : Nat → Value} {l : Nat → List Int} {f : Nat} (hf : f = 2 ∨ f = 3) (H : WkV wb gb B ok w Y b v0 v l) (N1 : NewC w w1 [.pointer (some ⟨wb, f, none⟩)]) {a : Option Addr} {m c : Nat} (hv : v f = .slice a m c) :
    Fill wb gb B (fun k => ok k ∨ k = w.heap.size) (w1.setCell ⟨wb, f, none⟩ (.slice a 0 c)).drew Y b v0 v l f [] (w1.setCell ⟨wb, f, none⟩ (.slice a 0 c)).drew ∧ (w1.setCell ⟨wb, f, none⟩ (.slice a 0 c)).drew.cell? ⟨w.heap.size, 0, none⟩ = some (.pointer (some ⟨wb, f, none⟩)) ∧ Fr ok w (w1.setCell ⟨wb, f, none⟩ (.slice a 0 c)).drew := by
  have H1 : WkV wb gb B (fun k => ok k ∨ k = w.heap.size) w1 Y b v0 v l := H.grow N1.below (fun k hk => hk.elim .inl (fun h => .inr ⟨by omega, by have := N1.size; omega⟩)) (.inl H.okT)
  have ho := H1.o f hf
  rw [hv] at ho
  obtain ⟨h1, h2⟩ := H1.putF (L' := []) hf (Below.refl _ _) (World.grownBy.refl _ _) (v' := .slice a 0 c) (owns_emptied ho) (fun k hk => by
    left
    rw [hv]
    cases a with
    | none => cases hk
    | some q => exact hk)
  have hd := (Below.refl (w1.setCell ⟨wb, f, none⟩ (.slice a 0 c)).heap.size (w1.setCell ⟨wb, f, none⟩ (.slice a 0 c))).drew
  refine ⟨⟨⟨_, _, h1.keep hd, up_same _ _ _, fun j hj => ⟨up_other _ _ hj, up_other _ _ hj⟩⟩, Fr.refl _ _⟩, ?_, ((Fr.of_below N1.below H.lt).trans (h2.narrow (fun k hk => .inl hk))).trans (Fr.of_below hd (fun k hk => h1.lt k (.inl hk)))⟩
  have hne : w.heap.size ≠ wb := by have := H.ltw; omega
  show (w1.setCell ⟨wb, f, none⟩ (.slice a 0 c)).cell? ⟨w.heap.size, 0, none⟩ = _
  rw [World.cell?_setCell_other _ _ _ _ (by intro e; injection e with e1; exact hne e1.symm)]
  exact N1.cell 0 _ rfl

set_option maxRecDepth 10000 in
theorem listed_each (wb gb B : Nat) (ok : Nat → Prop) (w : World) (Y : List Int) (b : Int) (v0 : Value) (v : Nat → Value) (l : Nat → List Int) (f : Nat) (hf : f = 2 ∨ f = 3) (H : WkV wb gb B ok w Y b v0 v l) (h base : Nat) (hh : h ≤ 4) (S : List Int) (p : Option Addr) (hn : Node ok h w base p S) (hnl : p = none ∨ ∃ nb k ws, p = some ⟨nb, 0, none⟩ ∧ NCell w nb k ws (.slice none 0 0)) (hb : base % 4096 = 0) (hbig : base + spn h ≤ 1099511627776) (h32 : ∀ x ∈ S, x < 4294967296) :
    Calls Tryd.prog 65 #[.pointer p, .int .i64 (h : Nat), .int .i64 (base : Nat), .pointer (some ⟨wb, f, none⟩)] w fun e w' => ∃ sv, e = .returned sv ∧ Lstd wb gb B ok w w' Y b v0 v l f S sv := by
  obtain ⟨a, m, c, hvf⟩ := slice_form (H.o f hf)
  have hown := H.o f hf
  have hcf := H.r f hf
  have hfw := H.fw f
  rw [hvf] at hcf
  have HW : Hid (WkV wb gb B ok w Y b v0 v l) := H
  have HN : Hid (Node ok h w base p S) := hn
  have HV : Hid (v f = .slice a m c) := hvf
  have hltw := H.ltw
  have hnew : wb ≠ w.heap.size := by omega
  have hlen : S.length ≤ 1099511627776 := by
    have := asc_len hn.ran.asc (fun x hx => hn.ran.lo x hx) (fun x hx => hn.ran.hi x hx) (by omega)
    omega
  clear H hn hvf hown
  rcases hnl with rfl | ⟨nb, k, ws, rfl, hN⟩
  all_goals
    go_enter Tryd.func65, Tryd.ntmps65
    go_wp2_with (first
      | (refine wpList_box108 rfl (.tmp 3) (some ⟨wb, f, none⟩) rfl rfl ?_
         intro w1 N1
         have cx := N1.cell 0 _ rfl
         have cf := cell_below N1.below hcf
         have ff := (frozen_moved (N1.below.block wb hltw) f).trans hfw
         first
           | (have c2 := cell_below N1.below hN.list; have hq := neq_slice w1 69 109 none 0 0 Tryd.underlying69)
           | skip))
    go_region
    obtain ⟨F3, cx3, fr3⟩ := room_empty hf HW.out N1 HV.out
    generalize (w1.setCell ⟨wb, f, none⟩ (.slice a 0 c)).drew = w3 at F3 cx3 fr3 ⊢
    have hE := each_any 83 (.pointer (some ⟨w.heap.size, 0, none⟩)) (fun k => ok k ∨ k = w.heap.size) w3 _ (fill_rel wb gb B (fun k => ok k ∨ k = w.heap.size) w3 Y b v0 v l f w.heap.size hf (.inr rfl) cx3) h hh base _ S [] w3 ((HN.out.fr fr3).wide (fun k hk => .inl hk)) hb hbig h32 (by simpa using hlen) F3
    have HE := hid_of hE
    clear hE F3 cx cf ff hcf hfw hbig h32
    go_wp2_with (first
      | (go_at_call 54
         refine HE.out.mono ?_
         rintro _ w4 ⟨rfl, ⟨v4, l4, hW4, hl4, hv4⟩, fr4⟩
         have cx4 : w4.cell? ⟨w.heap.size, 0, none⟩ = some (.pointer (some ⟨wb, f, none⟩)) := by rw [cell_moved (fr4.block _ (.inr rfl))]; exact cx3
         have cf4 := hW4.r f hf
         have HW4 : Hid (WkV wb gb B (fun k => ok k ∨ k = w.heap.size) w4 Y b v0 v4 l4) := hW4
         clear hW4 HE))
    go_ret
    rw [List.nil_append] at hl4
    exact ⟨_, rfl, ⟨v4, l4, HW4.out.narrow (fun k hk => .inl hk) HW.out.okT, hv4, .inr ⟨rfl, hl4⟩⟩, fr3.trans (fr4.narrow (fun k hk => .inl hk))⟩
/-- n.listed(height, base, room), whatever the node. -/
theorem listed_any (wb gb B : Nat) (ok : Nat → Prop) (w : World) (Y : List Int) (b : Int) (v0 : Value) (v : Nat → Value) (l : Nat → List Int) (f : Nat) (hf : f = 2 ∨ f = 3) (H : WkV wb gb B ok w Y b v0 v l) (h base : Nat) (hh : h ≤ 4) (S : List Int) (p : Option Addr) (hn : Node ok h w base p S) (hb : base % 4096 = 0) (hbig : base + spn h ≤ 1099511627776) (h32 : ∀ x ∈ S, x < 4294967296) :
    Calls Tryd.prog 65 #[.pointer p, .int .i64 (h : Nat), .int .i64 (base : Nat), .pointer (some ⟨wb, f, none⟩)] w fun e w' => ∃ sv, e = .returned sv ∧ Lstd wb gb B ok w w' Y b v0 v l f S sv := by
  cases h with
  | zero =>
    rcases hn.2 with ⟨rfl, rfl⟩ | ⟨nb, lb, lo, lc, rfl, hl, o1, o2⟩ | ⟨nb, wb', W, rfl, hw, o1, o2⟩
    · exact listed_each wb gb B ok w Y b v0 v l f hf H 0 base hh _ _ hn (.inl rfl) hb hbig h32
    · exact listed_list wb gb B ok w Y b v0 v l f hf H _ _ S nb lb lo lc hl o1 o2
    · exact listed_each wb gb B ok w Y b v0 v l f hf H 0 base hh _ _ hn (.inr ⟨nb, _, _, rfl, hw.cells⟩) hb hbig h32
  | succ h =>
    rcases hn.2 with ⟨rfl, rfl⟩ | ⟨nb, lb, lo, lc, rfl, hl, o1, o2⟩ | ⟨nb, kb, K, L, rfl, hc, hk, hN, hL, o1, o2⟩
    · exact listed_each wb gb B ok w Y b v0 v l f hf H (h + 1) base hh _ _ hn (.inl rfl) hb hbig h32
    · exact listed_list wb gb B ok w Y b v0 v l f hf H _ _ S nb lb lo lc hl o1 o2
    · exact listed_each wb gb B ok w Y b v0 v l f hf H (h + 1) base hh _ _ hn (.inr ⟨nb, _, _, rfl, hc⟩) hb hbig h32
end Go.Proofs.Qxb6609120aDoor
