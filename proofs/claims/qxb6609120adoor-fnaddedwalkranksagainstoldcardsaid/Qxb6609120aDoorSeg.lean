/-
  Segments: ZZnewSegment, withDead.
-/
import Derived.Test.Qxb6609120aDoorSet
namespace Go.Proofs.Qxb6609120aDoor
open Go.RowKit
open Plain (Srt Asc)
set_option linter.unusedVariables false

/-- A block's first cells, which may be written. -/
structure Blk (w : World) (c : Nat) (cs : List Value) : Prop where
  cell : ∀ i v, cs[i]? = some v → w.cell? ⟨c, i, none⟩ = some v
  warm : ∀ i, w.frozen? ⟨c, i, none⟩ = false
theorem Blk.set {w : World} {c : Nat} {cs : List Value} (H : Blk w c cs) (i : Nat) (v : Value) (hi : i < cs.length) : Blk (w.setCell ⟨c, i, none⟩ v) c (cs.set i v) where
  cell := fun j u hj => by
    by_cases e : i = j
    · subst e
      rw [List.getElem?_set_self hi] at hj
      rw [World.cell?_setCell_same _ _ _ (H.cell i cs[i] (List.getElem?_eq_getElem hi)), hj]
    · rw [List.getElem?_set_ne e] at hj
      rw [World.cell?_setCell_other _ _ _ _ (by simp <;> omega)]
      exact H.cell j u hj
  warm := fun j => by rw [World.frozen?_setCell]; exact H.warm j
theorem Blk.lt {w : World} {c : Nat} {cs : List Value} (H : Blk w c cs) (hne : 0 < cs.length) : c < w.heap.size := World.block_lt_of_cell? w _ (H.cell 0 cs[0] (List.getElem?_eq_getElem hne))
theorem Blk.keep {w w' : World} {c : Nat} {cs : List Value} (H : Blk w c cs) (hne : 0 < cs.length) (hb : Below w.heap.size w w') : Blk w' c cs :=
  ⟨fun i v h => cell_below hb (H.cell i v h), fun i => by rw [hb.frozen (p := ⟨c, i, none⟩) (H.lt hne)]; exact H.warm i⟩
theorem frozen_moved {w w' : World} {b : Nat} (h : w'.heap[b]? = w.heap[b]?) (i : Nat) : w'.frozen? ⟨b, i, none⟩ = w.frozen? ⟨b, i, none⟩ := by simp [World.frozen?, h]
theorem Blk.move {w w' : World} {c : Nat} {cs : List Value} (H : Blk w c cs) (e : w'.heap[c]? = w.heap[c]?) : Blk w' c cs :=
  ⟨fun i v h => by rw [cell_moved e]; exact H.cell i v h, fun i => by rw [frozen_moved e]; exact H.warm i⟩
theorem size_setCells (b : Nat) : ∀ (vs : List Value) (o : Nat) (w : World), (w.setCells b o vs).heap.size = w.heap.size
  | [], _, _ => rfl
  | v :: vs, o, w => by
    show ((w.setCell ⟨b, o, none⟩ v).setCells b (o + 1) vs).heap.size = _
    rw [size_setCells b vs (o + 1) _]; simp
theorem Blk.range {w : World} {c : Nat} {cs : List Value} (H : Blk w c cs) : w.rangeAt c 0 cs := fun j v h => by rw [Nat.zero_add]; exact H.cell j v h
theorem Blk.setAll {w : World} {c : Nat} {cs ds : List Value} (H : Blk w c cs) (hl : ds.length = cs.length) : Blk (w.setCells c 0 ds) c ds where
  cell := fun i v h => by
    have := World.rangeAt_setCells_same w c 0 ds (fun j hj => by
      rw [Nat.zero_add]
      exact ⟨by rw [H.cell j cs[j] (List.getElem?_eq_getElem (by omega))]; rfl, H.warm j⟩) i v h
    rwa [Nat.zero_add] at this
  warm := fun i => by rw [World.frozen?_setCells]; exact H.warm i

/-- A segment's cells. -/
def segc (rows : Int) (p : Option Addr) (h : Nat) (dr db ds : Int) (jm : Bool) : List Value :=
  [.int .u64 0, .slice none 0 0, .int .i64 rows, .int .i64 0, .pointer p, .int .i64 (h : Nat), .int .i64 dr, .int .i64 db, .int .i64 ds, .string ⟨#[]⟩, .string ⟨#[]⟩, .bool false, .string ⟨#[]⟩, .string ⟨#[]⟩, .bool jm]
theorem segc_length (rows : Int) (p : Option Addr) (h : Nat) (dr db ds : Int) (jm : Bool) : (segc rows p h dr db ds jm).length = 15 := rfl
theorem size75 : (Tryd.prog.info? 75).map (·.size) = some 15 := by kernel_rfl

/-- The segment g: its rows, its dead S and their counts; all its blocks are ok. -/
structure Seg (ok : Nat → Prop) (w : World) (g : Nat) (rows : Int) (S : List Int) (dr db ds : Int) (jm : Bool) : Prop where
  okg : ok g
  parts : ∃ p h, Blk w g (segc rows p h dr db ds jm) ∧ RSet ok w p h S

set_option maxRecDepth 10000 in
theorem newSeg_any (ok : Nat → Prop) (rows : Int) (p : Option Addr) (h : Nat) (S : List Int) (dr db ds : Int) (jm : Bool) (w : World) (hR : RSet ok w p h S) :
    Calls Tryd.prog 25 #[.int .i64 rows, .agg #[.pointer p, .int .i64 (h : Nat)], .int .i64 dr, .int .i64 db, .int .i64 ds, .bool jm] w fun e w' => ∃ g, e = .returned (.pointer (some ⟨g, 0, none⟩)) ∧ Seg (fun b => ok b ∨ w.heap.size ≤ b) w' g rows S dr db ds jm ∧ Below w.heap.size w w' := by
  have tok : True := trivial
  go_enter Tryd.func25, Tryd.ntmps25
  go_wp2_with (first
    | (have _t := tok; refine wpList_box49 rfl (.tmp 1) p (h : Nat) rfl rfl ?_; intro w1 N1; have c0 := N1.cell 0 _ rfl; have c1 := N1.cell 1 _ rfl; clear tok _t))
  go_ret
  have hb : Below w.heap.size w (w1.alloc (.cells (segc rows p h dr db ds jm).toArray 75)) := N1.below.alloc N1.below.size _
  have N2 := newC w1 (segc rows p h dr db ds jm) 75
  exact ⟨_, rfl, ⟨Or.inr N1.below.size, p, h, ⟨N2.cell, N2.warm⟩, hR.le, (hR.node.keep hb).wide (fun b h => Or.inl h), hR.h32⟩, hb⟩

/-- Ordinals that the caller gives away: their slice's value, and the block that is sorted in place. -/
structure OrdV (w : World) (v : Value) (O : List Int) (ob : Option Nat) : Prop where
  none : O = [] → ob = Option.none ∧ ∃ a cap, v = .slice a 0 cap
  some : O ≠ [] → ∃ b cap, ob = Option.some b ∧ v = .slice (Option.some ⟨b, 0, Option.none⟩) O.length cap ∧ O.length ≤ cap ∧ Own .i64 2 w b O
theorem OrdV.keep {w w' : World} {v : Value} {O : List Int} {ob : Option Nat} (H : OrdV w v O ob) (hb : Below w.heap.size w w') : OrdV w' v O ob :=
  ⟨H.none, fun hne => by obtain ⟨b, cap, h0, h1, h2, h3⟩ := H.some hne; exact ⟨b, cap, h0, h1, h2, h3.keep hb⟩⟩
theorem OrdV.ne {w : World} {v : Value} {O : List Int} {ob : Option Nat} (H : OrdV w v O ob) (k : Nat) (hk : w.heap.size ≤ k) : Option.some k ≠ ob := by
  intro e
  by_cases h : O = []
  · rw [(H.none h).1] at e; cases e
  · obtain ⟨b, cap, h0, h1, h2, h3⟩ := H.some h
    rw [h0] at e
    have := Option.some.inj e
    have := h3.lt
    omega
theorem Below.grownAny {w w' : World} (h : Below w.heap.size w w') (row : Option Nat) : w.grownBy w' row := ⟨h.os, h.tape, h.output, h.size, fun k hk _ => h.block k hk⟩

theorem setWith_all (ok : Nat → Prop) (p : Option Addr) (h : Nat) (S O : List Int) (v : Value) (ob : Option Nat) (w : World) (hR : RSet ok w p h S) (ho : OrdV w v O ob) (hok : ∀ b, ok b → some b ≠ ob) (h0 : ∀ x ∈ O, 0 ≤ x) (h32 : ∀ x ∈ O, x < 4294967296) (hl : O.length ≤ 1048576) :
    Calls Tryd.prog 39 #[.agg #[.pointer p, .int .i64 (h : Nat)], v] w fun e w' => ∃ p' h' S', e = .returned (.agg #[.pointer p', .int .i64 (h' : Nat)]) ∧ RSet (fun b => ok b ∨ w.heap.size ≤ b) w' p' h' S' ∧ (∀ x, x ∈ S' ↔ x ∈ S ∨ x ∈ O) ∧ w.grownBy w' ob := by
  by_cases hne : O = []
  · obtain ⟨rfl, a, cap, rfl⟩ := ho.none hne
    subst hne
    refine (setWith_none p h a cap w).mono ?_
    rintro e w' ⟨rfl, hb⟩
    exact ⟨p, h, S, rfl, ⟨hR.le, (hR.node.keep hb).wide (fun b h => Or.inl h), hR.h32⟩, by simp, Below.grownAny hb _⟩
  · obtain ⟨b, cap, rfl, rfl, hc, hown⟩ := ho.some hne
    exact setWith_any ok p h S O b cap w hR hown (fun k hk e => hok k hk (by rw [e])) hne h0 h32 hl hc

/-- The copy's block. -/
structure NewB (w w' : World) (cs : List Value) : Prop where
  size : w'.heap.size = w.heap.size + 1
  blk : Blk w' w.heap.size cs
  below : Below w.heap.size w w'
def zero75 : List Value := segc 0 none 0 0 0 0 false
theorem run_alloc75 (w : World) : (Instr.alloc 75 true (.tuple #[])).run Tryd.prog w = .ok (.pointer (some ⟨w.heap.size, 0, none⟩)) (w.alloc (.cells zero75.toArray 75)) := by
  simp [Instr.alloc, go_sem, zero75, segc]
theorem wpList_alloc75 {ops : Array Oper} {rest : List Oper} {o : Oper} {a : Act} {w : World} {Q : Exit → Act → World → Prop} (hgd : o.guard = none) (ho : o.op = Op.alloc 75)
    (h : ∀ w', NewB w w' zero75 → wpList Tryd.prog ops Q rest (a.put o.dst (.pointer (some ⟨w.heap.size, 0, none⟩))) w') : wpList Tryd.prog ops Q (o :: rest) a w := by
  refine wpList_plain hgd fun K hK => ?_
  unfold Oper.wp
  simp [execOp, ho, run_alloc75, Result.andThen]
  have N := newC w zero75 75
  exact hK _ _ (h _ ⟨N.size, ⟨N.cell, N.warm⟩, N.below⟩)
theorem NewB.setAll {w w' : World} {cs ds : List Value} (H : NewB w w' cs) (hl : ds.length = cs.length) : NewB w (w'.setCells w.heap.size 0 ds) ds :=
  ⟨by rw [size_setCells]; exact H.size, H.blk.setAll hl, below_setCells _ (Nat.le_refl _) _ _ _ H.below⟩
theorem NewB.set {w w' : World} {cs : List Value} (H : NewB w w' cs) (i : Nat) (v : Value) (hi : i < cs.length) : NewB w (w'.setCell ⟨w.heap.size, i, none⟩ v) (cs.set i v) :=
  ⟨by simpa using H.size, H.blk.set i v hi, H.below.setCell (Nat.le_refl _) _⟩
theorem segc_one (rows : Int) (p : Option Addr) (h : Nat) (dr db ds : Int) (jm : Bool) : (segc rows p h dr db ds jm).toArray.all (·.oneCell') = true := by simp [segc, Value.oneCell']
theorem seg_there {w w' : World} (H : NewB w w' zero75) : w'.there w.heap.size 0 15 := fun j hj => by
  rw [Nat.zero_add]
  exact ⟨by rw [H.blk.cell j zero75[j] (List.getElem?_eq_getElem hj)]; rfl, H.blk.warm j⟩

/-- What withDead leaves. -/
structure DeadOut (ok : Nat → Prop) (w w' : World) (rows : Int) (S O : List Int) (dr db ds : Int) (jm : Bool) (ob : Option Nat) (e : Ending) : Prop where
  out : ∃ g S', e = .returned (.pointer (some ⟨g, 0, none⟩)) ∧ Seg (fun b => ok b ∨ w.heap.size ≤ b) w' g rows S' dr db ds jm ∧ ∀ x, x ∈ S' ↔ x ∈ S ∨ x ∈ O
  grow : w.grownBy w' ob

/-- The four cells, written: the segment. -/
theorem dead_out {ok : Nat → Prop} {w w3 w4 : World} {rows : Int} {p p' : Option Addr} {h h' : Nat} {S O S' : List Int} {dr db ds dr' db' : Int} {jm : Bool} {ob : Option Nat} (N3 : NewB w w3 (segc rows p h dr db ds jm)) (hR4 : RSet (fun b => ok b ∧ b < w.heap.size ∨ w3.heap.size ≤ b) w4 p' h' S') (hm : ∀ x, x ∈ S' ↔ x ∈ S ∨ x ∈ O) (hgr : w3.grownBy w4 ob) (hob : some w.heap.size ≠ ob) :
    DeadOut ok w ((((w4.setCell ⟨w.heap.size, 4, none⟩ (.pointer p')).setCell ⟨w.heap.size, 5, none⟩ (.int .i64 (h' : Nat))).setCell ⟨w.heap.size, 6, none⟩ (.int .i64 dr')).setCell ⟨w.heap.size, 7, none⟩ (.int .i64 db')) rows S O dr' db' ds jm ob (.returned (.pointer (some ⟨w.heap.size, 0, none⟩))) := by
  have hs := N3.size
  have B4 : Blk w4 w.heap.size (segc rows p h dr db ds jm) := N3.blk.move (hgr.block _ (by omega) hob)
  have B5 := (((B4.set 4 (.pointer p') (show 4 < 15 by decide)).set 5 (.int .i64 (h' : Nat)) (show 5 < 15 by decide)).set 6 (.int .i64 dr') (show 6 < 15 by decide)).set 7 (.int .i64 db') (show 7 < 15 by decide)
  have hst : ∀ b, b ≠ w.heap.size → ((((w4.setCell ⟨w.heap.size, 4, none⟩ (.pointer p')).setCell ⟨w.heap.size, 5, none⟩ (.int .i64 (h' : Nat))).setCell ⟨w.heap.size, 6, none⟩ (.int .i64 dr')).setCell ⟨w.heap.size, 7, none⟩ (.int .i64 db')).heap[b]? = w4.heap[b]? := fun b hne => by
    rw [Below.heap_setCell _ _ _ _ (by intro e; exact hne e), Below.heap_setCell _ _ _ _ (by intro e; exact hne e), Below.heap_setCell _ _ _ _ (by intro e; exact hne e), Below.heap_setCell _ _ _ _ (by intro e; exact hne e)]
  refine ⟨⟨w.heap.size, S', rfl, ⟨Or.inr (Nat.le_refl _), p', h', B5, hR4.le, hR4.node.go (fun b ho _ => hst b (by rcases ho with ho | ho <;> omega)) (fun b ho _ => ho.elim (fun h => Or.inl h.1) (fun h => Or.inr (by omega))), hR4.h32⟩, hm⟩, ⟨by show w4.os = _; rw [hgr.os, N3.below.os], by show w4.tape = _; rw [hgr.tape, N3.below.tape], by show w4.output = _; rw [hgr.output, N3.below.output], ?_, fun k hk hne => ?_⟩⟩
  · have := hgr.size
    simp; omega
  · rw [hst k (by omega), hgr.block k (by omega) hne, N3.below.block k hk]

set_option maxRecDepth 10000 in
theorem withDead_walk (ok : Nat → Prop) (g : Nat) (rows : Int) (p : Option Addr) (h : Nat) (S O : List Int) (dr db ds : Int) (jm : Bool) (a : Option Addr) (n cap : Nat) (ob : Option Nat) (size died : Int) (w : World) (hn : n = O.length) (hg : Blk w g (segc rows p h dr db ds jm)) (hR : RSet ok w p h S) (ho : OrdV w (.slice a n cap) O ob) (hok : ∀ b, ok b → some b ≠ ob) (h0 : ∀ x ∈ O, 0 ≤ x) (h32 : ∀ x ∈ O, x < 4294967296) (hl : O.length ≤ 1048576) :
    Calls Tryd.prog 40 #[.pointer (some ⟨g, 0, none⟩), .slice a n cap, .int .i64 size, .int .i64 died] w fun e w' => DeadOut ok w w' rows S O (wrap64 (dr + n)) (wrap64 (db + size)) (if dr = 0 then died else ds) jm ob e := by
  have hglt := hg.lt (by rw [segc_length]; decide)
  have hobn := ho.ne w.heap.size (Nat.le_refl _)
  have HN : Hid (n = O.length) := hn
  have hnl : n ≤ 1048576 := by omega
  have ho' := ho
  clear hn
  have hRR : ∀ w3, Below w.heap.size w w3 → RSet (fun b => ok b ∧ b < w.heap.size) w3 p h S := fun w3 hb => ⟨hR.le, hR.node.go (fun b _ hlt => hb.block b hlt) (fun b ho hlt => ⟨ho, hlt⟩), hR.h32⟩
  have HRR : Hid (∀ w3, Below w.heap.size w w3 → RSet (fun b => ok b ∧ b < w.heap.size) w3 p h S) := hRR
  have HOK : Hid (∀ b, ok b → some b ≠ ob) := hok
  have HOB : Hid (some w.heap.size ≠ ob) := hobn
  have HO : Hid (OrdV w (.slice a n cap) O ob) := ho
  clear hRR hok hobn ho ho'
  by_cases hd : dr = 0
  · rw [if_pos hd]
    have hdb : (dr == 0) = true := by rw [beq_iff_eq]; exact hd
    clear hd
    have tokL : True := trivial
    go_enter Tryd.func40, Tryd.ntmps40
    go_wp2_with (first
      | (have _t := tokL; refine wpList_load_mid rfl 75 (.tmp 11) rfl g 0 rfl (segc rows p h dr db ds jm) _ hg.range Tryd.underlying75 rfl (by rw [segc_length]; exact size75) ?_; clear tokL _t)
      | (refine wpList_alloc75 rfl rfl ?_; intro w1 N1)
      | (have _n := N1
         refine wpList_store_mid rfl 75 (.tmp 9) (.tmp 12) rfl w.heap.size 0 _ rfl rfl (seg_there N1) size75 (segc_one _ _ _ _ _ _ _) ?_
         have N2 : NewB w _ (segc rows p h dr db ds jm) := N1.setAll rfl
         have e : (segc rows p h dr db ds jm).toArray.toList = segc rows p h dr db ds jm := rfl
         rw [e]
         clear e
         generalize w1.setCells w.heap.size 0 (segc rows p h dr db ds jm) = w2 at N2 ⊢
         have k6 := N2.blk.cell 6 _ rfl
         have k8 := N2.blk.cell 8 _ rfl
         have kf := N2.blk.warm 8
         have q4 := cell_below N2.below (hg.cell 4 _ rfl)
         have q5 := cell_below N2.below (hg.cell 5 _ rfl)
         clear N1 _n)
      | (go_at_call 39
         have N3 : NewB w _ (segc rows p h dr db died jm) := N2.set 8 (.int .i64 died) (show 8 < 15 by decide)
         generalize w2.setCell ⟨w.heap.size, 8, none⟩ (.int .i64 died) = w3 at N3 ⊢
         refine (setWith_all _ p h S O (.slice a n cap) ob w3 (HRR.out w3 N3.below) (HO.out.keep N3.below) (fun b hb => HOK.out b hb.1) h0 h32 hl).mono ?_
         rintro _ w4 ⟨p', h', S', rfl, hR4, hm4, hgr4⟩
         have B4 : Blk w4 w.heap.size (segc rows p h dr db died jm) := N3.blk.move (hgr4.block _ (by have := N3.size; omega) HOB.out)
         have j4 := B4.cell 4 _ rfl
         have j5 := B4.cell 5 _ rfl
         have j6 := B4.cell 6 _ rfl
         have j7 := B4.cell 7 _ rfl
         have jf4 := B4.warm 4
         have jf5 := B4.warm 5
         have jf6 := B4.warm 6
         have jf7 := B4.warm 7
         have HR4 : Hid (RSet (fun b => (ok b ∧ b < w.heap.size) ∨ w3.heap.size ≤ b) w4 p' h' S') := hR4
         have HM4 : Hid (∀ x, x ∈ S' ↔ x ∈ S ∨ x ∈ O) := hm4
         clear hR4 hm4 B4 k6 k8 kf q4 q5 N2))
    go_ret
    exact dead_out N3 HR4.out HM4.out hgr4 HOB.out
  · rw [if_neg hd]
    have hdb : (dr == 0) = false := by rw [beq_eq_false_iff_ne]; exact hd
    clear hd
    have tokL : True := trivial
    go_enter Tryd.func40, Tryd.ntmps40
    go_wp2_with (first
      | (have _t := tokL; refine wpList_load_mid rfl 75 (.tmp 11) rfl g 0 rfl (segc rows p h dr db ds jm) _ hg.range Tryd.underlying75 rfl (by rw [segc_length]; exact size75) ?_; clear tokL _t)
      | (refine wpList_alloc75 rfl rfl ?_; intro w1 N1)
      | (have _n := N1
         refine wpList_store_mid rfl 75 (.tmp 9) (.tmp 12) rfl w.heap.size 0 _ rfl rfl (seg_there N1) size75 (segc_one _ _ _ _ _ _ _) ?_
         have N2 : NewB w _ (segc rows p h dr db ds jm) := N1.setAll rfl
         have e : (segc rows p h dr db ds jm).toArray.toList = segc rows p h dr db ds jm := rfl
         rw [e]
         clear e
         generalize w1.setCells w.heap.size 0 (segc rows p h dr db ds jm) = w2 at N2 ⊢
         have k6 := N2.blk.cell 6 _ rfl
         have k8 := N2.blk.cell 8 _ rfl
         have kf := N2.blk.warm 8
         have q4 := cell_below N2.below (hg.cell 4 _ rfl)
         have q5 := cell_below N2.below (hg.cell 5 _ rfl)
         clear N1 _n)
      | (go_at_call 39
         have N3 : NewB w w2 (segc rows p h dr db ds jm) := N2
         generalize w2 = w3 at *
         refine (setWith_all _ p h S O (.slice a n cap) ob w3 (HRR.out w3 N3.below) (HO.out.keep N3.below) (fun b hb => HOK.out b hb.1) h0 h32 hl).mono ?_
         rintro _ w4 ⟨p', h', S', rfl, hR4, hm4, hgr4⟩
         have B4 : Blk w4 w.heap.size (segc rows p h dr db ds jm) := N3.blk.move (hgr4.block _ (by have := N3.size; omega) HOB.out)
         have j4 := B4.cell 4 _ rfl
         have j5 := B4.cell 5 _ rfl
         have j6 := B4.cell 6 _ rfl
         have j7 := B4.cell 7 _ rfl
         have jf4 := B4.warm 4
         have jf5 := B4.warm 5
         have jf6 := B4.warm 6
         have jf7 := B4.warm 7
         have HR4 : Hid (RSet (fun b => (ok b ∧ b < w.heap.size) ∨ w3.heap.size ≤ b) w4 p' h' S') := hR4
         have HM4 : Hid (∀ x, x ∈ S' ↔ x ∈ S ∨ x ∈ O) := hm4
         clear hR4 hm4 B4 k6 k8 kf q4 q5 N2))
    go_ret
    exact dead_out N3 HR4.out HM4.out hgr4 HOB.out

theorem OrdV.form {w : World} {v : Value} {O : List Int} {ob : Option Nat} (H : OrdV w v O ob) : ∃ a cap, v = .slice a O.length cap := by
  by_cases h : O = []
  · obtain ⟨_, a, cap, rfl⟩ := H.none h
    exact ⟨a, cap, by rw [h]; rfl⟩
  · obtain ⟨b, cap, _, rfl, _, _⟩ := H.some h
    exact ⟨_, cap, rfl⟩
/-- g.withDead(ords, size, died), through ZZwithDead. -/
theorem withDead_any (ok : Nat → Prop) (g : Nat) (rows : Int) (S O : List Int) (dr db ds : Int) (jm : Bool) (v : Value) (ob : Option Nat) (size died : Int) (w : World) (hg : Seg ok w g rows S dr db ds jm) (ho : OrdV w v O ob) (hok : ∀ b, ok b → some b ≠ ob) (h0 : ∀ x ∈ O, 0 ≤ x) (h32 : ∀ x ∈ O, x < 4294967296) (hl : O.length ≤ 1048576) :
    Calls Tryd.prog 28 #[.pointer (some ⟨g, 0, none⟩), v, .int .i64 size, .int .i64 died] w fun e w' => DeadOut ok w w' rows S O (wrap64 (dr + O.length)) (wrap64 (db + size)) (if dr = 0 then died else ds) jm ob e := by
  obtain ⟨a, cap, rfl⟩ := ho.form
  obtain ⟨p, h, hb, hR⟩ := hg.parts
  have HC : Hid (Calls Tryd.prog 40 #[.pointer (some ⟨g, 0, none⟩), .slice a O.length cap, .int .i64 size, .int .i64 died] w fun e w' => DeadOut ok w w' rows S O (wrap64 (dr + O.length)) (wrap64 (db + size)) (if dr = 0 then died else ds) jm ob e) :=
    withDead_walk ok g rows p h S O dr db ds jm a O.length cap ob size died w rfl hb hR ho hok h0 h32 hl
  clear ho hok h0 h32 hl hb hR hg
  generalize (if dr = 0 then died else ds) = ds' at HC ⊢
  generalize wrap64 (dr + O.length) = dr' at HC ⊢
  generalize wrap64 (db + size) = db' at HC ⊢
  go_enter Tryd.func28, Tryd.ntmps28
  go_wp2_with (go_at_call 40; refine HC.out.mono ?_; rintro _ w1 ⟨⟨g', S', rfl, hs, hm⟩, hgr⟩; have HS : Hid (Seg (fun b => ok b ∨ w.heap.size ≤ b) w1 g' rows S' dr' db' ds' jm) := hs; have HM : Hid (∀ x, x ∈ S' ↔ x ∈ S ∨ x ∈ O) := hm; clear hs hm)
  go_ret
  exact ⟨⟨g', S', rfl, HS.out, HM.out⟩, hgr⟩
theorem Seg.go {ok ok' : Nat → Prop} {w w' : World} {g : Nat} {rows : Int} {S : List Int} {dr db ds : Int} {jm : Bool} (H : Seg ok w g rows S dr db ds jm) (hm : ∀ b, ok b → b < w.heap.size → w'.heap[b]? = w.heap[b]?) (ho : ∀ b, ok b → b < w.heap.size → ok' b) : Seg ok' w' g rows S dr db ds jm := by
  obtain ⟨p, h, hb, hR⟩ := H.parts
  have hlt := hb.lt (show 0 < 15 by decide)
  exact ⟨ho g H.okg hlt, p, h, hb.move (hm g H.okg hlt), hR.le, hR.node.go hm ho, hR.h32⟩
end Go.Proofs.Qxb6609120aDoor
