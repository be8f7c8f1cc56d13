/-
  RowSet.with.
-/
import Derived.Test.Qxb6609120aDoorRaise
import Derived.Test.Qxb6609120aDoorShelf
import Derived.Lib.OwnBridge
namespace Go.Proofs.Qxb6609120aDoor
open Go.RowKit Go.Sort
open Plain (Srt Asc)
set_option linter.unusedVariables false

/-- The ordinals, in order. -/
def srt (O : List Int) : List Int := O.mergeSort fun x y => decide (x ≤ y)
theorem srt_len (O : List Int) : (srt O).length = O.length := List.length_mergeSort _
theorem srt_mem (O : List Int) (x : Int) : x ∈ srt O ↔ x ∈ O := List.mem_mergeSort
theorem srt_srt (O : List Int) : Srt (srt O) := by
  have h := List.pairwise_mergeSort (le := fun (x y : Int) => decide (x ≤ y)) (by intro a b c h1 h2; simp at *; omega) (by intro a b; simp; omega) O
  exact h.imp (fun h => by simpa using h)

theorem sort_any (ob cap : Nat) (O : List Int) (w : World) (ho : Own .i64 2 w ob O) (hl : O.length ≤ 1048576) :
    Calls Tryd.prog 52 #[.slice (some ⟨ob, 0, none⟩) O.length cap] w fun e w' => e = .returned (.tuple #[]) ∧ At .i64 w' ob 0 (srt O) ∧ w.grownBy w' (some ob) := by
  have hlt := ho.lt
  refine (AnyM.slices_Sort_int Tryd.lSort ob 0 cap O w (fun j hj => ?_) hlt (by omega)).mono ?_
  · have hj' : j < O.length := by simpa using hj
    refine ⟨?_, ho.warm _⟩
    rw [ho.cell j hj']
    simp [getElem!_pos, hj']
  · rintro e w' ⟨rfl, n, os, rfl⟩
    obtain ⟨rest, hr⟩ := ho.row
    refine ⟨rfl, ⟨fun i hi => ?_⟩, ⟨rfl, rfl, rfl, ?_, fun k hk hne => ?_⟩⟩
    · have hi' : i < O.length := by rw [srt_len] at hi; exact hi
      have hg : (grow (putRow (Value.int .i64) (Sort.ahead w n) ob 0 (srt O).toArray) os).heap[ob]? = some (.cells (putCells (Value.int .i64) 0 (srt O).toArray (O.map (Value.int .i64) ++ rest).toArray) 2 (0, 0)) := by
        show (w.heap.modify ob (onCells (putCells (Value.int .i64) 0 (srt O).toArray)) ++ os)[ob]? = _
        rw [Array.getElem?_append_left (by simpa using hlt), Array.getElem?_modify]
        simp [hr, onCells]
      show (grow (putRow (Value.int .i64) (Sort.ahead w n) ob 0 (srt O).toArray) os).cell? _ = _
      have hs := srt_len O
      simp [World.cell?, hg, putCells, hs, hi']
      exact ⟨_, List.getElem?_eq_getElem (by simp; omega)⟩
    · simp [grow, putRow, mapBlock, Sort.ahead]
    · have : ob ≠ k := fun e => hne (by rw [e])
      show (w.heap.modify ob _ ++ os)[k]? = _
      rw [Array.getElem?_append_left (by simpa using hk), Array.getElem?_modify]
      simp [this]

theorem run_box49 (w : World) (p : Option Addr) (n : Int) : (Instr.box 49 (.agg #[.pointer p, .int .i64 n])).run Tryd.prog w = .ok (.pointer (some ⟨w.heap.size, 0, none⟩)) (w.alloc (.cells #[.pointer p, .int .i64 n] 49)) := by
  simp [Instr.box, go_sem]
theorem run_alloc49 (w : World) : (Instr.alloc 49 true (.tuple #[])).run Tryd.prog w = .ok (.pointer (some ⟨w.heap.size, 0, none⟩)) (w.alloc (.cells #[.pointer none, .int .i64 0] 49)) := by
  simp [Instr.alloc, go_sem]
theorem wpList_box49 {ops : Array Oper} {rest : List Oper} {o : Oper} {a : Act} {w : World} {Q : Exit → Act → World → Prop} (hgd : o.guard = none) (x : Operand) (p : Option Addr) (n : Int) (ho : o.op = Op.box 49 x) (hx : a.eval x = .agg #[.pointer p, .int .i64 n])
    (h : ∀ w', NewC w w' [.pointer p, .int .i64 n] → wpList Tryd.prog ops Q rest (a.put o.dst (.pointer (some ⟨w.heap.size, 0, none⟩))) w') : wpList Tryd.prog ops Q (o :: rest) a w := by
  refine wpList_plain hgd fun K hK => ?_
  unfold Oper.wp
  simp [execOp, ho, hx, run_box49, Result.andThen]
  exact hK _ _ (h _ (newC w [.pointer p, .int .i64 n] 49))
theorem wpList_alloc49 {ops : Array Oper} {rest : List Oper} {o : Oper} {a : Act} {w : World} {Q : Exit → Act → World → Prop} (hgd : o.guard = none) (ho : o.op = Op.alloc 49)
    (h : ∀ w', NewC w w' [.pointer none, .int .i64 0] → wpList Tryd.prog ops Q rest (a.put o.dst (.pointer (some ⟨w.heap.size, 0, none⟩))) w') : wpList Tryd.prog ops Q (o :: rest) a w := by
  refine wpList_plain hgd fun K hK => ?_
  unfold Oper.wp
  simp [execOp, ho, run_alloc49, Result.andThen]
  exact hK _ _ (h _ (newC w [.pointer none, .int .i64 0] 49))

theorem Own.keep {k : IntKind} {e : TypeId} {w w' : World} {b : Nat} {l : List Int} (h : Own k e w b l) (hb : Below w.heap.size w w') : Own k e w' b l := ⟨by rw [hb.block b h.lt]; exact h.row⟩
theorem Own.keep2 {k : IntKind} {e : TypeId} {w w' w2 : World} {b : Nat} {l : List Int} (h : Own k e w b l) (hb : Below w.heap.size w w') (hb2 : Below w'.heap.size w' w2) : Own k e w2 b l := (h.keep hb).keep hb2
/-- A set's value: its root and height. -/
def rset (p : Option Addr) (h : Nat) : Value := .agg #[.pointer p, .int .i64 (h : Nat)]
/-- The set (p, h) holds S. -/
structure RSet (ok : Nat → Prop) (w : World) (p : Option Addr) (h : Nat) (S : List Int) : Prop where
  le : h ≤ 4
  node : Node ok h w 0 p S
  h32 : ∀ x ∈ S, x < 4294967296

theorem size49 : (Tryd.prog.info? 49).map (·.size) = some 2 := by kernel_rfl
theorem load49 {w : World} {R : Nat} {u v : Value} (h0 : w.cell? ⟨R, 0, none⟩ = some u) (h1 : w.cell? ⟨R, 1, none⟩ = some v) : (loadVar 49 ⟨R, 0, none⟩).run Tryd.prog w = .ok (.agg #[u, v]) w :=
  run_loadVar_mid w R 0 49 [u, v] _ (fun j x hj => by
    match j with
    | 0 => simp at hj; rw [← hj]; exact h0
    | 1 => simp at hj; rw [← hj]; exact h1
    | j + 2 => simp at hj) Tryd.underlying49 rfl size49
theorem two0 {w : World} {R : Nat} {u v a b : Value} (h0 : w.cell? ⟨R, 0, none⟩ = some a) : ((w.setCell ⟨R, 0, none⟩ u).setCell ⟨R, 1, none⟩ v).cell? ⟨R, 0, none⟩ = some u := by
  rw [World.cell?_setCell_other _ _ _ _ (by simp), World.cell?_setCell_same _ _ _ h0]
theorem two1 {w : World} {R : Nat} {u v b : Value} (h1 : w.cell? ⟨R, 1, none⟩ = some b) : ((w.setCell ⟨R, 0, none⟩ u).setCell ⟨R, 1, none⟩ v).cell? ⟨R, 1, none⟩ = some v := by
  rw [World.cell?_setCell_same _ _ _ (by rw [World.cell?_setCell_other _ _ _ _ (by simp)]; exact h1)]

set_option maxRecDepth 10000 in
/-- Nothing to add. -/
theorem setWith_none (p : Option Addr) (h : Nat) (a : Option Addr) (cap : Nat) (w : World) :
    Calls Tryd.prog 39 #[.agg #[.pointer p, .int .i64 (h : Nat)], .slice a 0 cap] w fun e w' => e = .returned (.agg #[.pointer p, .int .i64 (h : Nat)]) ∧ Below w.heap.size w w' := by
  have tok : True := trivial
  go_enter Tryd.func39, Tryd.ntmps39
  go_wp2_with (first
    | (have _t := tok; refine wpList_box49 rfl (.tmp 0) p (h : Nat) rfl rfl ?_; intro w1 N1; have c0 := N1.cell 0 _ rfl; have c1 := N1.cell 1 _ rfl; clear tok _t)
    | (refine wpList_alloc49 rfl rfl ?_; intro w2 N2; have d0 := cell_below N2.below c0; have d1 := cell_below N2.below c1; have e0 := N2.cell 0 _ rfl; have e1 := N2.cell 1 _ rfl; have f0 := N2.warm 0; have f1 := N2.warm 1))
  refine bodyPost_ret (v := .agg #[.pointer p, .int .i64 (h : Nat)]) ?_ rfl ⟨rfl, ((N1.below.trans (N2.below.mono N1.below.size)).setCell N1.below.size _).setCell N1.below.size _⟩
  rw [results_cell1 Tryd.results39]
  simp [asAddr, load49 (two0 (b := .pointer none) e0) (two1 e1)]

theorem Node.lt {ok : Nat → Prop} {h : Nat} {w : World} {base : Nat} {p : Option Addr} {S : List Int} (H : Node ok h w base p S) : Node (fun b => ok b ∧ b < w.heap.size) h w base p S := H.go (fun b _ _ => rfl) (fun b ho hlt => ⟨ho, hlt⟩)
theorem At.grownO {k : IntKind} {w w' : World} {b off g : Nat} {l : List Int} (h : At k w b off l) (hg : w.grownBy w' (some g)) (hne : b ≠ g) : At k w' b off l :=
  ⟨fun i hi => hg.cell (h.cell i hi) (by intro e; exact hne (Option.some.inj e))⟩
/-- The last of the ordered. -/
theorem srt_last (O : List Int) (hne : O ≠ []) : ∃ l, (srt O)[O.length - 1]? = some l ∧ (∀ x ∈ srt O, x ≤ l) ∧ l ∈ O := by
  have hlen := srt_len O
  have hp := List.length_pos_iff.2 hne
  have hi : O.length - 1 < (srt O).length := by omega
  refine ⟨(srt O)[O.length - 1], List.getElem?_eq_getElem hi, fun x hx => ?_, (srt_mem O _).1 (List.getElem_mem hi)⟩
  obtain ⟨t, ht, rfl⟩ := List.getElem_of_mem hx
  by_cases e : t = O.length - 1
  · subst e; exact Int.le_refl _
  · exact List.pairwise_iff_getElem.1 (srt_srt O) t (O.length - 1) ht hi (by omega)

/-- What stands behind the sort: the set's copy, the result's cells, the node; nothing else of the old world has turned but the ordinals' block. -/
structure Sorted (ok : Nat → Prop) (w w3 : World) (p : Option Addr) (h : Nat) (S : List Int) (ob sb rb : Nat) : Prop where
  s0 : w3.cell? ⟨sb, 0, none⟩ = some (.pointer p)
  s1 : w3.cell? ⟨sb, 1, none⟩ = some (.int .i64 (h : Nat))
  r0 : w3.cell? ⟨rb, 0, none⟩ = some (.pointer none)
  r1 : w3.cell? ⟨rb, 1, none⟩ = some (.int .i64 0)
  sf : ∀ i, w3.frozen? ⟨sb, i, none⟩ = false
  rf : ∀ i, w3.frozen? ⟨rb, i, none⟩ = false
  node : Node ok h w3 0 p S
  apart : ∀ b, ok b → b ≠ ob ∧ b ≠ sb ∧ b ≠ rb
  grow : w.grownBy w3 (some ob)
  n1 : sb ≠ ob
  n2 : rb ≠ ob
  n3 : sb ≠ rb
  g1 : w.heap.size ≤ sb
  g2 : w.heap.size ≤ rb
  g3 : ob < w.heap.size
theorem Sorted.lt1 {ok : Nat → Prop} {w w3 : World} {p : Option Addr} {h : Nat} {S : List Int} {ob sb rb : Nat} (H : Sorted ok w w3 p h S ob sb rb) : sb < w3.heap.size := World.block_lt_of_cell? w3 _ H.s0
theorem Sorted.lt2 {ok : Nat → Prop} {w w3 : World} {p : Option Addr} {h : Nat} {S : List Int} {ob sb rb : Nat} (H : Sorted ok w w3 p h S ob sb rb) : rb < w3.heap.size := World.block_lt_of_cell? w3 _ H.r0
theorem Sorted.lt3 {ok : Nat → Prop} {w w3 : World} {p : Option Addr} {h : Nat} {S : List Int} {ob sb rb : Nat} (H : Sorted ok w w3 p h S ob sb rb) : ob < w3.heap.size := Nat.lt_of_lt_of_le H.g3 H.grow.size
theorem grownBy_below {a w w' : World} {row : Option Nat} (h : a.grownBy w row) (hb : Below w.heap.size w w') : a.grownBy w' row :=
  ⟨by rw [hb.os, h.os], by rw [hb.tape, h.tape], by rw [hb.output, h.output], Nat.le_trans h.size hb.size, fun k hk hne => by rw [hb.block k (Nat.lt_of_lt_of_le hk h.size), h.block k hk hne]⟩
theorem Sorted.keep {ok : Nat → Prop} {w w3 w4 : World} {p : Option Addr} {h : Nat} {S : List Int} {ob sb rb : Nat} (H : Sorted ok w w3 p h S ob sb rb) (hb : Below w3.heap.size w3 w4) : Sorted ok w w4 p h S ob sb rb :=
  ⟨cell_below hb H.s0, cell_below hb H.s1, cell_below hb H.r0, cell_below hb H.r1, fun i => by rw [hb.frozen (p := ⟨sb, i, none⟩) H.lt1]; exact H.sf i, fun i => by rw [hb.frozen (p := ⟨rb, i, none⟩) H.lt2]; exact H.rf i, H.node.keep hb, H.apart, grownBy_below H.grow hb, H.n1, H.n2, H.n3, H.g1, H.g2, H.g3⟩
theorem Sorted.drew {ok : Nat → Prop} {w w3 : World} {p : Option Addr} {h : Nat} {S : List Int} {ob sb rb : Nat} (H : Sorted ok w w3 p h S ob sb rb) : Sorted ok w w3.drew p h S ob sb rb := H.keep (Below.refl _ _).drew
/-- The copy's two cells, written; another node, whose blocks are new or were ok. -/
theorem Sorted.put {ok ok' : Nat → Prop} {w w3 : World} {p p' : Option Addr} {h h' : Nat} {S S' : List Int} {ob sb rb : Nat} (H : Sorted ok w w3 p h S ob sb rb) (hn : Node ok' h' w3 0 p' S') (ha : ∀ b, ok' b → b ≠ ob ∧ b ≠ sb ∧ b ≠ rb) :
    Sorted ok' w ((w3.setCell ⟨sb, 0, none⟩ (.pointer p')).setCell ⟨sb, 1, none⟩ (.int .i64 (h' : Nat))) p' h' S' ob sb rb := by
  have hst : ∀ b, b ≠ sb → ((w3.setCell ⟨sb, 0, none⟩ (.pointer p')).setCell ⟨sb, 1, none⟩ (.int .i64 (h' : Nat))).heap[b]? = w3.heap[b]? := fun b hne => by
    rw [Below.heap_setCell _ _ _ _ (by intro e; exact hne e), Below.heap_setCell _ _ _ _ (by intro e; exact hne e)]
  refine ⟨two0 (b := .pointer none) H.s0, two1 H.s1, ?_, ?_, fun i => ?_, fun i => ?_, hn.go (fun b ho _ => hst b (ha b ho).2.1) (fun b ho _ => ho), ha, ⟨H.grow.os, H.grow.tape, H.grow.output, by simpa using H.grow.size, fun k hk hne => ?_⟩, H.n1, H.n2, H.n3, H.g1, H.g2, H.g3⟩
  · rw [cell_moved (hst _ (Ne.symm H.n3))]; exact H.r0
  · rw [cell_moved (hst _ (Ne.symm H.n3))]; exact H.r1
  · rw [World.frozen?_setCell, World.frozen?_setCell]; exact H.sf i
  · rw [World.frozen?_setCell, World.frozen?_setCell]; exact H.rf i
  · rw [hst k (by have := H.g1; omega)]; exact H.grow.block k hk hne
theorem Sorted.put1 {ok ok' : Nat → Prop} {w w3 : World} {p p' : Option Addr} {h : Nat} {S S' : List Int} {ob sb rb : Nat} (H : Sorted ok w w3 p h S ob sb rb) (hn : Node ok' h w3 0 p' S') (ha : ∀ b, ok' b → b ≠ ob ∧ b ≠ sb ∧ b ≠ rb) :
    Sorted ok' w (w3.setCell ⟨sb, 0, none⟩ (.pointer p')) p' h S' ob sb rb := by
  have hst : ∀ b, b ≠ sb → (w3.setCell ⟨sb, 0, none⟩ (.pointer p')).heap[b]? = w3.heap[b]? := fun b hne => by
    rw [Below.heap_setCell _ _ _ _ (by intro e; exact hne e)]
  refine ⟨World.cell?_setCell_same _ _ _ H.s0, ?_, ?_, ?_, fun i => ?_, fun i => ?_, hn.go (fun b ho _ => hst b (ha b ho).2.1) (fun b ho _ => ho), ha, ⟨H.grow.os, H.grow.tape, H.grow.output, by simpa using H.grow.size, fun k hk hne => ?_⟩, H.n1, H.n2, H.n3, H.g1, H.g2, H.g3⟩
  · rw [World.cell?_setCell_other _ _ _ _ (by simp)]; exact H.s1
  · rw [cell_moved (hst _ (Ne.symm H.n3))]; exact H.r0
  · rw [cell_moved (hst _ (Ne.symm H.n3))]; exact H.r1
  · rw [World.frozen?_setCell]; exact H.sf i
  · rw [World.frozen?_setCell]; exact H.rf i
  · rw [hst k (by have := H.g1; omega)]; exact H.grow.block k hk hne
theorem after_sort {ok : Nat → Prop} {w w1 w2 w3 : World} {p : Option Addr} {h : Nat} {S : List Int} {ob : Nat} (N1 : NewC w w1 [.pointer p, .int .i64 (h : Nat)]) (N2 : NewC w1 w2 [.pointer none, .int .i64 0]) (hgr : w2.grownBy w3 (some ob)) (hn : Node ok h w 0 p S) (hok : ∀ b, ok b → b ≠ ob) (hb : ob < w.heap.size) :
    Sorted (fun b => ok b ∧ b < w.heap.size) w w3 p h S ob w.heap.size w1.heap.size := by
  have hs1 := N1.size
  have hs2 := N2.size
  have b2 : Below w.heap.size w w2 := N1.below.trans (N2.below.mono N1.below.size)
  have hblk : ∀ k, k < w2.heap.size → k ≠ ob → w3.heap[k]? = w2.heap[k]? := fun k hk hne => hgr.block k hk (by intro e; exact hne (Option.some.inj e))
  refine ⟨?_, ?_, ?_, ?_, fun i => ?_, fun i => ?_, ?_, fun b ho => ⟨hok b ho.1, by omega, by omega⟩, ⟨by rw [hgr.os, b2.os], by rw [hgr.tape, b2.tape], by rw [hgr.output, b2.output], Nat.le_trans b2.size hgr.size, fun k hk hne => by rw [hgr.block k (Nat.lt_of_lt_of_le hk b2.size) hne, b2.block k hk]⟩, by omega, by omega, by omega, by omega, by omega, hb⟩
  · rw [cell_moved (hblk _ (by omega) (by omega))]; exact cell_below N2.below (N1.cell 0 _ rfl)
  · rw [cell_moved (hblk _ (by omega) (by omega))]; exact cell_below N2.below (N1.cell 1 _ rfl)
  · rw [cell_moved (hblk _ (by omega) (by omega))]; exact N2.cell 0 _ rfl
  · rw [cell_moved (hblk _ (by omega) (by omega))]; exact N2.cell 1 _ rfl
  · have e : w3.frozen? ⟨w.heap.size, i, none⟩ = w2.frozen? ⟨w.heap.size, i, none⟩ := by simp [World.frozen?, hblk w.heap.size (by omega) (by omega)]
    rw [e, N2.below.frozen (p := ⟨w.heap.size, i, none⟩) (show w.heap.size < w1.heap.size by omega)]; exact N1.warm i
  · have e : w3.frozen? ⟨w1.heap.size, i, none⟩ = w2.frozen? ⟨w1.heap.size, i, none⟩ := by simp [World.frozen?, hblk w1.heap.size (by omega) (by omega)]
    rw [e]; exact N2.warm i
  · refine hn.go (fun b ho hlt => ?_) (fun b ho hlt => ⟨ho, hlt⟩)
    rw [hblk b (by omega) (hok b ho), b2.block b hlt]

theorem Sorted.apart2 {ok : Nat → Prop} {w w3 : World} {p : Option Addr} {h : Nat} {S : List Int} {ob sb rb : Nat} (H : Sorted ok w w3 p h S ob sb rb) : ∀ b, (ok b ∨ w3.heap.size ≤ b) → b ≠ ob ∧ b ≠ sb ∧ b ≠ rb := fun b hb => by
  rcases hb with hb | hb
  · exact H.apart b hb
  · have := H.lt1; have := H.lt2; have := H.lt3; omega
theorem At.two {k : IntKind} {w : World} {b sb off : Nat} {l : List Int} {u v : Value} (h : At k w b off l) (hne : b ≠ sb) : At k ((w.setCell ⟨sb, 0, none⟩ u).setCell ⟨sb, 1, none⟩ v) b off l :=
  h.move (by rw [Below.heap_setCell _ _ _ _ (by intro e; exact hne e), Below.heap_setCell _ _ _ _ (by intro e; exact hne e)])
theorem srt_ne {O : List Int} (h : O ≠ []) : srt O ≠ [] := by
  intro e
  have := srt_len O
  rw [e] at this
  exact h (List.length_eq_zero_iff.1 this.symm)
theorem spn_le4 (g : Nat) (h : g ≤ 4) : 0 + spn g ≤ 1099511627776 := by
  have : g = 0 ∨ g = 1 ∨ g = 2 ∨ g = 3 ∨ g = 4 := by omega
  rcases this with rfl | rfl | rfl | rfl | rfl <;> decide

/-- The result's cells, written; the call ends. -/
theorem Sorted.done {ok ok' : Nat → Prop} {w w8 : World} {p : Option Addr} {h : Nat} {S S0 O : List Int} {ob sb rb : Nat} {tmps : Array Value} (H : Sorted ok w w8 p h S ob sb rb) (h4 : tmps.getD 4 undef = .pointer (some ⟨rb, 0, none⟩)) (hR : ∀ {w' : World}, Node ok' h w' 0 p S → RSet ok' w' p h S) (ho : ∀ b, ok b → ok' b) (hm : ∀ x, x ∈ S ↔ x ∈ S0 ∨ x ∈ O) :
    bodyPost Tryd.prog Tryd.f39 (fun e w' => ∃ p' h' S', e = Ending.returned (Value.agg #[Value.pointer p', Value.int IntKind.i64 ((h' : Nat) : Int)]) ∧ RSet ok' w' p' h' S' ∧ (∀ (x : Int), x ∈ S' ↔ x ∈ S0 ∨ x ∈ O) ∧ w.grownBy w' (some ob)) Exit.ret { tmps := tmps, defers := [] }
      ((w8.setCell ⟨rb, 0, none⟩ (.pointer p)).setCell ⟨rb, 1, none⟩ (.int .i64 (h : Nat))) := by
  have hst : ∀ b, b ≠ rb → ((w8.setCell ⟨rb, 0, none⟩ (.pointer p)).setCell ⟨rb, 1, none⟩ (.int .i64 (h : Nat))).heap[b]? = w8.heap[b]? := fun b hne => by
    rw [Below.heap_setCell _ _ _ _ (by intro e; exact hne e), Below.heap_setCell _ _ _ _ (by intro e; exact hne e)]
  refine bodyPost_ret (v := .agg #[.pointer p, .int .i64 (h : Nat)]) ?_ rfl ⟨p, h, S, rfl, hR (H.node.go (fun b ho _ => hst b (H.apart b ho).2.2) (fun b hb _ => ho b hb)), hm, ⟨H.grow.os, H.grow.tape, H.grow.output, by simpa using H.grow.size, fun k hk hne => ?_⟩⟩
  · rw [results_cell1 Tryd.results39, h4]
    simp [asAddr, load49 (two0 (b := .pointer none) H.r0) (two1 H.r1)]
  · rw [hst k (by have := H.g2; omega)]; exact H.grow.block k hk hne

set_option maxRecDepth 10000 in
theorem setWith_any (ok : Nat → Prop) (p : Option Addr) (h : Nat) (S O : List Int) (ob cap : Nat) (w : World) (hR : RSet ok w p h S) (ho : Own .i64 2 w ob O) (hok : ∀ b, ok b → b ≠ ob) (hne : O ≠ []) (h0 : ∀ x ∈ O, 0 ≤ x) (h32 : ∀ x ∈ O, x < 4294967296) (hl : O.length ≤ 1048576) (hc : O.length ≤ cap) :
    Calls Tryd.prog 39 #[.agg #[.pointer p, .int .i64 (h : Nat)], .slice (some ⟨ob, 0, none⟩) O.length cap] w fun e w' => ∃ p' h' S', e = .returned (.agg #[.pointer p', .int .i64 (h' : Nat)]) ∧ RSet (fun b => ok b ∨ w.heap.size ≤ b) w' p' h' S' ∧ (∀ x, x ∈ S' ↔ x ∈ S ∨ x ∈ O) ∧ w.grownBy w' (some ob) := by
  have tok : True := trivial
  have hblt := ho.lt
  have hpos := List.length_pos_iff.2 hne
  have hz : ((O.length : Int) == 0) = false := by rw [beq_eq_false_iff_ne]; omega
  go_enter Tryd.func39, Tryd.ntmps39
  go_wp2_with (first
    | (have _t := tok; refine wpList_box49 rfl (.tmp 0) p (h : Nat) rfl rfl ?_; intro w1 N1; have c0 := N1.cell 0 _ rfl; have c1 := N1.cell 1 _ rfl; clear tok _t)
    | (refine wpList_alloc49 rfl rfl ?_; intro w2 N2; have e0 := N2.cell 0 _ rfl; have e1 := N2.cell 1 _ rfl; have f0 := N2.warm 0; have f1 := N2.warm 1)
    | (go_at_call 52
       refine (sort_any ob cap O _ (ho.keep2 N1.below N2.below) hl).mono ?_
       rintro _ w3 ⟨rfl, hat, hgr⟩
       have HS := after_sort N1 N2 hgr hR.node hok hblt
       have HS' : Hid (Sorted (fun b => ok b ∧ b < w.heap.size) w w3 p h S ob w.heap.size w1.heap.size) := HS
       have s0 := HS.s0
       have s1 := HS.s1
       clear HS c0 c1 e0 e1 f0 f1))
  obtain ⟨l, hl1, hl2, hl3⟩ := srt_last O hne
  have hlb := h32 l hl3
  have hl0 := h0 l hl3
  have HL2 : Hid (∀ x ∈ srt O, x ≤ l) := hl2
  have hgl : w3.cell? ⟨ob, O.length - 1, none⟩ = some (.int .i64 l) := by
    have hi : O.length - 1 < (srt O).length := by rw [srt_len]; omega
    have := hat.cell (O.length - 1) hi
    rw [Nat.zero_add] at this
    rw [this]
    rw [List.getElem?_eq_getElem hi] at hl1
    rw [Option.some.inj hl1]
  have HAT : Hid (At .i64 w3 ob 0 (srt O)) := hat
  have hh4 := hR.le
  clear hl1 hl2 hl3 hat s0 s1 hgr
  obtain ⟨m, hm⟩ : ∃ m : Nat, O.length = m + 1 := ⟨O.length - 1, by omega⟩
  have HM : Hid (O.length = m + 1) := hm
  rw [hm] at hgl hz hl hc ⊢
  rw [Nat.add_sub_cancel] at hgl
  rw [show ((m + 1 : Nat) : Int) = (m : Int) + 1 by omega]
  clear hm hpos hz
  go_loopw [5] (fun sg wr => ∃ (g : Nat), sg = .int .i64 g ∧ h ≤ g ∧ g ≤ 4 ∧ Sorted (fun b => ok b ∧ b < w.heap.size) w wr p h S ob w.heap.size w1.heap.size ∧ At .i64 wr ob 0 (srt O) ∧ wr.cell? ⟨ob, m, none⟩ = some (.int .i64 l)) (fun sg _ => 4 - (intOf sg).toNat)
  case atStart => exact ⟨h, rfl, Nat.le_refl _, hh4, HS'.out, HAT.out, hgl⟩
  case round =>
    clear HS' HAT hgl
    obtain ⟨g, rfl, hhg, hg4, hS, hA, hgl⟩ := hrel
    have HS : Hid (Sorted (fun b => ok b ∧ b < w.heap.size) w wr p h S ob w.heap.size w1.heap.size) := hS
    have HA : Hid (At .i64 wr ob 0 (srt O)) := hA
    have hspn : (l : Int) < ((spn 4 : Nat) : Int) := by have : spn 4 = 68719476736 := rfl; omega
    have iw : IntKind.i64.wrap (m : Int) = (m : Int) := by rw [IntKind.wrap_i64]; omega
    have i1 : (m : Int) < (m : Int) + 1 := by omega
    have i2 : (0 : Int) ≤ (m : Int) := by omega
    have hspan : ∀ w, Calls Tryd.prog 50 #[.int .i64 (g : Int)] w fun e w' => e = .returned (.int .i64 ((spn g : Nat) : Int)) ∧ w' = w := span_any g hg4
    clear hS hA
    by_cases hge : ((spn g : Nat) : Int) ≤ l
    · have hg3 : g < 4 := by
        by_cases e : g = 4
        · subst e; omega
        · omega
      go_wp2_with fail
      go_region_held3 (fun w' => w'.cell? ⟨ob, m, none⟩ = some (.int .i64 l)) (first | exact hgl | assumption) ((go_at_call 50; refine (hspan _).mono ?_; rintro _ _ ⟨rfl, rfl⟩))
      go_wp2_with fail
      go_roundw
      case rel => exact ⟨g + 1, by go_num, by omega, by omega, HS.out.drew, HA.out.keep (Below.refl _ _).drew, hgl⟩
      case measure => simp [intOf]; omega
    · have hls : ∀ x ∈ srt O, x < ((spn g : Nat) : Int) := fun x hx => by have := HL2.out x hx; omega
      have HLS : Hid (∀ x ∈ srt O, x < ((spn g : Nat) : Int)) := hls
      clear hls
      go_wp2_with fail
      go_region_held3 (fun w' => w'.cell? ⟨ob, m, none⟩ = some (.int .i64 l)) (first | exact hgl | assumption) ((go_at_call 50; refine (hspan _).mono ?_; rintro _ _ ⟨rfl, rfl⟩))
      have HS4 := HS.out.drew
      have HA4 := HA.out.keep (Below.refl _ _).drew
      generalize wr.drew = w4 at HS4 HA4 ⊢
      have s0 := HS4.s0
      have s1 := HS4.s1
      have hz4 := HS4.grow.size
      have HS4' : Hid (Sorted (fun b => ok b ∧ b < w.heap.size) w w4 p h S ob w.heap.size w1.heap.size) := HS4
      have HA4' : Hid (At .i64 w4 ob 0 (srt O)) := HA4
      clear HS4 HA4 HS HA hgl
      go_wp2_with (first
        | (go_at_call 44
           refine (raise_any _ h g hhg hg4 p S w4 HS4'.out.node).mono ?_
           rintro _ w5 ⟨p1, rfl, hn5, hb5⟩
           have HS5 := HS4'.out.keep hb5
           have t0 := HS5.s0
           have t1 := HS5.s1
           have tf0 := HS5.sf 0
           have tf1 := HS5.sf 1
           have HS6 := HS5.put hn5 (HS4'.out.apart2)
           have HS6' : Hid (Sorted (fun b => (ok b ∧ b < w.heap.size) ∨ w4.heap.size ≤ b) w ((w5.setCell ⟨w.heap.size, 0, none⟩ (.pointer p1)).setCell ⟨w.heap.size, 1, none⟩ (.int .i64 (g : Nat))) p1 g S ob w.heap.size w1.heap.size) := HS6
           have HA6 : Hid (At .i64 ((w5.setCell ⟨w.heap.size, 0, none⟩ (.pointer p1)).setCell ⟨w.heap.size, 1, none⟩ (.int .i64 (g : Nat))) ob 0 (srt O)) := (HA4'.out.keep hb5).two (Ne.symm HS4'.out.n1)
           clear HS6 HS5 hn5 s0 s1)
        | (go_at_call 53
           have HS6 := HS6'.out
           have HA6' := HA6.out
           generalize ((w5.setCell ⟨w.heap.size, 0, none⟩ (.pointer p1)).setCell ⟨w.heap.size, 1, none⟩ (.int .i64 (g : Nat))) = w6 at HS6 HA6' ⊢
           have HW := with_any g hg4 _ 0 p1 S (srt O) ob 0 cap w6 HS6.node hR.h32 ⟨srt_srt O, srt_ne hne, fun x hx => by have := h0 x ((srt_mem O x).1 hx); simpa using this, fun x hx => by have := HLS.out x hx; simpa using this, fun x hx => h32 x ((srt_mem O x).1 hx), HA6', by rw [srt_len, HM.out]; exact hc, by rw [srt_len, HM.out]; exact hl⟩ (spn_le4 g hg4)
           rw [srt_len, HM.out] at HW
           refine HW.mono ?_
           rintro _ w7 ⟨⟨q, S', rfl, hn7, hm7⟩, hb7⟩
           have hz6 := HS6.grow.size
           have HS7 := HS6.keep hb7
           have r0 := HS7.r0
           have r1 := HS7.r1
           have v0 := HS7.s0
           have v1 := HS7.s1
           have vf0 := HS7.sf 0
           have rf0 := HS7.rf 0
           have rf1 := HS7.rf 1
           have nsr := HS7.n3
           have HS8 : Hid (Sorted (fun b => ((ok b ∧ b < w.heap.size) ∨ w4.heap.size ≤ b) ∨ w6.heap.size ≤ b) w (w7.setCell ⟨w.heap.size, 0, none⟩ (.pointer (some ⟨q, 0, none⟩))) (some ⟨q, 0, none⟩) g S' ob w.heap.size w1.heap.size) := HS7.put1 hn7 HS6.apart2
           have HMM : Hid (∀ x, x ∈ S' ↔ x ∈ S ∨ x ∈ srt O) := hm7
           clear HW HS6 HA6' HS7 hn7 hm7 HS6' HA6 t0 t1 tf0 tf1 HS4' HA4'))
      exact HS8.out.done rfl (RSet.mk hg4 · (fun x hx => ((HMM.out x).1 hx).elim (hR.h32 x) (fun h' => h32 x ((srt_mem O x).1 h')))) (fun b hb => by
        rcases hb with (hb | hb) | hb
        · exact Or.inl hb.1
        · exact Or.inr (Nat.le_trans hz4 hb)
        · exact Or.inr (Nat.le_trans hz6 hb)) (fun x => by rw [HMM.out x, srt_mem])
end Go.Proofs.Qxb6609120aDoor
