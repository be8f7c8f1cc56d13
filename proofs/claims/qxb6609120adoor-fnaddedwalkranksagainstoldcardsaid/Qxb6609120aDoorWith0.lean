/-
  rowNode.with: the list, the leaf.
-/
import Derived.Test.Qxb6609120aDoorHold
import Derived.Deep.RegionHeld3
namespace Go.Proofs.Qxb6609120aDoor
open Go.RowKit
open Plain (Srt Asc)
set_option linter.unusedVariables false

/-- The ordinals that are handed to with: ordered, in the node's span. -/
structure Ords (w : World) (base h : Nat) (ob oo cap : Nat) (O : List Int) : Prop where
  srt : Srt O
  ne : O ≠ []
  lo : ∀ x ∈ O, (base : Int) ≤ x
  hi : ∀ x ∈ O, x < ((base + spn h : Nat) : Int)
  h32 : ∀ x ∈ O, x < 4294967296
  row : At .i64 w ob oo O
  cap : O.length ≤ cap
  len : O.length ≤ 1048576
theorem Ords.keep {w w' : World} {base h ob oo cap : Nat} {O : List Int} (H : Ords w base h ob oo cap O) (hb : Below w.heap.size w w') : Ords w' base h ob oo cap O :=
  ⟨H.srt, H.ne, H.lo, H.hi, H.h32, H.row.keep hb, H.cap, H.len⟩
theorem Ords.zero {w : World} {base h ob oo cap : Nat} {O : List Int} (H : Ords w base h ob oo cap O) : ∀ x ∈ O, 0 ≤ x ∧ x < 4294967296 := fun x hx => ⟨by have := H.lo x hx; omega, H.h32 x hx⟩

/-- What with hands back. -/
structure Out (ok : Nat → Prop) (h : Nat) (w w' : World) (base : Nat) (S O : List Int) (e : Ending) : Prop where
  out : ∃ g S', e = .returned (.pointer (some ⟨g, 0, none⟩)) ∧ Node (fun b => ok b ∨ w.heap.size ≤ b) h w' base (some ⟨g, 0, none⟩) S' ∧ ∀ x, x ∈ S' ↔ x ∈ S ∨ x ∈ O
  below : Below w.heap.size w w'

/-! ### New blocks, their facts alone -/
structure NewC (w w' : World) (cs : List Value) : Prop where
  size : w'.heap.size = w.heap.size + 1
  cell : ∀ i v, cs[i]? = some v → w'.cell? ⟨w.heap.size, i, none⟩ = some v
  warm : ∀ i, w'.frozen? ⟨w.heap.size, i, none⟩ = false
  below : Below w.heap.size w w'
  obj : ∃ cs t, w'.heap[w.heap.size]? = some (.cells cs t (0, 0))
theorem newC (w : World) (cs : List Value) (t : TypeId) : NewC w (w.alloc (.cells cs.toArray t)) cs where
  size := by simp
  cell := fun i v h => by simpa using h
  warm := fun i => by simp
  below := (Below.refl _ _).alloc (Nat.le_refl _) _
  obj := ⟨_, _, heap_alloc_new w _⟩
theorem run_box3 (w : World) (n : Int) : (Instr.box 3 (.int .i64 n)).run Tryd.prog w = .ok (.pointer (some ⟨w.heap.size, 0, none⟩)) (w.alloc (.cells #[.int .i64 n] 3)) := by
  simp [Instr.box, go_sem]
theorem run_box88 (w : World) (k ws : Option Addr) (a : Option Addr) (n c : Nat) : (Instr.box 88 (.agg #[.pointer k, .pointer ws, .slice a n c])).run Tryd.prog w = .ok (.pointer (some ⟨w.heap.size, 0, none⟩)) (w.alloc (.cells #[.pointer k, .pointer ws, .slice a n c] 88)) := by
  simp [Instr.box, go_sem]
theorem run_alloc38 (w : World) : (Instr.alloc 38 true (.tuple #[])).run Tryd.prog w = .ok (.pointer (some ⟨w.heap.size, 0, none⟩)) (w.alloc (.cells #[.pointer none] 38)) := by
  simp [Instr.alloc, go_sem]
theorem wpList_box3 {ops : Array Oper} {rest : List Oper} {o : Oper} {a : Act} {w : World} {Q : Exit → Act → World → Prop} (hgd : o.guard = none) (x : Operand) (n : Int) (ho : o.op = Op.box 3 x) (hx : a.eval x = .int .i64 n)
    (h : ∀ w', NewC w w' [.int .i64 n] → wpList Tryd.prog ops Q rest (a.put o.dst (.pointer (some ⟨w.heap.size, 0, none⟩))) w') : wpList Tryd.prog ops Q (o :: rest) a w := by
  refine wpList_plain hgd fun K hK => ?_
  unfold Oper.wp
  simp [execOp, ho, hx, run_box3, Result.andThen]
  exact hK _ _ (h _ (newC w [.int .i64 n] 3))
theorem wpList_box88 {ops : Array Oper} {rest : List Oper} {o : Oper} {a : Act} {w : World} {Q : Exit → Act → World → Prop} (hgd : o.guard = none) (x : Operand) (k ws ad : Option Addr) (n c : Nat) (ho : o.op = Op.box 88 x) (hx : a.eval x = .agg #[.pointer k, .pointer ws, .slice ad n c])
    (h : ∀ w', NewC w w' [.pointer k, .pointer ws, .slice ad n c] → wpList Tryd.prog ops Q rest (a.put o.dst (.pointer (some ⟨w.heap.size, 0, none⟩))) w') : wpList Tryd.prog ops Q (o :: rest) a w := by
  refine wpList_plain hgd fun K hK => ?_
  unfold Oper.wp
  simp [execOp, ho, hx, run_box88, Result.andThen]
  exact hK _ _ (h _ (newC w [.pointer k, .pointer ws, .slice ad n c] 88))
theorem wpList_alloc38 {ops : Array Oper} {rest : List Oper} {o : Oper} {a : Act} {w : World} {Q : Exit → Act → World → Prop} (hgd : o.guard = none) (ho : o.op = Op.alloc 38)
    (h : ∀ w', NewC w w' [.pointer none] → wpList Tryd.prog ops Q rest (a.put o.dst (.pointer (some ⟨w.heap.size, 0, none⟩))) w') : wpList Tryd.prog ops Q (o :: rest) a w := by
  refine wpList_plain hgd fun K hK => ?_
  unfold Oper.wp
  simp [execOp, ho, run_alloc38, Result.andThen]
  exact hK _ _ (h _ (newC w [.pointer none] 38))
theorem NewC.ncell {w w' : World} {k ws : Option Addr} {ls : Value} (h : NewC w w' [.pointer k, .pointer ws, ls]) : NCell w' w.heap.size k ws ls := ⟨h.cell 0 _ rfl, h.cell 1 _ rfl, h.cell 2 _ rfl, h.obj⟩

/-- The list that with reads: n.list where n is a list, nil where n is nil. -/
structure Lst (w : World) (S : List Int) (v : Value) (lb lo : Nat) : Prop where
  rest : Rest lb lo S 0 v
  row : S ≠ [] → At .u32 w lb lo S
theorem Lst.keep {w w' : World} {S : List Int} {v : Value} {lb lo : Nat} (h : Lst w S v lb lo) (hb : Below w.heap.size w w') : Lst w' S v lb lo := ⟨h.rest, fun hne => (h.row hne).keep hb⟩
theorem ListN.rest {w : World} {S : List Int} {b lb lo cap : Nat} (h : ListN w S b lb lo cap) : Rest lb lo S 0 (.slice (some ⟨lb, lo, none⟩) S.length cap) :=
  ⟨some ⟨lb, lo, none⟩, cap, rfl, h.cap, (by intro h; cases h), fun _ => rfl⟩
theorem ran_union {S O U : List Int} {lo hi : Nat} (hS : Ran S lo hi) (hA : Asc U) (hm : ∀ x, x ∈ U ↔ x ∈ S ∨ x ∈ O) (h0 : ∀ x ∈ O, (lo : Int) ≤ x) (h1 : ∀ x ∈ O, x < (hi : Int)) : Ran U lo hi :=
  ⟨hA, fun x hx => ((hm x).1 hx).elim (hS.lo x) (h0 x), fun x hx => ((hm x).1 hx).elim (hS.hi x) (h1 x)⟩

set_option maxRecDepth 10000 in
theorem with_nil_list (ok : Nat → Prop) (h base : Nat) (O : List Int) (ob oo cap : Nat) (w : World) (hO : Ords w base h ob oo cap O) (hle : O.length ≤ lmax h) :
    Calls Tryd.prog 53 #[.pointer none, .int .i64 (h : Nat), .int .i64 (base : Nat), .slice (some ⟨ob, oo, none⟩) O.length cap] w fun e w' => Out ok h w w' base [] O e := by
  have hlm : lmax h ≤ 1024 := by unfold lmax; split <;> omega
  have tok : True := trivial
  go_enter Tryd.func53, Tryd.ntmps53
  go_wp2_with (first
    | (have _t := tok; refine wpList_box3 rfl (.tmp 1) (h : Nat) rfl rfl ?_; intro w1 N1; have hO1 := hO.keep N1.below; have hc1 := N1.cell 0 _ rfl; clear tok _t)
    | (go_at_call 70; refine (holdsList_nil _).mono ?_; rintro _ _ ⟨rfl, hwe⟩; have hwe := hwe.symm; subst hwe)
    | (go_at_call 71; refine (listMax_any h _).mono ?_; rintro _ _ ⟨rfl, hwe⟩; have hwe := hwe.symm; subst hwe)
    | (go_at_call 72
       refine (union_any (.slice none 0 0) 0 0 [] O ob oo cap _ ⟨none, 0, rfl, Nat.le_refl _, fun _ => rfl, fun h => absurd h (by simp)⟩ (fun h => absurd rfl h) List.Pairwise.nil hO1.srt hO1.zero hO1.row (by simp; omega) hO1.cap).mono ?_
       rintro _ w2 ⟨b, c, U, rfl, hat, hUc, hA, hm, hUl, hb2, hg2⟩
       have HM : Hid (∀ x, x ∈ U ↔ x ∈ ([] : List Int) ∨ x ∈ O) := hm
       clear hm)
    | (refine wpList_box88 rfl (.tmp 33) none none (some ⟨b, 0, none⟩) U.length c rfl rfl ?_; intro w3 N3))
  go_ret
  have hne : U ≠ [] := by
    intro h0
    obtain ⟨x, hx⟩ := List.exists_mem_of_ne_nil O hO.ne
    have := (HM.out x).2 (Or.inr hx)
    simp [h0] at this
  have hr : Ran U base (base + spn h) := ran_union ⟨List.Pairwise.nil, by simp, by simp⟩ hA HM.out hO.lo hO.hi
  simp only [List.length_nil, Nat.zero_add] at hUl
  exact ⟨⟨_, U, rfl, Node.list hr ⟨N3.ncell, hne, hUc, by omega, hat.keep N3.below⟩ (Or.inr (Nat.le_trans N1.below.size hb2.size)) (Or.inr (Nat.le_trans N1.below.size hg2)), HM.out⟩, N1.below.trans ((hb2.mono N1.below.size).trans (N3.below.mono (Nat.le_trans N1.below.size hb2.size)))⟩

set_option maxRecDepth 10000 in
theorem with_list_list (ok : Nat → Prop) (h base : Nat) (S O : List Int) (ob oo cap b lb lo lc : Nat) (w : World) (hS : Ran S base (base + spn h)) (hL : ListN w S b lb lo lc) (hO : Ords w base h ob oo cap O) (hle : S.length + O.length ≤ lmax h) :
    Calls Tryd.prog 53 #[.pointer (some ⟨b, 0, none⟩), .int .i64 (h : Nat), .int .i64 (base : Nat), .slice (some ⟨ob, oo, none⟩) O.length cap] w fun e w' => Out ok h w w' base S O e := by
  have hlm : lmax h ≤ 1024 := by unfold lmax; split <;> omega
  have tok : True := trivial
  go_enter Tryd.func53, Tryd.ntmps53
  go_wp2_with (first
    | (have _t := tok; refine wpList_box3 rfl (.tmp 1) (h : Nat) rfl rfl ?_; intro w1 N1; have hO1 := hO.keep N1.below; have hL1 := hL.keep N1.below; have hcl := hL1.cells.list; have hc1 := N1.cell 0 _ rfl; clear tok _t)
    | (go_at_call 70; refine (holdsList_at _ b none none (some ⟨lb, lo, none⟩) S.length lc hL1.cells).mono ?_; rintro _ _ ⟨rfl, hwe⟩; have hwe := hwe.symm; subst hwe)
    | (go_at_call 71; refine (listMax_any h _).mono ?_; rintro _ _ ⟨rfl, hwe⟩; have hwe := hwe.symm; subst hwe)
    | (go_at_call 72
       refine (union_any (.slice (some ⟨lb, lo, none⟩) S.length lc) lb lo S O ob oo cap _ hL1.rest (fun _ => hL1.row) hS.asc hO1.srt hO1.zero hO1.row (by omega) hO1.cap).mono ?_
       rintro _ w2 ⟨g, c, U, rfl, hat, hUc, hA, hm, hUl, hb2, hg2⟩
       have HM : Hid (∀ x, x ∈ U ↔ x ∈ S ∨ x ∈ O) := hm
       clear hm)
    | (refine wpList_box88 rfl (.tmp 33) none none (some ⟨g, 0, none⟩) U.length c rfl rfl ?_; intro w3 N3))
  go_ret
  have hne : U ≠ [] := by
    intro h0
    obtain ⟨x, hx⟩ := List.exists_mem_of_ne_nil O hO.ne
    have := (HM.out x).2 (Or.inr hx)
    simp [h0] at this
  have hr : Ran U base (base + spn h) := ran_union hS hA HM.out hO.lo hO.hi
  exact ⟨⟨_, U, rfl, Node.list hr ⟨N3.ncell, hne, hUc, by omega, hat.keep N3.below⟩ (Or.inr (Nat.le_trans N1.below.size hb2.size)) (Or.inr (Nat.le_trans N1.below.size hg2)), HM.out⟩, N1.below.trans ((hb2.mono N1.below.size).trans (N3.below.mono (Nat.le_trans N1.below.size hb2.size)))⟩
end Go.Proofs.Qxb6609120aDoor
