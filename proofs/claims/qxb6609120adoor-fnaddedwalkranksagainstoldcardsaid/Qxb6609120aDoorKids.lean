/-
  The 64 children of an inner node; the closures that fill them.
-/
import Derived.Test.Qxb6609120aDoorWith1
namespace Go.Proofs.Qxb6609120aDoor
open Go.RowKit
open Plain (Srt Asc)
set_option linter.unusedVariables false

def kcells (K : Nat → Option Addr) : List Value := (List.range 64).map fun i => Value.pointer (K i)
theorem kcells_length (K : Nat → Option Addr) : (kcells K).length = 64 := by simp [kcells]
theorem kcells_at (K : Nat → Option Addr) (i : Nat) (h : i < 64) : (kcells K)[i]? = some (.pointer (K i)) := by simp [kcells, h]
theorem size106 : (Tryd.prog.info? 106).map (·.size) = some 64 := by kernel_rfl
structure NewK (w w' : World) : Prop where
  size : w'.heap.size = w.heap.size + 1
  kids : Kids w' w.heap.size (fun _ => none)
  warm : Warm w' w.heap.size
  below : Below w.heap.size w w'
theorem nones64 : (#[Value.pointer none, .pointer none, .pointer none, .pointer none, .pointer none, .pointer none, .pointer none, .pointer none, .pointer none, .pointer none, .pointer none, .pointer none, .pointer none, .pointer none, .pointer none, .pointer none, .pointer none, .pointer none, .pointer none, .pointer none, .pointer none, .pointer none, .pointer none, .pointer none, .pointer none, .pointer none, .pointer none, .pointer none, .pointer none, .pointer none, .pointer none, .pointer none, .pointer none, .pointer none, .pointer none, .pointer none, .pointer none, .pointer none, .pointer none, .pointer none, .pointer none, .pointer none, .pointer none, .pointer none, .pointer none, .pointer none, .pointer none, .pointer none, .pointer none, .pointer none, .pointer none, .pointer none, .pointer none, .pointer none, .pointer none, .pointer none, .pointer none, .pointer none, .pointer none, .pointer none, .pointer none, .pointer none, .pointer none, .pointer none] : Array Value) = Array.replicate 64 (.pointer none) := rfl
theorem run_alloc106 (w : World) : (Instr.alloc 106 true (.tuple #[])).run Tryd.prog w = .ok (.pointer (some ⟨w.heap.size, 0, none⟩)) (w.alloc (.cells (Array.replicate 64 (.pointer none)) 106)) := by
  rw [← nones64]
  simp [Instr.alloc, Tryd.zeroValue106, go_sem]
theorem newK (w : World) : NewK w (w.alloc (.cells (Array.replicate 64 (.pointer none)) 106)) where
  size := by simp
  kids := fun i hi => by simp [hi]
  warm := ⟨fun i hi => by simp⟩
  below := (Below.refl _ _).alloc (Nat.le_refl _) _
theorem wpList_alloc106 {ops : Array Oper} {rest : List Oper} {o : Oper} {a : Act} {w : World} {Q : Exit → Act → World → Prop} (hgd : o.guard = none) (ho : o.op = Op.alloc 106)
    (h : ∀ w', NewK w w' → wpList Tryd.prog ops Q rest (a.put o.dst (.pointer (some ⟨w.heap.size, 0, none⟩))) w') : wpList Tryd.prog ops Q (o :: rest) a w := by
  refine wpList_plain hgd fun K hK => ?_
  unfold Oper.wp
  simp [execOp, ho, run_alloc106, Result.andThen]
  exact hK _ _ (h _ (newK w))
theorem Kids.range {w : World} {kb : Nat} {K : Nat → Option Addr} (h : Kids w kb K) : w.rangeAt kb 0 (kcells K) := fun j v hj => by
  have hj' : j < 64 := by have := (List.getElem?_eq_some_iff.1 hj).1; simpa [kcells_length] using this
  rw [kcells_at K j hj'] at hj
  rw [Nat.zero_add, h j hj', hj]

/-- Where the inner node that is being filled lies: its height's variable, its struct's variable, the struct, the children. -/
structure Lie (w : World) (hb kb cb vb : Nat) : Prop where
  h1 : w.heap.size ≤ hb
  h2 : w.heap.size ≤ kb
  h3 : w.heap.size ≤ cb
  h4 : w.heap.size ≤ vb
  n1 : hb ≠ kb
  n2 : cb ≠ kb
  n3 : vb ≠ kb

/-- The inner node while it is filled: it holds those that meet T. -/
structure Inn (ok : Nat → Prop) (h : Nat) (w w' : World) (base hb kb cb vb : Nat) (T : Int → Prop) : Prop where
  below : Below w.heap.size w w'
  hcell : w'.cell? ⟨hb, 0, none⟩ = some (.int .i64 ((h : Int) + 1))
  vcell : w'.cell? ⟨vb, 0, none⟩ = some (.pointer (some ⟨cb, 0, none⟩))
  node : NCell w' cb (some ⟨kb, 0, none⟩) none (.slice none 0 0)
  warm : Warm w' kb
  kids : ∃ (K : Nat → Option Addr) (L : Nat → List Int), Kids w' kb K ∧ (∀ i, i < 64 → Node (fun b => (ok b ∨ w.heap.size ≤ b) ∧ b ≠ kb) h w' (base + i * spn h) (K i) (L i)) ∧ ∀ x, (∃ i, i < 64 ∧ x ∈ L i) ↔ T x

/-- One child is set: in a world that differs in the children's block alone from one that has grown. -/
theorem Inn.set {ok : Nat → Prop} {h : Nat} {w w1 w2 : World} {base hb kb cb vb : Nat} {T' : Int → Prop} (lie : Lie w hb kb cb vb) {K : Nat → Option Addr} {L : Nat → List Int} (hbl : Below w.heap.size w w1) (hh : w1.cell? ⟨hb, 0, none⟩ = some (.int .i64 ((h : Int) + 1)))
    (hv : w1.cell? ⟨vb, 0, none⟩ = some (.pointer (some ⟨cb, 0, none⟩))) (hn : NCell w1 cb (some ⟨kb, 0, none⟩) none (.slice none 0 0)) (hwm : Warm w1 kb) (hK : Kids w1 kb K)
    (hN : ∀ i, i < 64 → Node (fun b => (ok b ∨ w.heap.size ≤ b) ∧ b ≠ kb) h w1 (base + i * spn h) (K i) (L i))
    (hb2 : Below w1.heap.size w1 w2) (i : Nat) (hi : i < 64) (q : Option Addr) (S : List Int) (hq : Node (fun b => (ok b ∨ w.heap.size ≤ b) ∧ b ≠ kb) h w2 (base + i * spn h) q S)
    (hT : ∀ x, (x ∈ S ∨ ∃ j, j < 64 ∧ j ≠ i ∧ x ∈ L j) ↔ T' x) : Inn ok h w (w2.setCell ⟨kb, i, none⟩ (.pointer q)) base hb kb cb vb T' := by
  have hkb : kb < w1.heap.size := hK.lt
  have hK2 : Kids w2 kb K := hK.keep hb2
  have hst : ∀ b, b ≠ kb → (w2.setCell ⟨kb, i, none⟩ (.pointer q)).heap[b]? = w2.heap[b]? := fun b hne => by
    rw [Below.heap_setCell _ _ _ _ (by intro e; exact hne e)]
  refine ⟨(hbl.trans (hb2.mono hbl.size)).setCell lie.h2 _, ?_, ?_, ?_, ⟨fun j hj => ?_⟩, fun j => if j = i then q else K j, fun j => if j = i then S else L j, fun j hj => ?_, fun j hj => ?_, fun x => ?_⟩
  · rw [cell_moved (hst _ lie.n1)]; exact cell_below hb2 hh
  · rw [cell_moved (hst _ lie.n3)]; exact cell_below hb2 hv
  · exact (hn.keep hb2).move (hst _ lie.n2)
  · rw [World.frozen?_setCell]; exact (hwm.keep hkb hb2).warm j hj
  · by_cases e : j = i
    · subst e
      rw [World.cell?_setCell_same _ _ _ (hK2 j hj)]; simp
    · rw [World.cell?_setCell_other _ _ _ _ (by simp <;> omega), hK2 j hj]; simp [e]
  · by_cases e : j = i
    · subst e
      simp only [if_true]
      exact hq.go (fun b ho _ => hst b ho.2) (fun b ho _ => ho)
    · simp only [if_neg e]
      exact ((hN j hj).keep hb2).go (fun b ho _ => hst b ho.2) (fun b ho _ => ho)
  · rw [← hT x]
    constructor
    · rintro ⟨j, hj, hx⟩
      by_cases e : j = i
      · subst e; simp only [if_true] at hx; exact Or.inl hx
      · simp only [if_neg e] at hx; exact Or.inr ⟨j, hj, e, hx⟩
    · rintro (hx | ⟨j, hj, e, hx⟩)
      · exact ⟨i, hi, by simpa using hx⟩
      · exact ⟨j, hj, by simpa [e] using hx⟩

theorem take_part (M : List Int) {m n : Nat} (h : m < n) : M.take n = M.take m ++ (M.drop m).take (n - m) := by
  have e : n = m + (n - m) := by omega
  rw [e, List.take_add]; simp
theorem wrap_h (h : Nat) (hh : h ≤ 4) : IntKind.i64.wrap (h : Int) = (h : Int) := by rw [IntKind.wrap_i64]; omega
/-- What is held while a child is made. -/
theorem c1_start {w1 : World} {vb cb kb hb : Nat} {n : Int} (hv : w1.cell? ⟨vb, 0, none⟩ = some (.pointer (some ⟨cb, 0, none⟩))) (hk : w1.cell? ⟨cb, 0, none⟩ = some (.pointer (some ⟨kb, 0, none⟩))) (hh : w1.cell? ⟨hb, 0, none⟩ = some (.int .i64 n)) :
    w1.drew.cell? ⟨vb, 0, none⟩ = some (.pointer (some ⟨cb, 0, none⟩)) ∧ w1.drew.cell? ⟨cb, 0, none⟩ = some (.pointer (some ⟨kb, 0, none⟩)) ∧ w1.drew.cell? ⟨hb, 0, none⟩ = some (.int .i64 n) := ⟨hv, hk, hh⟩
theorem c1_call {w w' : World} {vb cb kb hb : Nat} {n : Int} (h : w.cell? ⟨vb, 0, none⟩ = some (.pointer (some ⟨cb, 0, none⟩)) ∧ w.cell? ⟨cb, 0, none⟩ = some (.pointer (some ⟨kb, 0, none⟩)) ∧ w.cell? ⟨hb, 0, none⟩ = some (.int .i64 n)) (hb' : Below w.heap.size w w') :
    w'.cell? ⟨vb, 0, none⟩ = some (.pointer (some ⟨cb, 0, none⟩)) ∧ w'.cell? ⟨cb, 0, none⟩ = some (.pointer (some ⟨kb, 0, none⟩)) ∧ w'.cell? ⟨hb, 0, none⟩ = some (.int .i64 n) := ⟨cell_below hb' h.1, cell_below hb' h.2.1, cell_below hb' h.2.2⟩
theorem c1_store {w : World} {vb cb kb hb i : Nat} {n : Int} {v : Value} (n1 : hb ≠ kb) (n2 : cb ≠ kb) (n3 : vb ≠ kb) (h : w.cell? ⟨vb, 0, none⟩ = some (.pointer (some ⟨cb, 0, none⟩)) ∧ w.cell? ⟨cb, 0, none⟩ = some (.pointer (some ⟨kb, 0, none⟩)) ∧ w.cell? ⟨hb, 0, none⟩ = some (.int .i64 n)) :
    (w.setCell ⟨kb, i, none⟩ v).cell? ⟨vb, 0, none⟩ = some (.pointer (some ⟨cb, 0, none⟩)) ∧ (w.setCell ⟨kb, i, none⟩ v).cell? ⟨cb, 0, none⟩ = some (.pointer (some ⟨kb, 0, none⟩)) ∧ (w.setCell ⟨kb, i, none⟩ v).cell? ⟨hb, 0, none⟩ = some (.int .i64 n) :=
  ⟨by rw [World.cell?_setCell_other _ _ _ _ (by simp <;> omega)]; exact h.1, by rw [World.cell?_setCell_other _ _ _ _ (by simp <;> omega)]; exact h.2.1, by rw [World.cell?_setCell_other _ _ _ _ (by simp <;> omega)]; exact h.2.2⟩

set_option maxRecDepth 10000 in
theorem with1_any (ok : Nat → Prop) (h base hb kb cb vb : Nat) (w w1 : World) (lie : Lie w hb kb cb vb) (M : List Int) (lb lo : Nat) (hM : Asc M) (hrow : At .u32 w lb lo M) (hne : M ≠ []) (h32 : ∀ x ∈ M, 0 ≤ x ∧ x < 4294967296) (hfew : M.length ≤ 1024) (hh4 : h ≤ 4)
    (m n i cp : Nat) (hi : i < 64) (hp : Part M base (spn h) m n i) (hcp : n - m ≤ cp) (hI : Inn ok h w w1 base hb kb cb vb (fun x => x ∈ M.take m)) (c : Int) :
    Calls Tryd.prog 75 #[.int .i64 (i : Nat), .int .i64 c, .slice (some ⟨lb, lo + m, none⟩) (n - m) cp, .pointer (some ⟨hb, 0, none⟩), .pointer (some ⟨vb, 0, none⟩)] w1 fun e w' => e = .returned (.tuple #[]) ∧ Inn ok h w w' base hb kb cb vb (fun x => x ∈ M.take n) := by
  obtain ⟨K, L, hK, hN, hT⟩ := hI.kids
  have hv := hI.vcell
  have hk := hI.node.kids
  have hh := hI.hcell
  have hf := hI.warm.warm i hi
  have hki := hK i hi
  have hkb := hK.lt
  have n1 := lie.n1
  have n2 := lie.n2
  have n3 := lie.n3
  have hple := hp.le
  have hwr := wrap_h h hh4
  have hii : ((i : Nat) : Int) < 64 := by omega
  have hi0 : (0 : Int) ≤ (i : Nat) := by omega
  have hpl : ((M.drop m).take (n - m)).length = n - m := by have := hp.le; have := hp.lt; simp; omega
  have hpn : (M.drop m).take (n - m) ≠ [] := by intro e; rw [e] at hpl; have := hp.lt; simp at hpl; omega
  have hpr : Ran ((M.drop m).take (n - m)) (base + i * spn h) (base + i * spn h + spn h) := ⟨List.Pairwise.sublist ((List.take_sublist _ _).trans (List.drop_sublist _ _)) hM, hp.lo, hp.hi⟩
  have HC : Hid (∀ w2, Below w1.heap.size w1 w2 → Calls Tryd.prog 76 #[.int .i64 (h : Nat), .slice (some ⟨lb, lo + m, none⟩) (n - m) cp] w2 fun e w' => ∃ g, e = .returned (.pointer (some ⟨g, 0, none⟩)) ∧ Node (fun b => w2.heap.size ≤ b) h w' (base + i * spn h) (some ⟨g, 0, none⟩) ((M.drop m).take (n - m)) ∧ Below w2.heap.size w2 w') := fun w2 hb2 => by
    have := nodeHolding_any h (base + i * spn h) lb (lo + m) cp ((M.drop m).take (n - m)) w2 ((((hrow.keep hI.below).keep hb2).drop m).take _) hpn hpr (fun x hx => (h32 x (List.mem_of_mem_drop (List.mem_of_mem_take hx))).2) (by omega) (by omega)
    rw [hpl] at this
    exact this
  have HF : Hid (∀ w4 g, Node (fun b => w1.drew.heap.size ≤ b) h w4 (base + i * spn h) (some ⟨g, 0, none⟩) ((M.drop m).take (n - m)) → Below w1.drew.heap.size w1.drew w4 → Inn ok h w (w4.setCell ⟨kb, i, none⟩ (.pointer (some ⟨g, 0, none⟩))) base hb kb cb vb (fun x => x ∈ M.take n)) := fun w4 g hg hb4 => by
    have hb4' : Below w1.heap.size w1 w4 := (Below.refl _ _).drew.trans hb4
    refine Inn.set lie hI.below hI.hcell hI.vcell hI.node hI.warm hK hN hb4' i hi _ _ (hg.wide fun b hb => ?_) fun x => ?_
    · have hb : w1.heap.size ≤ b := hb
      exact ⟨Or.inr (Nat.le_trans hI.below.size hb), by omega⟩
    · rw [take_part M hp.lt, List.mem_append, ← hT x, or_comm]
      refine or_congr ?_ Iff.rfl
      constructor
      · rintro ⟨j, hj, _, hx⟩; exact ⟨j, hj, hx⟩
      · rintro ⟨j, hj, hx⟩
        refine ⟨j, hj, fun e => ?_, hx⟩
        subst e
        have h1 := (hN j hj).ran.lo x hx
        have h2 := hp.before x ((hT x).1 ⟨j, hj, hx⟩)
        omega
  clear hpl hpn hpr hK hN hT
  go_enter Tryd.func75, Tryd.ntmps75
  go_wp2_with fail
  go_region_held3 (fun w' => w'.cell? ⟨vb, 0, none⟩ = some (.pointer (some ⟨cb, 0, none⟩)) ∧ w'.cell? ⟨cb, 0, none⟩ = some (.pointer (some ⟨kb, 0, none⟩)) ∧ w'.cell? ⟨hb, 0, none⟩ = some (.int .i64 ((h : Int) + 1)))
    (first | (with_reducible exact c1_start hv hk hh) | (with_reducible refine c1_store n1 n2 n3 ?_; assumption) | (refine c1_call ?_ hb4; assumption))
    ((go_at_call 76; refine (HC.out _ (Below.refl _ _).drew).mono ?_; rintro _ w4 ⟨g, rfl, hV, hb4⟩; have hki4 : w4.cell? ⟨kb, i, none⟩ = some (.pointer (K i)) := cell_below hb4 hki; have hf4 : w4.frozen? ⟨kb, i, none⟩ = false := (hb4.frozen (p := ⟨kb, i, none⟩) hkb).trans hf))
  go_wp2_with fail
  go_end0
  exact ⟨rfl, HF.out w4 g hV hb4⟩
end Go.Proofs.Qxb6609120aDoor
