/-
  THE WALK's MEMORY: the addedWalk struct (block wb), the variable that gathers (block gb), their rows; what the walk leaves as it was.
-/
import Derived.Test.Qxb6609120aDoorPart
import Derived.Deep.AppendLies
namespace Go.Proofs.Qxb6609120aDoor
open Go.RowKit
open Plain (Srt Asc asc_ext)
set_option linter.unusedVariables false

/-- What is 'ok' stands as it stood. -/
structure Fr (ok : Nat → Prop) (w w' : World) : Prop where
  os : w'.os = w.os
  tape : w'.tape = w.tape
  output : w'.output = w.output
  size : w.heap.size ≤ w'.heap.size
  block : ∀ k, ok k → w'.heap[k]? = w.heap[k]?
theorem Fr.refl (ok : Nat → Prop) (w : World) : Fr ok w w := ⟨rfl, rfl, rfl, Nat.le_refl _, fun _ _ => rfl⟩
theorem Fr.trans {ok : Nat → Prop} {a b c : World} (h : Fr ok a b) (h' : Fr ok b c) : Fr ok a c :=
  ⟨h'.os.trans h.os, h'.tape.trans h.tape, h'.output.trans h.output, Nat.le_trans h.size h'.size, fun k hk => (h'.block k hk).trans (h.block k hk)⟩
theorem Fr.narrow {ok ok' : Nat → Prop} {a b : World} (h : Fr ok a b) (ho : ∀ k, ok' k → ok k) : Fr ok' a b := ⟨h.os, h.tape, h.output, h.size, fun k hk => h.block k (ho k hk)⟩
theorem Fr.of_below {ok : Nat → Prop} {a b : World} (h : Below a.heap.size a b) (hlt : ∀ k, ok k → k < a.heap.size) : Fr ok a b := ⟨h.os, h.tape, h.output, h.size, fun k hk => h.block k (hlt k hk)⟩
theorem Node.fr {ok : Nat → Prop} {h : Nat} {w w' : World} {base : Nat} {p : Option Addr} {S : List Int} (H : Node ok h w base p S) (hf : Fr ok w w') : Node ok h w' base p S := H.go (fun b hb _ => hf.block b hb) (fun b hb _ => hb)

theorem owns_move {w w' : World} {B n : Nat} {e : TypeId} {v : Value} {xs : List Value} (h : w.ownsRow B e 1 v n xs) (hm : ∀ k, v.ownBlock = some k → w'.heap[k]? = w.heap[k]?) : w'.ownsRow B e 1 v n xs := by
  refine ⟨h.1, ?_⟩
  rcases h.2 with h0 | ⟨g, cap, cur, rfl, hb, hg, hr⟩
  · exact .inl h0
  · exact .inr ⟨g, cap, cur, rfl, hb, by rw [hm g rfl]; exact hg, hr⟩
theorem owns_ge {w : World} {B n : Nat} {e : TypeId} {v : Value} {xs : List Value} (h : w.ownsRow B e 1 v n xs) : ∀ k, v.ownBlock = some k → B ≤ k ∧ k < w.heap.size := h.lt
theorem owns_ne {w : World} {B n m : Nat} {e e' : TypeId} {v u : Value} {xs ys : List Value} (h : w.ownsRow B e 1 v n xs) (h' : w.ownsRow B e' 1 u m ys) (hne : e ≠ e') : ∀ k, v.ownBlock = some k → u.ownBlock ≠ some k := by
  intro k hk hk'
  rcases h.2 with ⟨rfl, _⟩ | ⟨g, cap, cur, rfl, _, hg, _⟩
  · cases hk
  · rcases h'.2 with ⟨rfl, _⟩ | ⟨g', cap', cur', rfl, _, hg', _⟩
    · cases hk'
    · have e1 : g = k := Option.some.inj hk
      have e2 : g' = k := Option.some.inj hk'
      subst e1
      subst e2
      rw [hg] at hg'
      simp at hg'
      exact hne hg'.2
/-- The own room, emptied. -/
theorem owns_emptied {w : World} {B n : Nat} {e : TypeId} {a : Option Addr} {m cap : Nat} {xs : List Value} (h : w.ownsRow B e 1 (.slice a m cap) n xs) : w.ownsRow B e 1 (.slice a 0 cap) 0 [] := by
  refine ⟨rfl, ?_⟩
  rcases h.2 with ⟨h0, _⟩ | ⟨g, c, cur, hv, hb, hg, hn, hc, hs, _⟩
  · cases h0
    exact .inl ⟨rfl, rfl⟩
  · cases hv
    exact .inr ⟨g, cap, cur, rfl, hb, hg, Nat.zero_le _, hc, hs, by simp⟩

/-- The memory. f is 2 or 3: the two rooms. -/
structure WkV (wb gb B : Nat) (ok : Nat → Prop) (w : World) (Y : List Int) (b : Int) (v0 : Value) (v : Nat → Value) (l : Nat → List Int) : Prop where
  c0 : w.cell? ⟨wb, 0, none⟩ = some (.func (.func 36) #[] #[.pointer (some ⟨gb, 0, none⟩)])
  c1 : w.cell? ⟨wb, 1, none⟩ = some (.int .i64 b)
  fw : ∀ i, w.frozen? ⟨wb, i, none⟩ = false
  fg : w.frozen? ⟨gb, 0, none⟩ = false
  ne : wb ≠ gb
  lw : wb < B
  lg : gb < B
  lB : B ≤ w.heap.size
  lt : ∀ k, ok k → k < w.heap.size
  okT : ok (Tryd.lays29_ren.g 1)
  tab : Tab w
  g : w.cell? ⟨gb, 0, none⟩ = some v0
  o0 : w.ownsRow B 2 1 v0 Y.length (Y.map (Value.int .i64))
  r : ∀ f, f = 2 ∨ f = 3 → w.cell? ⟨wb, f, none⟩ = some (v f)
  o : ∀ f, f = 2 ∨ f = 3 → w.ownsRow B 109 1 (v f) (l f).length ((l f).map (Value.int .u32))
  d : ∀ k, (v 2).ownBlock = some k → (v 3).ownBlock ≠ some k
  aw : ∀ k, ok k → k ≠ wb ∧ k ≠ gb
  a0 : ∀ k, ok k → v0.ownBlock ≠ some k
  a : ∀ f, f = 2 ∨ f = 3 → ∀ k, ok k → (v f).ownBlock ≠ some k
def Wk (wb gb B : Nat) (ok : Nat → Prop) (w : World) (Y : List Int) (b : Int) : Prop := ∃ v0 v l, WkV wb gb B ok w Y b v0 v l

theorem Tab.move {w w' : World} (h : Tab w) (e : w'.heap[Tryd.lays29_ren.g 1]? = w.heap[Tryd.lays29_ren.g 1]?) : Tab w' := fun j hj => by rw [cell_moved e]; exact h j hj
section
variable {wb gb B : Nat} {ok : Nat → Prop} {w : World} {Y : List Int} {b : Int} {v0 : Value} {v : Nat → Value} {l : Nat → List Int}
theorem WkV.ltw (H : WkV wb gb B ok w Y b v0 v l) : wb < w.heap.size := World.block_lt_of_cell? w _ H.c0
theorem WkV.ltg (H : WkV wb gb B ok w Y b v0 v l) : gb < w.heap.size := World.block_lt_of_cell? w _ H.g
/-- New blocks only; what is ok may be widened by new blocks. -/
theorem WkV.grow {ok' : Nat → Prop} {w' : World} (H : WkV wb gb B ok w Y b v0 v l) (hb : Below w.heap.size w w') (ho : ∀ k, ok' k → ok k ∨ w.heap.size ≤ k ∧ k < w'.heap.size) (hT : ok' (Tryd.lays29_ren.g 1)) : WkV wb gb B ok' w' Y b v0 v l where
  c0 := cell_below hb H.c0
  c1 := cell_below hb H.c1
  fw := fun i => (frozen_moved (hb.block wb H.ltw) i).trans (H.fw i)
  fg := (frozen_moved (hb.block gb H.ltg) 0).trans H.fg
  ne := H.ne
  lw := H.lw
  lg := H.lg
  lB := Nat.le_trans H.lB hb.size
  lt := fun k hk => (ho k hk).elim (fun h => Nat.lt_of_lt_of_le (H.lt k h) hb.size) (fun h => h.2)
  okT := hT
  tab := H.tab.keep hb
  g := cell_below hb H.g
  o0 := owns_move H.o0 (fun k hk => hb.block k (owns_ge H.o0 k hk).2)
  r := fun f hf => cell_below hb (H.r f hf)
  o := fun f hf => owns_move (H.o f hf) (fun k hk => hb.block k (owns_ge (H.o f hf) k hk).2)
  d := H.d
  aw := fun k hk => (ho k hk).elim (H.aw k) (fun h => ⟨fun e => by have := H.ltw; omega, fun e => by have := H.ltg; omega⟩)
  a0 := fun k hk e => (ho k hk).elim (fun h => H.a0 k h e) (fun h => by have := (owns_ge H.o0 k e).2; omega)
  a := fun f hf k hk e => (ho k hk).elim (fun h => H.a f hf k h e) (fun h => by have := (owns_ge (H.o f hf) k e).2; omega)
theorem WkV.keep {w' : World} (H : WkV wb gb B ok w Y b v0 v l) (hb : Below w.heap.size w w') : WkV wb gb B ok w' Y b v0 v l := H.grow hb (fun k hk => .inl hk) H.okT
theorem WkV.narrow {ok' : Nat → Prop} (H : WkV wb gb B ok w Y b v0 v l) (ho : ∀ k, ok' k → ok k) (hT : ok' (Tryd.lays29_ren.g 1)) : WkV wb gb B ok' w Y b v0 v l := H.grow (Below.refl _ _) (fun k hk => .inl (ho k hk)) hT
theorem Wk.grow {ok' : Nat → Prop} {w' : World} (H : Wk wb gb B ok w Y b) (hb : Below w.heap.size w w') (ho : ∀ k, ok' k → ok k ∨ w.heap.size ≤ k ∧ k < w'.heap.size) (hT : ok' (Tryd.lays29_ren.g 1)) : Wk wb gb B ok' w' Y b := by
  obtain ⟨v0, v, l, H⟩ := H
  exact ⟨v0, v, l, H.grow hb ho hT⟩
theorem Wk.keep {w' : World} (H : Wk wb gb B ok w Y b) (hb : Below w.heap.size w w') : Wk wb gb B ok w' Y b := by
  obtain ⟨v0, v, l, H⟩ := H
  exact ⟨v0, v, l, H.keep hb⟩
theorem Wk.lt (H : Wk wb gb B ok w Y b) : ∀ k, ok k → k < w.heap.size := by
  obtain ⟨v0, v, l, H⟩ := H
  exact H.lt
theorem Wk.okT (H : Wk wb gb B ok w Y b) : ok (Tryd.lays29_ren.g 1) := by
  obtain ⟨v0, v, l, H⟩ := H
  exact H.okT
theorem Wk.tab (H : Wk wb gb B ok w Y b) : Tab w := by
  obtain ⟨v0, v, l, H⟩ := H
  exact H.tab
theorem Wk.c0 (H : Wk wb gb B ok w Y b) : w.cell? ⟨wb, 0, none⟩ = some (.func (.func 36) #[] #[.pointer (some ⟨gb, 0, none⟩)]) := by
  obtain ⟨v0, v, l, H⟩ := H
  exact H.c0
theorem Wk.c1 (H : Wk wb gb B ok w Y b) : w.cell? ⟨wb, 1, none⟩ = some (.int .i64 b) := by
  obtain ⟨v0, v, l, H⟩ := H
  exact H.c1
theorem Wk.fw (H : Wk wb gb B ok w Y b) : ∀ i, w.frozen? ⟨wb, i, none⟩ = false := by
  obtain ⟨v0, v, l, H⟩ := H
  exact H.fw
theorem Wk.narrow {ok' : Nat → Prop} (H : Wk wb gb B ok w Y b) (ho : ∀ k, ok' k → ok k) (hT : ok' (Tryd.lays29_ren.g 1)) : Wk wb gb B ok' w Y b := H.grow (Below.refl _ _) (fun k hk => .inl (ho k hk)) hT
/-- A store into the struct: what else stands. -/
theorem WkV.setW (H : WkV wb gb B ok w Y b v0 v l) (i : Nat) (x : Value) : Fr ok w (w.setCell ⟨wb, i, none⟩ x) :=
  ⟨rfl, rfl, rfl, by simp, fun k hk => Below.heap_setCell _ _ _ _ (fun e => (H.aw k hk).1 e)⟩
/-- below := b'. -/
theorem WkV.setB (H : WkV wb gb B ok w Y b v0 v l) (b' : Int) : WkV wb gb B ok (w.setCell ⟨wb, 1, none⟩ (.int .i64 b')) Y b' v0 v l where
  c0 := by rw [World.cell?_setCell_other _ _ _ _ (by simp)]; exact H.c0
  c1 := World.cell?_setCell_same _ _ _ H.c1
  fw := fun i => by rw [World.frozen?_setCell]; exact H.fw i
  fg := by rw [World.frozen?_setCell]; exact H.fg
  ne := H.ne
  lw := H.lw
  lg := H.lg
  lB := by simpa using H.lB
  lt := fun k hk => by simpa using H.lt k hk
  okT := H.okT
  tab := H.tab.move ((H.setW 1 _).block _ H.okT)
  g := by rw [World.cell?_setCell_other _ _ _ _ (by intro e; exact H.ne (by injection e))]; exact H.g
  o0 := owns_move H.o0 (fun k hk => Below.heap_setCell _ _ _ _ (fun e => by have e : k = wb := e; have := (owns_ge H.o0 k hk).1; have := H.lw; omega))
  r := fun f hf => by rw [World.cell?_setCell_other _ _ _ _ (by intro e; injection e with _ e2; omega)]; exact H.r f hf
  o := fun f hf => owns_move (H.o f hf) (fun k hk => Below.heap_setCell _ _ _ _ (fun e => by have e : k = wb := e; have := (owns_ge (H.o f hf) k hk).1; have := H.lw; omega))
  d := H.d
  aw := H.aw
  a0 := H.a0
  a := H.a
end
end Go.Proofs.Qxb6609120aDoor
