/-
  THE WALK's MEMORY: a row of it is written anew.
-/
import Derived.Test.Qxb6609120aDoorWk
namespace Go.Proofs.Qxb6609120aDoor
open Go.RowKit
open Plain (Srt Asc asc_ext)
set_option linter.unusedVariables false
section
variable {wb gb B : Nat} {ok : Nat → Prop} {w wa u : World} {Y Y' : List Int} {b : Int} {v0 v' : Value} {v : Nat → Value} {l : Nat → List Int}

/-- The variable that gathers. -/
theorem WkV.put0 (H : WkV wb gb B ok w Y b v0 v l) (hA : Below w.heap.size w wa) (hg : wa.grownBy u v0.ownBlock) (hown : u.ownsRow B 2 1 v' Y'.length (Y'.map (Value.int .i64))) (hat : ∀ k, v'.ownBlock = some k → v0.ownBlock = some k ∨ w.heap.size ≤ k) :
    WkV wb gb B ok (u.setCell ⟨gb, 0, none⟩ v') Y' b v' v l ∧ Fr ok w (u.setCell ⟨gb, 0, none⟩ v') := by
  have bu : ∀ k, k < w.heap.size → v0.ownBlock ≠ some k → u.heap[k]? = w.heap[k]? := fun k hk hne => (hg.block k (Nat.lt_of_lt_of_le hk hA.size) (fun e => hne e.symm)).trans (hA.block k hk)
  have bf : ∀ k, k < w.heap.size → k ≠ gb → v0.ownBlock ≠ some k → (u.setCell ⟨gb, 0, none⟩ v').heap[k]? = w.heap[k]? := fun k hk h1 h2 => (Below.heap_setCell _ _ _ _ (fun e => h1 e)).trans (bu k hk h2)
  have nw : v0.ownBlock ≠ some wb := fun e => by have := (owns_ge H.o0 wb e).1; have := H.lw; omega
  have ng : v0.ownBlock ≠ some gb := fun e => by have := (owns_ge H.o0 gb e).1; have := H.lg; omega
  have ew := bf wb H.ltw H.ne nw
  have eg := bu gb H.ltg ng
  have hfr : Fr ok w (u.setCell ⟨gb, 0, none⟩ v') := ⟨hg.os.trans hA.os, hg.tape.trans hA.tape, hg.output.trans hA.output, by have := hg.size; have := hA.size; simp; omega, fun k hk => bf k (H.lt k hk) (H.aw k hk).2 (H.a0 k hk)⟩
  refine ⟨⟨?_, ?_, fun i => ?_, ?_, H.ne, H.lw, H.lg, ?_, fun k hk => ?_, H.okT, H.tab.move (hfr.block _ H.okT), ?_, ?_, fun f hf => ?_, fun f hf => ?_, H.d, H.aw, fun k hk e => ?_, H.a⟩, hfr⟩
  · rw [cell_moved ew]; exact H.c0
  · rw [cell_moved ew]; exact H.c1
  · rw [frozen_moved ew]; exact H.fw i
  · rw [World.frozen?_setCell, frozen_moved eg]; exact H.fg
  · exact Nat.le_trans H.lB hfr.size
  · exact Nat.lt_of_lt_of_le (H.lt k hk) hfr.size
  · exact World.cell?_setCell_same _ _ _ (by rw [cell_moved eg]; exact H.g)
  · exact owns_move hown (fun k hk => Below.heap_setCell _ _ _ _ (fun e => by have e : k = gb := e; have := (owns_ge hown k hk).1; have := H.lg; omega))
  · rw [cell_moved ew]; exact H.r f hf
  · exact owns_move (H.o f hf) (fun k hk => bf k (owns_ge (H.o f hf) k hk).2 (fun e => by have := (owns_ge (H.o f hf) k hk).1; have := H.lg; omega) (owns_ne (H.o f hf) H.o0 (by decide) k hk))
  · rcases hat k e with h | h
    · exact H.a0 k hk h
    · have := H.lt k hk; omega

/-- One place of a function, turned. -/
def up {α : Type} (g : Nat → α) (f : Nat) (x : α) : Nat → α := fun j => if j = f then x else g j
theorem up_same {α : Type} (g : Nat → α) (f : Nat) (x : α) : up g f x f = x := by simp [up]
theorem up_other {α : Type} (g : Nat → α) {f j : Nat} (x : α) (h : j ≠ f) : up g f x j = g j := by simp [up, h]

/-- A room. -/
theorem WkV.putF {f : Nat} {L' : List Int} (hf : f = 2 ∨ f = 3) (H : WkV wb gb B ok w Y b v0 v l) (hA : Below w.heap.size w wa) (hg : wa.grownBy u (v f).ownBlock) (hown : u.ownsRow B 109 1 v' L'.length (L'.map (Value.int .u32))) (hat : ∀ k, v'.ownBlock = some k → (v f).ownBlock = some k ∨ w.heap.size ≤ k) :
    WkV wb gb B ok (u.setCell ⟨wb, f, none⟩ v') Y b v0 (up v f v') (up l f L') ∧ Fr ok w (u.setCell ⟨wb, f, none⟩ v') := by
  have bu : ∀ k, k < w.heap.size → (v f).ownBlock ≠ some k → u.heap[k]? = w.heap[k]? := fun k hk hne => (hg.block k (Nat.lt_of_lt_of_le hk hA.size) (fun e => hne e.symm)).trans (hA.block k hk)
  have bf : ∀ k, k < w.heap.size → k ≠ wb → (v f).ownBlock ≠ some k → (u.setCell ⟨wb, f, none⟩ v').heap[k]? = w.heap[k]? := fun k hk h1 h2 => (Below.heap_setCell _ _ _ _ (fun e => h1 e)).trans (bu k hk h2)
  have nw : (v f).ownBlock ≠ some wb := fun e => by have := (owns_ge (H.o f hf) wb e).1; have := H.lw; omega
  have ng : (v f).ownBlock ≠ some gb := fun e => by have := (owns_ge (H.o f hf) gb e).1; have := H.lg; omega
  have ew := bu wb H.ltw nw
  have eg := bf gb H.ltg (fun e => H.ne e.symm) ng
  have hfr : Fr ok w (u.setCell ⟨wb, f, none⟩ v') := ⟨hg.os.trans hA.os, hg.tape.trans hA.tape, hg.output.trans hA.output, by have := hg.size; have := hA.size; simp; omega, fun k hk => bf k (H.lt k hk) (H.aw k hk).1 (H.a f hf k hk)⟩
  have hother : ∀ j, j = 2 ∨ j = 3 → j ≠ f → ∀ k, (v j).ownBlock = some k → (v f).ownBlock ≠ some k := fun j hj hne k hk e => by
    rcases hj with rfl | rfl <;> rcases hf with rfl | rfl
    · exact hne rfl
    · exact H.d k hk e
    · exact H.d k e hk
    · exact hne rfl
  refine ⟨⟨?_, ?_, fun i => ?_, ?_, H.ne, H.lw, H.lg, ?_, fun k hk => ?_, H.okT, H.tab.move (hfr.block _ H.okT), ?_, ?_, fun j hj => ?_, fun j hj => ?_, fun k hk => ?_, H.aw, H.a0, fun j hj k hk e => ?_⟩, hfr⟩
  · rw [World.cell?_setCell_other _ _ _ _ (by intro e; injection e with _ e2; omega), cell_moved ew]; exact H.c0
  · rw [World.cell?_setCell_other _ _ _ _ (by intro e; injection e with _ e2; omega), cell_moved ew]; exact H.c1
  · rw [World.frozen?_setCell, frozen_moved ew]; exact H.fw i
  · rw [frozen_moved eg]; exact H.fg
  · exact Nat.le_trans H.lB hfr.size
  · exact Nat.lt_of_lt_of_le (H.lt k hk) hfr.size
  · rw [cell_moved eg]; exact H.g
  · exact owns_move H.o0 (fun k hk => bf k (owns_ge H.o0 k hk).2 (fun e => by have := (owns_ge H.o0 k hk).1; have := H.lw; omega) (owns_ne H.o0 (H.o f hf) (by decide) k hk))
  · by_cases e : j = f
    · subst e
      rw [up_same]
      exact World.cell?_setCell_same _ _ _ (by rw [cell_moved ew]; exact H.r j hj)
    · rw [up_other _ _ e, World.cell?_setCell_other _ _ _ _ (by intro e1; injection e1 with _ e2; omega), cell_moved ew]
      exact H.r j hj
  · by_cases e : j = f
    · subst e
      rw [up_same, up_same]
      exact owns_move hown (fun k hk => Below.heap_setCell _ _ _ _ (fun e => by have e : k = wb := e; have := (owns_ge hown k hk).1; have := H.lw; omega))
    · rw [up_other _ _ e, up_other _ _ e]
      exact owns_move (H.o j hj) (fun k hk => bf k (owns_ge (H.o j hj) k hk).2 (fun e => by have := (owns_ge (H.o j hj) k hk).1; have := H.lw; omega) (hother j hj e k hk))
  · rcases hf with rfl | rfl
    · rw [up_same] at hk
      rw [up_other _ _ (by decide)]
      rcases hat k hk with h | h
      · exact H.d k h
      · intro e; have := (owns_ge (H.o 3 (.inr rfl)) k e).2; omega
    · rw [up_other _ _ (by decide)] at hk
      rw [up_same]
      intro e
      rcases hat k e with h | h
      · exact H.d k hk h
      · have := (owns_ge (H.o 2 (.inl rfl)) k hk).2; omega
  · by_cases e1 : j = f
    · subst e1
      rw [up_same] at e
      rcases hat k e with h | h
      · exact H.a j hj k hk h
      · have := H.lt k hk; omega
    · rw [up_other _ _ e1] at e
      exact H.a j hj k hk e
end

set_option maxRecDepth 10000 in
/-- The walk's yield: the rank is kept, more is asked for. -/
theorem yieldV_any (wb gb B : Nat) (ok : Nat → Prop) (w : World) (Y : List Int) (b x : Int) (v0 : Value) (v : Nat → Value) (l : Nat → List Int) (H : WkV wb gb B ok w Y b v0 v l) (hl : Y.length < 1099511627776) :
    Calls Tryd.prog 36 #[.int .i64 x, .pointer (some ⟨gb, 0, none⟩)] w fun e w' => e = .returned (.bool true) ∧ (∃ v0', WkV wb gb B ok w' (Y ++ [x]) b v0' v l) ∧ Fr ok w w' := by
  obtain ⟨i0, hi, hz0, hz1, hz2⟩ := info_parts info2
  have hc := H.g
  have hf := H.fg
  have hown := H.o0
  have hlB := H.lB
  have hltg := H.ltg
  have hng : some gb ≠ v0.ownBlock := fun e => by have := (owns_ge H.o0 gb e.symm).1; have := H.lg; omega
  have HW : Hid (WkV wb gb B ok w Y b v0 v l) := H
  clear H
  go_enter Tryd.func36, Tryd.ntmps36
  go_wp2_with (at_builtin
               refine wpList_append_lies _ rfl (.tmp 4) (.tmp 6) 35 rfl B 2 i0 (.int .i64 0) 1 8 Tryd.underlying35 hi hz0 hz1 hz2 rfl (by decide) v0 Y.length (Y.map (Value.int .i64)) rfl (hown.alloc _) ⟨w.heap.size, 0, none⟩ 1 1 [.int .i64 x] rfl rfl (one_new w _ 2) (one_cell1 rfl) (by decide) (by unfold maxLen; omega) (by omega) (by simp; omega) _ rfl ?_
               intro g5 cap5 w5 hown5 hg5 hat5 hlt5
               have hblk : w5.heap[gb]? = w.heap[gb]? := (hg5.block gb (show gb < (w.alloc (.cells #[.int .i64 x] 2)).heap.size by simp; omega) hng).trans (((Below.refl w.heap.size w).alloc (Nat.le_refl _) _).block gb hltg)
               have hc5 : w5.cell? ⟨gb, 0, none⟩ = some v0 := by rw [cell_moved hblk]; exact hc
               have hf5 : w5.frozen? ⟨gb, 0, none⟩ = false := (frozen_moved hblk 0).trans hf)
  go_ret
  have hY : (Y ++ [x]).length = Y.length + 1 := by simp
  obtain ⟨h1, h2⟩ := HW.out.put0 (Y' := Y ++ [x]) ((Below.refl w.heap.size w).alloc (Nat.le_refl _) _) hg5 (by rw [hY, List.map_append]; exact hown5) (fun k hk => by
    have hk : g5 = k := Option.some.inj hk
    subst hk
    rcases hat5 with h | h
    · exact .inl h
    · right; rw [h]; simp)
  exact ⟨rfl, ⟨_, h1⟩, h2⟩
theorem yield_any (wb gb B : Nat) (ok : Nat → Prop) (w : World) (Y : List Int) (b x : Int) (H : Wk wb gb B ok w Y b) (hl : Y.length < 1099511627776) :
    Calls Tryd.prog 36 #[.int .i64 x, .pointer (some ⟨gb, 0, none⟩)] w fun e w' => e = .returned (.bool true) ∧ Wk wb gb B ok w' (Y ++ [x]) b ∧ Fr ok w w' := by
  obtain ⟨v0, v, l, H⟩ := H
  exact (yieldV_any wb gb B ok w Y b x v0 v l H hl).mono fun e w' ⟨h1, ⟨v0', h2⟩, h3⟩ => ⟨h1, ⟨v0', v, l, h2⟩, h3⟩
end Go.Proofs.Qxb6609120aDoor
