/-
  rowNode.listed: the node's ordinals as a list: its own, or written over the room.
-/
import Derived.Test.Qxb6609120aDoorWk2
import Derived.Deep.RegionLaw
namespace Go.Proofs.Qxb6609120aDoor
open Go.RowKit
open Plain (Srt Asc asc_ext)
set_option linter.unusedVariables false

theorem enter83 (args : Array Value) (w : World) : (callFunc 83 args).run Tryd.prog w = .ok (.enter 83 args) w := by
  simp [go_sem]
theorem room_out {wb gb B : Nat} {ok : Nat → Prop} {w w5 : World} {Y : List Int} {b x : Int} {v0 vf : Value} {v : Nat → Value} {l : Nat → List Int} {f g5 cap5 Hn : Nat} {L : List Int} {o : Obj} (hf : f = 2 ∨ f = 3) (H : WkV wb gb B ok w Y b v0 v l) (hv : vf = v f) (hL : L = l f)
    (hown5 : w5.ownsRow B 109 1 (.slice (some ⟨g5, 0, none⟩) (L.length + 1) cap5) (L.length + 1) (L.map (Value.int .u32) ++ [.int .u32 x])) (hg5 : (w.alloc o).drew.grownBy w5 vf.ownBlock) (hat5 : vf.ownBlock = some g5 ∨ g5 = Hn) (hH : w.heap.size ≤ Hn) :
    (∃ v', WkV wb gb B ok (w5.setCell ⟨wb, f, none⟩ (.slice (some ⟨g5, 0, none⟩) (L.length + 1) cap5)) Y b v0 (up v f v') (up l f (l f ++ [x]))) ∧ Fr ok w (w5.setCell ⟨wb, f, none⟩ (.slice (some ⟨g5, 0, none⟩) (L.length + 1) cap5)) := by
  subst hv
  subst hL
  have hb : Below w.heap.size w (w.alloc o).drew := ((Below.refl w.heap.size w).alloc (Nat.le_refl _) o).drew
  obtain ⟨h1, h2⟩ := H.putF (L' := l f ++ [x]) hf hb hg5 (v' := .slice (some ⟨g5, 0, none⟩) ((l f).length + 1) cap5) (by rw [List.length_append, List.map_append]; exact hown5) (fun k hk => by
    have hk : g5 = k := Option.some.inj hk
    subst hk
    rcases hat5 with h | h
    · exact .inl h
    · right; omega)
  exact ⟨⟨_, h1⟩, h2⟩

set_option maxRecDepth 10000 in
theorem room_any (wb gb B : Nat) (ok : Nat → Prop) (w : World) (Y : List Int) (b x : Int) (v0 : Value) (v : Nat → Value) (l : Nat → List Int) (f bx : Nat) (hf : f = 2 ∨ f = 3) (H : WkV wb gb B ok w Y b v0 v l) (hbx : ok bx) (hcx : w.cell? ⟨bx, 0, none⟩ = some (.pointer (some ⟨wb, f, none⟩))) (hl : (l f).length < 1099511627776) (hx0 : 0 ≤ x) (hx1 : x < 4294967296) :
    Calls Tryd.prog 83 #[.int .i64 x, .pointer (some ⟨bx, 0, none⟩)] w fun e w' => e = .returned (.bool true) ∧ (∃ v', WkV wb gb B ok w' Y b v0 (up v f v') (up l f (l f ++ [x]))) ∧ Fr ok w w' := by
  obtain ⟨i0, hi, hz0, hz1, hz2⟩ := info_parts info109
  have hc := H.r f hf
  have hfr := H.fw f
  have hown := H.o f hf
  have hlB := H.lB
  have n1 : some bx ≠ (v f).ownBlock := fun e => H.a f hf bx hbx e.symm
  have n2 : some wb ≠ (v f).ownBlock := fun e => by have := (owns_ge (H.o f hf) wb e.symm).1; have := H.lw; omega
  have hltw := H.ltw
  have n3 : bx ≠ wb := (H.aw bx hbx).1
  have HW : Hid (WkV wb gb B ok w Y b v0 v l) := H
  obtain ⟨vf, hvf⟩ : ∃ vf, vf = v f := ⟨_, rfl⟩
  obtain ⟨L, hL⟩ : ∃ L, L = l f := ⟨_, rfl⟩
  rw [← hvf] at hc hown n1 n2
  rw [← hL] at hown hl
  have HV : Hid (vf = v f) := hvf
  have HL : Hid (L = l f) := hL
  clear H hvf hL
  have hwx : IntKind.u32.wrap x = x := by simp only [IntKind.wrap_u32]; omega
  have hbx1 : (w.alloc (.cells #[.int .u32 x] 109)).cell? ⟨bx, 0, none⟩ = some (.pointer (some ⟨wb, f, none⟩)) := cell_below ((Below.refl w.heap.size w).alloc (Nat.le_refl _) _) hcx
  have hc1 : (w.alloc (.cells #[.int .u32 x] 109)).cell? ⟨wb, f, none⟩ = some vf := cell_below ((Below.refl w.heap.size w).alloc (Nat.le_refl _) _) hc
  go_enter Tryd.func83, Tryd.ntmps83
  go_wp2_with fail
  go_region_law (
      refine step_append_lies _ rfl (.tmp 7) (.tmp 10) 69 rfl B 109 i0 (.int .u32 0) 1 4 Tryd.underlying69 hi hz0 hz1 hz2 rfl (by decide) vf L.length (L.map (Value.int .u32)) rfl (show ((w.alloc (.cells #[.int .u32 x] 109)).drew).ownsRow B 109 1 vf L.length (L.map (Value.int .u32)) from hown.alloc _) ⟨w.heap.size, 0, none⟩ 1 1 [.int .u32 x] rfl rfl (fun j u hu => one_new w _ 109 j u hu) (one_cell1 rfl) (by decide) (by unfold maxLen; omega) (by omega) (by simp; omega) _ rfl ?_
      intro g5 cap5 w5 hown5 hg5 hat5 hlt5
      have hblk : w5.heap[wb]? = w.heap[wb]? := (hg5.block wb (show wb < (w.alloc (.cells #[.int .u32 x] 109)).heap.size by simp; omega) n2).trans (((Below.refl w.heap.size w).alloc (Nat.le_refl _) _).block wb hltw)
      have hc5 : w5.cell? ⟨wb, f, none⟩ = some vf := by rw [cell_moved hblk]; exact hc
      have hf5 : w5.frozen? ⟨wb, f, none⟩ = false := (frozen_moved hblk f).trans hfr
      have hcx5 : w5.cell? ⟨bx, 0, none⟩ = some (.pointer (some ⟨wb, f, none⟩)) := hg5.cell hbx1 n1)
  all_goals
    go_wp2_with fail
    go_ret
    exact ⟨rfl, room_out hf HW.out HV.out HL.out hown5 hg5 hat5 (by simp)⟩
end Go.Proofs.Qxb6609120aDoor
