/-
  rowNode.raise.
-/
import Derived.Test.Qxb6609120aDoorWith3
namespace Go.Proofs.Qxb6609120aDoor
open Go.RowKit
open Plain (Srt Asc)
set_option linter.unusedVariables false

theorem spn_mono {a b : Nat} (h : a ≤ b) : spn a ≤ spn b := by
  unfold spn; exact Nat.mul_le_mul_left _ (Nat.pow_le_pow_right (by decide) h)
theorem Ran.up {S : List Int} {lo a b : Nat} (h : Ran S lo a) (hab : a ≤ b) : Ran S lo b := ⟨h.asc, h.lo, fun x hx => by have := h.hi x hx; omega⟩

/-- A node under a new inner node, as its first child. -/
theorem Node.under {ok : Nat → Prop} {f : Nat} {w w1 w3 : World} {p : Option Addr} {S : List Int} (hn : Node ok f w 0 p S) (N1 : NewK w w1) (N3 : NewC (w1.setCell ⟨w.heap.size, 0, none⟩ (.pointer p)) w3 [.pointer (some ⟨w.heap.size, 0, none⟩), .pointer none, .slice none 0 0]) :
    Node (fun b => ok b ∨ w.heap.size ≤ b) (f + 1) w3 0 (some ⟨(w1.setCell ⟨w.heap.size, 0, none⟩ (.pointer p)).heap.size, 0, none⟩) S ∧ Below w.heap.size w w3 := by
  have b1 : Below w.heap.size w (w1.setCell ⟨w.heap.size, 0, none⟩ (.pointer p)) := N1.below.setCell (Nat.le_refl _) _
  have b3 : Below w.heap.size w w3 := b1.trans (N3.below.mono b1.size)
  have hsz : (w1.setCell ⟨w.heap.size, 0, none⟩ (.pointer p)).heap.size = w.heap.size + 1 := by simp [N1.size]
  refine ⟨⟨hn.ran.up (by have := spn_succ f; omega), Or.inr (Or.inr ⟨_, w.heap.size, fun i => if i = 0 then p else none, fun i => if i = 0 then S else [], rfl, N3.ncell, fun i hi => ?_, fun i hi => ?_, fun x => ?_, Or.inr (by omega), Or.inr (Nat.le_refl _)⟩)⟩, b3⟩
  · refine cell_below N3.below ?_
    by_cases e : i = 0
    · subst e
      rw [World.cell?_setCell_same _ _ _ (N1.kids 0 hi)]; simp
    · rw [World.cell?_setCell_other _ _ _ _ (by simp <;> omega), N1.kids i hi]; simp [e]
  · by_cases e : i = 0
    · subst e
      simpa using (hn.keep b3).wide (fun b h => Or.inl h)
    · simp only [if_neg e]; exact Node.nil _ _ _ _
  · constructor
    · intro hx; exact ⟨0, by decide, by simpa using hx⟩
    · rintro ⟨i, hi, hx⟩
      by_cases e : i = 0
      · subst e; simpa using hx
      · simp [e] at hx

set_option maxRecDepth 10000 in
theorem raise_any (ok : Nat → Prop) (f h : Nat) (hfh : f ≤ h) (hh : h ≤ 4) (p : Option Addr) (S : List Int) (w : World) (hn : Node ok f w 0 p S) :
    Calls Tryd.prog 44 #[.pointer p, .int .i64 (f : Nat), .int .i64 (h : Nat)] w fun e w' => ∃ p', e = .returned (.pointer p') ∧ Node (fun b => ok b ∨ w.heap.size ≤ b) h w' 0 p' S ∧ Below w.heap.size w w' := by
  have hup : spn f ≤ spn h := spn_mono hfh
  have hlist : ∀ b lb lo cap, p = some ⟨b, 0, none⟩ → ListN w S b lb lo cap → ok b → ok lb → Calls Tryd.prog 44 #[.pointer p, .int .i64 (f : Nat), .int .i64 (h : Nat)] w fun e w' => ∃ p', e = .returned (.pointer p') ∧ Node (fun b => ok b ∨ w.heap.size ≤ b) h w' 0 p' S ∧ Below w.heap.size w w' := by
    rintro b lb lo cap rfl hl o1 o2
    have hc := hl.cells.list
    have hq := neq_slice w 69 109 (some ⟨lb, lo, none⟩) S.length cap Tryd.underlying69
    go_enter Tryd.func44, Tryd.ntmps44
    go_wp2_with fail
    go_ret
    exact ⟨_, rfl, Node.list (hn.ran.up (by omega)) hl (Or.inl o1) (Or.inl o2), Below.refl _ _⟩
  have hrest : ∀ b k ws, p = some ⟨b, 0, none⟩ → NCell w b k ws (.slice none 0 0) → Calls Tryd.prog 44 #[.pointer p, .int .i64 (f : Nat), .int .i64 (h : Nat)] w fun e w' => ∃ p', e = .returned (.pointer p') ∧ Node (fun b => ok b ∨ w.heap.size ≤ b) h w' 0 p' S ∧ Below w.heap.size w w' := by
    rintro b k ws rfl hc
    have hcl := hc.list
    have hq := neq_slice w 69 109 none 0 0 Tryd.underlying69
    have HN : Hid (Node ok f w 0 (some ⟨b, 0, none⟩) S) := hn
    clear hn hlist
    go_enter Tryd.func44, Tryd.ntmps44
    go_wp2_with fail
    go_loopw [0, 1] (fun sp sf wr => ∃ (q : Option Addr) (g : Nat), sp = .pointer q ∧ sf = .int .i64 g ∧ f ≤ g ∧ g ≤ h ∧ Node (fun b => ok b ∨ w.heap.size ≤ b) g wr 0 q S ∧ Below w.heap.size w wr) (fun _ sf _ => h - (intOf sf).toNat)
    case atStart => exact ⟨_, f, rfl, rfl, Nat.le_refl _, hfh, HN.out.wide (fun b h => Or.inl h), Below.refl _ _⟩
    case round =>
      clear hcl hq
      obtain ⟨q, g, rfl, rfl, hfg, hgh, hnode, hbel⟩ := hrel
      have HNQ : Hid (Node (fun b => ok b ∨ w.heap.size ≤ b) g wr 0 q S) := hnode
      clear hnode
      by_cases hlt : g < h
      · go_wp2_with (first
          | (refine wpList_alloc106 rfl rfl ?_; intro w1 N1; have hk0 := N1.kids 0 (by decide); have hf0 := N1.warm.warm 0 (by decide))
          | (refine wpList_box88 rfl (.tmp 29) (some ⟨wr.heap.size, 0, none⟩) none none 0 0 rfl rfl ?_; intro w3 N3))
        go_roundw
        case rel =>
          obtain ⟨n1, n2⟩ := HNQ.out.under N1 N3
          have es : (w1.setCell ⟨wr.heap.size, 0, none⟩ (.pointer q)).heap.size = w1.heap.size := by simp
          rw [es] at n1
          exact ⟨_, g + 1, rfl, by go_num, by omega, by omega, n1.wide (fun b h => h.elim id (fun h => Or.inr (Nat.le_trans hbel.size h))), hbel.trans (n2.mono hbel.size)⟩
        case measure => simp [intOf]; omega
      · go_wp2_with fail
        go_ret
        have e : g = h := by omega
        exact ⟨_, rfl, e ▸ HNQ.out, hbel⟩
  cases f with
  | zero =>
    rcases hn.2 with ⟨rfl, rfl⟩ | ⟨b, lb, lo, cap, rfl, hl, o1, o2⟩ | ⟨b, wb, W, rfl, hw, o1, o2⟩
    · go_enter Tryd.func44, Tryd.ntmps44
      go_wp2_with fail
      go_ret
      exact ⟨_, rfl, Node.nil _ _ _ _, Below.refl _ _⟩
    · exact hlist b lb lo cap rfl hl o1 o2
    · exact hrest b _ _ rfl hw.cells
  | succ f =>
    rcases hn.2 with ⟨rfl, rfl⟩ | ⟨b, lb, lo, cap, rfl, hl, o1, o2⟩ | ⟨b, kb, K, L, rfl, hc, hk, hN, hL, o1, o2⟩
    · go_enter Tryd.func44, Tryd.ntmps44
      go_wp2_with fail
      go_ret
      exact ⟨_, rfl, Node.nil _ _ _ _, Below.refl _ _⟩
    · exact hlist b lb lo cap rfl hl o1 o2
    · exact hrest b _ _ rfl hc
end Go.Proofs.Qxb6609120aDoor
