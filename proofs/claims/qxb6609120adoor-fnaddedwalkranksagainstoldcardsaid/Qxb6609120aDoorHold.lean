/-
  slices.Clone, nodeHolding.
-/
import Derived.Test.Qxb6609120aDoorLeaf
import Derived.Test.Qxb6609120aDoorParts
namespace Go.Proofs.Qxb6609120aDoor
open Go.RowKit
open Plain (Srt Asc)
set_option linter.unusedVariables false

theorem owns_empty (w : World) : (w.alloc (.cells #[] 109)).ownsRow w.heap.size 109 1 (.slice (some ⟨w.heap.size, 0, none⟩) 0 0) 0 [] :=
  ⟨rfl, Or.inr ⟨w.heap.size, 0, #[], rfl, Nat.le_refl _, heap_alloc_new w _, Nat.le_refl _, Nat.zero_le _, rfl, rfl⟩⟩
theorem clone32_any (b off cap : Nat) (l : List Int) (w : World) (hl : At .u32 w b off l) (hne : l ≠ []) (hlen : l.length ≤ 1048576) (hc : l.length ≤ cap) :
    Calls Tryd.prog 98 #[.slice (some ⟨b, off, none⟩) l.length cap] w fun e w' => ∃ g c, e = .returned (.slice (some ⟨g, 0, none⟩) l.length c) ∧ l.length ≤ c ∧ At .u32 w' g 0 l ∧ Below w.heap.size w w' ∧ w.heap.size ≤ g := by
  obtain ⟨i0, hi, hz0, hz1, hz2⟩ := info_parts info109
  have hq := eql_slice w 69 109 (some ⟨b, off, none⟩) l.length cap Tryd.underlying69
  have hB : Below w.heap.size w (w.alloc (.cells #[] 109)) := (Below.refl _ _).alloc (Nat.le_refl _) _
  have hlw := hl.keep hB
  have hcs := (Sl.cells (Sl.of_at hlw hc)).2.2 ⟨b, off, none⟩ rfl
  go_enter Tryd.func98, Tryd.ntmps98
  go_wp2_with (at_builtin; refine wpList_append_own _ rfl (.tmp 5) (.tmp 6) 69 rfl w.heap.size 109 i0 (.int .u32 0) 1 4 Tryd.underlying69 hi hz0 hz1 hz2 rfl (by decide) _ 0 [] rfl (owns_empty w) ⟨b, off, none⟩ l.length cap (l.map (Value.int .u32)) rfl (by simp) hcs (ints_oneCell _ _) (by unfold maxLen; omega) (by omega) (by simp) ?_; intro v' w' hown hgr hnz; clear hcs hlw hnz)
  go_ret
  simp only [Nat.zero_add, List.nil_append] at hown
  have hB' : Below w.heap.size w w' := hB.grown hgr hB.size (by intro k hk; cases hk; exact Nat.le_refl _)
  have hlp := List.length_pos_iff.2 hne
  rcases hown.2 with ⟨_, h0⟩ | ⟨g, c, cur, rfl, h1, h2, h3, h4, h5, h6⟩
  · omega
  · obtain ⟨q1, q2, q3, q4⟩ := own_of_row hown
    exact ⟨g, c, rfl, h3, q4.at, hB', h1⟩

/-- A new struct of three cells. -/
theorem ncell_new (w : World) (k ws : Option Addr) (ls : Value) : NCell (w.alloc (.cells #[.pointer k, .pointer ws, ls] 88)) w.heap.size k ws ls := ⟨by simp, by simp, by simp, _, _, heap_alloc_new w _⟩

theorem NCell.grown {w w' : World} {b g : Nat} {k ws : Option Addr} {ls : Value} (h : NCell w b k ws ls) (hg : w.grownBy w' (some g)) (hne : b ≠ g) : NCell w' b k ws ls :=
  ⟨hg.cell h.kids (by intro e; exact hne (Option.some.inj e)), hg.cell h.words (by intro e; exact hne (Option.some.inj e)), hg.cell h.list (by intro e; exact hne (Option.some.inj e)), by rw [hg.block _ h.lt (by intro e; exact hne (Option.some.inj e))]; exact h.obj⟩
set_option maxRecDepth 10000 in
theorem nodeHolding_any (h : Nat) (base : Nat) (b off cap : Nat) (L : List Int) (w : World) (hL : At .u32 w b off L) (hne : L ≠ []) (hr : Ran L base (base + spn h)) (h32 : ∀ x ∈ L, x < 4294967296) (hlen : L.length ≤ 1024) (hc : L.length ≤ cap) :
    Calls Tryd.prog 76 #[.int .i64 (h : Nat), .slice (some ⟨b, off, none⟩) L.length cap] w fun e w' => ∃ g, e = .returned (.pointer (some ⟨g, 0, none⟩)) ∧ Node (fun b => w.heap.size ≤ b) h w' base (some ⟨g, 0, none⟩) L ∧ Below w.heap.size w w' := by
  by_cases hle : L.length ≤ lmax h
  · go_enter Tryd.func76, Tryd.ntmps76
    go_wp2_with (first
      | (go_at_call 71; refine (listMax_any h _).mono ?_; rintro _ _ ⟨rfl, rfl⟩)
      | (go_at_call 98; refine (clone32_any b off cap L _ hL hne (by omega) hc).mono ?_; rintro _ w1 ⟨g, c, rfl, hc1, hat, hb1, hg1⟩))
    go_ret
    have hb2 : Below w1.heap.size w1 (w1.alloc (.cells #[.pointer none, .pointer none, .slice (some ⟨g, 0, none⟩) L.length c] 88)) := (Below.refl _ _).alloc (Nat.le_refl _) _
    exact ⟨w1.heap.size, rfl, Node.list hr ⟨ncell_new _ _ _ _, hne, hc1, hlen, hat.keep hb2⟩ hb1.size hg1, hb1.alloc hb1.size _⟩
  · have h0 : h = 0 := by
      by_cases h0 : h = 0
      · exact h0
      · unfold lmax at hle; rw [if_neg h0] at hle; omega
    subst h0
    have hlb : b < w.heap.size := hL.lt hne
    go_enter Tryd.func76, Tryd.ntmps76
    go_wp2_with (first
      | (go_at_call 71; refine (listMax_any 0 _).mono ?_; rintro _ _ ⟨rfl, hwe⟩; have hwe := hwe.symm; subst hwe)
      | (refine wpList_alloc90 rfl rfl ?_; intro w1 N1)
      | (go_at_call 66
         have hb2 : Below w1.heap.size w1 (w1.alloc (.cells #[.pointer none, .pointer (some ⟨w.heap.size, 0, none⟩), .slice none 0 0] 88)) := (Below.refl _ _).alloc (Nat.le_refl _) _
         have hN := ncell_new w1 none (some ⟨w.heap.size, 0, none⟩) (.slice none 0 0)
         generalize w1.alloc (.cells #[.pointer none, .pointer (some ⟨w.heap.size, 0, none⟩), .slice none 0 0] 88) = w2 at *
         have hw2 := N1.words.keep hb2
         have hm2 := N1.warm.keep N1.words.lt_size hb2
         refine (setBits32_any w.heap.size _ b off cap L w2 hw2 hm2 ((hL.keep N1.below).keep hb2) (by omega) (fun x hx => ⟨by have := hr.lo x hx; omega, h32 x hx⟩) (by omega)).mono ?_
         rintro _ w3 ⟨rfl, V, hV, hb, hvm, hgr⟩))
    go_ret
    have hne2 : w1.heap.size ≠ w.heap.size := by have := N1.size; omega
    have hbb : Below w.heap.size w w3 := (N1.below.trans (hb2.mono N1.below.size)).grown hgr (Nat.le_trans N1.below.size hb2.size) (by intro k hk; cases hk; exact Nat.le_refl _)
    have hm := leaf_mem hr hV.lt hb
    exact ⟨w1.heap.size, rfl, ⟨hr, Or.inr (Or.inr ⟨w1.heap.size, w.heap.size, V, rfl, ⟨hN.grown hgr hne2, hV, fun x h0 h1 => (hm.mem x h0 h1).symm⟩, N1.below.size, Nat.le_refl _⟩)⟩, hbb⟩
end Go.Proofs.Qxb6609120aDoor
