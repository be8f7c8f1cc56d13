/-
  ZZsegment, zzSegIs.
-/
import Derived.Test.Qxb6609120aDoorMembers
namespace Go.Proofs.Qxb6609120aDoor
open Go.RowKit
open Plain (Srt Asc asc_ext)
set_option linter.unusedVariables false

/-- The cells that ZZsegment reads. -/
def SegCells (g : Nat) (rows : Int) (p : Option Addr) (h : Nat) (dr db ds : Int) (jm : Bool) (w : World) : Prop :=
  w.cell? ⟨g, 2, none⟩ = some (.int .i64 rows) ∧ w.cell? ⟨g, 4, none⟩ = some (.pointer p) ∧ w.cell? ⟨g, 5, none⟩ = some (.int .i64 (h : Nat)) ∧ w.cell? ⟨g, 6, none⟩ = some (.int .i64 dr) ∧ w.cell? ⟨g, 7, none⟩ = some (.int .i64 db) ∧ w.cell? ⟨g, 8, none⟩ = some (.int .i64 ds) ∧ w.cell? ⟨g, 14, none⟩ = some (.bool jm)
theorem Blk.seg {w : World} {g : Nat} {rows : Int} {p : Option Addr} {h : Nat} {dr db ds : Int} {jm : Bool} (H : Blk w g (segc rows p h dr db ds jm)) : SegCells g rows p h dr db ds jm w :=
  ⟨H.cell 2 _ rfl, H.cell 4 _ rfl, H.cell 5 _ rfl, H.cell 6 _ rfl, H.cell 7 _ rfl, H.cell 8 _ rfl, H.cell 14 _ rfl⟩
theorem SegCells.two {w : World} {g rb : Nat} {rows : Int} {p : Option Addr} {h : Nat} {dr db ds : Int} {jm : Bool} {u v : Value} (H : SegCells g rows p h dr db ds jm w) (hne : g ≠ rb) : SegCells g rows p h dr db ds jm ((w.setCell ⟨rb, 0, none⟩ u).setCell ⟨rb, 1, none⟩ v) := by
  have hst : ((w.setCell ⟨rb, 0, none⟩ u).setCell ⟨rb, 1, none⟩ v).heap[g]? = w.heap[g]? := by
    rw [Below.heap_setCell _ _ _ _ (by intro e; exact hne e), Below.heap_setCell _ _ _ _ (by intro e; exact hne e)]
  unfold SegCells
  simp only [cell_moved hst]
  exact H

set_option maxRecDepth 10000 in
theorem zzSegment_any (g : Nat) (rows : Int) (p : Option Addr) (h : Nat) (dr db ds : Int) (jm : Bool) (w : World) (hg : Blk w g (segc rows p h dr db ds jm)) :
    Calls Tryd.prog 41 #[.pointer (some ⟨g, 0, none⟩)] w fun e w' => e = .returned (.tuple #[.int .i64 rows, .agg #[.pointer p, .int .i64 (h : Nat)], .int .i64 dr, .int .i64 db, .int .i64 ds, .bool jm]) ∧ Below w.heap.size w w' := by
  have hglt := hg.lt (show 0 < 15 by decide)
  go_enter Tryd.func41, Tryd.ntmps41
  go_wp2_with (refine wpList_alloc49 rfl rfl ?_; intro w1 N1; have r0 := N1.cell 0 _ rfl; have r1 := N1.cell 1 _ rfl; have f0 := N1.warm 0; have f1 := N1.warm 1)
  have hs := (hg.keep (show 0 < 15 by decide) N1.below).seg
  have hne : g ≠ w.heap.size := by omega
  go_region_held3 (fun w' => w'.cell? ⟨g, 2, none⟩ = some (.int .i64 rows) ∧ w'.cell? ⟨g, 4, none⟩ = some (.pointer p) ∧ w'.cell? ⟨g, 5, none⟩ = some (.int .i64 (h : Nat)) ∧ w'.cell? ⟨g, 6, none⟩ = some (.int .i64 dr) ∧ w'.cell? ⟨g, 7, none⟩ = some (.int .i64 db) ∧ w'.cell? ⟨g, 8, none⟩ = some (.int .i64 ds) ∧ w'.cell? ⟨g, 14, none⟩ = some (.bool jm))
    (first | exact hs | exact SegCells.two (by assumption) hne | assumption)
    (fail)
  go_wp2_with fail
  have hl := load49 (w := ((w1.setCell ⟨w.heap.size, 0, none⟩ (.pointer p)).setCell ⟨w.heap.size, 1, none⟩ (.int .i64 (h : Nat))).drew) (two0 (b := .pointer none) r0) (two1 r1)
  refine bodyPost_ret (v := .tuple #[.int .i64 rows, .agg #[.pointer p, .int .i64 (h : Nat)], .int .i64 dr, .int .i64 db, .int .i64 ds, .bool jm]) ?_ rfl ⟨rfl, ((N1.below.setCell (Nat.le_refl _) _).setCell (Nat.le_refl _) _).drew⟩
  simp only [results, Tryd.results41]
  simp [asAddr, hl]

set_option maxRecDepth 10000 in
theorem segIs_any (ok : Nat → Prop) (g : Nat) (rows : Int) (S : List Int) (dr db ds : Int) (jm : Bool) (v : Value) (w : World) (hg : Seg ok w g rows S dr db ds jm) (hT : Tab w) (hv : Sl .i64 w v S) (hl : S.length ≤ 4194304) :
    Calls Tryd.prog 29 #[.pointer (some ⟨g, 0, none⟩), .int .i64 rows, v, .int .i64 dr, .int .i64 db, .int .i64 ds, .bool jm] w fun e w' => e = .returned (.bool true) ∧ Below w.heap.size w w' := by
  obtain ⟨p, h, hB, hR⟩ := hg.parts
  have tok : True := trivial
  go_enter Tryd.func29, Tryd.ntmps29
  go_wp2_with (first
    | (go_at_call 41; refine (zzSegment_any g rows p h dr db ds jm w hB).mono ?_; rintro _ w1 ⟨rfl, hb1⟩)
    | (refine wpList_alloc49 rfl rfl ?_; intro w2 N2; have r0 := N2.cell 0 _ rfl; have r1 := N2.cell 1 _ rfl; have f0 := N2.warm 0; have f1 := N2.warm 1)
    | (go_at_call 42
       have b2 : Below w.heap.size w ((w2.setCell ⟨w1.heap.size, 0, none⟩ (.pointer p)).setCell ⟨w1.heap.size, 1, none⟩ (.int .i64 (h : Nat))) := ((hb1.trans (N2.below.mono hb1.size)).setCell hb1.size _).setCell hb1.size _
       generalize ((w2.setCell ⟨w1.heap.size, 0, none⟩ (.pointer p)).setCell ⟨w1.heap.size, 1, none⟩ (.int .i64 (h : Nat))) = w3 at b2 ⊢
       refine (members_any ok p h S w3 ⟨hR.le, hR.node.keep b2, hR.h32⟩ (hT.keep b2)).mono ?_
       rintro _ w4 ⟨v', rfl, hn4⟩
       have b4 : Below w.heap.size w w4 := b2.trans (hn4.below.mono b2.size)
       clear r0 r1 f0 f1)
    | (go_at_call 23
       refine (eq64_any v' v S S w4 hn4.sl (hv.keep b4) hl hl).mono ?_
       rintro _ w5 ⟨rfl, n5, rfl⟩
       rw [decide_eq_true (rfl : S = S)]))
  go_ret
  exact ⟨rfl, b4.trans ⟨rfl, rfl, rfl, Nat.le_refl _, fun _ _ => rfl⟩⟩
end Go.Proofs.Qxb6609120aDoor
