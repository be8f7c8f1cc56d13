/-
  One round: the ordinals cloned, the segment marked; what stands stays.
-/
import Derived.Test.Qxb6609120aDoorSegIs
import Derived.Test.Qxb6609120aDoorBytes
namespace Go.Proofs.Qxb6609120aDoor
open Go.RowKit
open Plain (Srt Asc asc_ext)
set_option linter.unusedVariables false

/-- What a new slice gives away. -/
theorem New.ord {w w' : World} {v : Value} {l : List Int} (H : New w w' v l) : ∃ ob, OrdV w' v l ob ∧ ∀ k, ob = some k → w.heap.size ≤ k := by
  by_cases h : l = []
  · refine ⟨none, ⟨fun _ => ⟨rfl, ?_⟩, fun hne => absurd h hne⟩, by simp⟩
    obtain ⟨a, cap, hv, _⟩ := H.sl
    exact ⟨a, cap, by rw [hv, h]; rfl⟩
  · obtain ⟨b, cap, hb, hv, hc, ho⟩ := H.own h
    exact ⟨some b, ⟨fun h0 => absurd h0 h, fun _ => ⟨b, cap, rfl, hv, hc, ho⟩⟩, fun k hk => by cases hk; exact hb⟩

/-- A segment that stood ahead of the clone stands behind the marking. -/
theorem Seg.through {ok : Nat → Prop} {wA wB wC : World} {ob : Option Nat} {g : Nat} {rows : Int} {S : List Int} {dr db ds : Int} {jm : Bool} (H : Seg ok wA g rows S dr db ds jm) (hb : Below wA.heap.size wA wB) (hgr : wB.grownBy wC ob) (hob : ∀ k, ob = some k → wA.heap.size ≤ k) : Seg ok wC g rows S dr db ds jm :=
  H.go (fun b _ hlt => by rw [hgr.block b (Nat.lt_of_lt_of_le hlt hb.size) (by intro e; have := hob b e.symm; omega), hb.block b hlt]) (fun b ho _ => ho)
theorem Seg.keep {ok : Nat → Prop} {w w' : World} {g : Nat} {rows : Int} {S : List Int} {dr db ds : Int} {jm : Bool} (H : Seg ok w g rows S dr db ds jm) (hb : Below w.heap.size w w') : Seg ok w' g rows S dr db ds jm := H.go (fun b _ hlt => hb.block b hlt) (fun b ho _ => ho)
theorem Seg.asc {ok : Nat → Prop} {w : World} {g : Nat} {rows : Int} {S : List Int} {dr db ds : Int} {jm : Bool} (H : Seg ok w g rows S dr db ds jm) : Asc S := by
  obtain ⟨p, h, _, hR⟩ := H.parts
  exact hR.node.ran.asc

/-- The marking, from the segment as it stood ahead of the clone. -/
theorem mark_any (B : Nat) (g : Nat) (rows : Int) (S O : List Int) (dr db ds : Int) (jm : Bool) (v : Value) (size died : Int) (wA wB : World) (hB : B ≤ wA.heap.size) (hg : Seg (fun b => B ≤ b) wA g rows S dr db ds jm) (hn : New wA wB v O) (h0 : ∀ x ∈ O, 0 ≤ x) (h32 : ∀ x ∈ O, x < 4294967296) (hl : O.length ≤ 1048576) :
    Calls Tryd.prog 28 #[.pointer (some ⟨g, 0, none⟩), v, .int .i64 size, .int .i64 died] wB fun e wC => ∃ g' S', e = .returned (.pointer (some ⟨g', 0, none⟩)) ∧ Seg (fun b => B ≤ b) wC g' rows S' (wrap64 (dr + O.length)) (wrap64 (db + size)) (if dr = 0 then died else ds) jm ∧ (∀ x, x ∈ S' ↔ x ∈ S ∨ x ∈ O) ∧
      (∀ g2 rows2 S2 dr2 db2 ds2 jm2, Seg (fun b => B ≤ b) wA g2 rows2 S2 dr2 db2 ds2 jm2 → Seg (fun b => B ≤ b) wC g2 rows2 S2 dr2 db2 ds2 jm2) ∧ ∀ w, Below B w wA → Below B w wC := by
  obtain ⟨ob, ho, hob⟩ := hn.ord
  have hgB : Seg (fun b => B ≤ b ∧ b < wA.heap.size) wB g rows S dr db ds jm := hg.go (fun b _ hlt => hn.below.block b hlt) (fun b hb hlt => ⟨hb, hlt⟩)
  refine (withDead_any _ g rows S O dr db ds jm v ob size died wB hgB ho (fun b hb e => by have := hob b e.symm; omega) h0 h32 hl).mono ?_
  rintro e wC ⟨⟨g', S', rfl, hs, hm⟩, hgr⟩
  refine ⟨g', S', rfl, hs.go (fun b _ _ => rfl) (fun b hb _ => hb.elim (fun h => h.1) (fun h => Nat.le_trans (Nat.le_trans hB hn.below.size) h)), hm, fun g2 rows2 S2 dr2 db2 ds2 jm2 H => H.through hn.below hgr hob, fun w hw => ?_⟩
  exact (hw.trans (hn.below.mono hB)).grown hgr (Nat.le_trans hB hn.below.size) (fun k hk => Nat.le_trans hB (hob k hk))
end Go.Proofs.Qxb6609120aDoor
