/-
  zzBuildThree.
-/
import Derived.Test.Qxb6609120aDoorThree0
import Derived.Test.Qxb6609120aDoorLaw6b
import Derived.Deep.CutRange
namespace Go.Proofs.Qxb6609120aDoor
open Go.RowKit
open Plain (Srt Asc asc_ext)
set_option linter.unusedVariables false

/-- A new set's variable stands. -/
def Made3 (w wA z : World) (s : Value) (S0 l : List Int) (h0 : Nat) : Prop :=
  ∃ g p h S, s = .pointer (some ⟨g, 0, none⟩) ∧ SetV w z g p h S ∧ (∀ x, x ∈ S ↔ x ∈ S0 ∨ x ∈ l) ∧ h0 ≤ h ∧ Below wA.heap.size wA z
/-- The variable's block as it is made. -/
abbrev Z49 : Obj := .cells #[.pointer none, .int .i64 0] 49
theorem made_drew {w wA z : World} {s : Value} {S0 l : List Int} {h0 : Nat} (H : Made3 w wA z s S0 l h0) : Made3 w wA z.drew s S0 l h0 := by
  obtain ⟨g, p, h, S, e, hV, hm, hu, hb⟩ := H
  exact ⟨g, p, h, S, e, hV.keep (Below.refl _ _).drew, hm, hu, hb.drew⟩
section
variable {w wA u u1 u2 u3 : World} {p p' : Option Addr} {h h' : Nat} {S0 S l : List Int} {v : Value}
theorem made_a (hw : w.heap.size ≤ wA.heap.size) (hn : New (wA.alloc Z49).drew u1 v l) (hR : RSet (fun b => (w.heap.size ≤ b ∧ b < wA.heap.size) ∨ u1.heap.size ≤ b) u3 p h S) (hm : ∀ x, x ∈ S ↔ x ∈ S0 ∨ x ∈ l) (hb : Below wA.heap.size wA u3) (hk : ∀ g, g < (wA.alloc Z49).drew.heap.size ∨ u1.heap.size ≤ g → g < u1.heap.size → u3.heap[g]? = u1.heap[g]?) (hup : h' ≤ h) :
    Made3 w wA ((u3.setCell ⟨wA.heap.size, 0, none⟩ (.pointer p)).setCell ⟨wA.heap.size, 1, none⟩ (.int .i64 (h : Nat))) (.pointer (some ⟨wA.heap.size, 0, none⟩)) S0 l h' := by
  have hlt : wA.heap.size < (wA.alloc Z49).drew.heap.size := by show wA.heap.size < (wA.alloc Z49).heap.size; simp
  have hlt1 : wA.heap.size < u1.heap.size := Nat.lt_of_lt_of_le hlt hn.below.size
  have e : u3.heap[wA.heap.size]? = (wA.alloc Z49).heap[wA.heap.size]? := (hk _ (.inl hlt) hlt1).trans (hn.below.block _ hlt)
  have N := newC wA [.pointer none, .int .i64 0] 49
  obtain ⟨h1, h2⟩ := setV_put hw hR (g := wA.heap.size) (fun b hb hb2 => by rcases hb with hb | hb <;> omega) (Nat.le_refl _) (by rw [cell_moved e]; exact N.cell 0 _ rfl) (by rw [cell_moved e]; exact N.cell 1 _ rfl) hb
  exact ⟨_, p, h, S, rfl, h1, hm, hup, h2⟩
theorem made_b (hw : w.heap.size ≤ wA.heap.size) (hA : Below wA.heap.size wA u) (hn : New u u1 v l) (hR : RSet (fun b => (w.heap.size ≤ b ∧ b < wA.heap.size) ∨ (u1.alloc Z49).heap.size ≤ b) u3 p h S) (hm : ∀ x, x ∈ S ↔ x ∈ S0 ∨ x ∈ l) (hb : Below wA.heap.size wA u3) (hk : ∀ g, g < u.heap.size ∨ u1.heap.size ≤ g → g < (u1.alloc Z49).heap.size → u3.heap[g]? = (u1.alloc Z49).heap[g]?) (hup : h' ≤ h) :
    Made3 w wA ((u3.setCell ⟨u1.heap.size, 0, none⟩ (.pointer p)).setCell ⟨u1.heap.size, 1, none⟩ (.int .i64 (h : Nat))) (.pointer (some ⟨u1.heap.size, 0, none⟩)) S0 l h' := by
  have hs : (u1.alloc Z49).heap.size = u1.heap.size + 1 := by simp
  have h1s : wA.heap.size ≤ u1.heap.size := Nat.le_trans hA.size hn.below.size
  have e : u3.heap[u1.heap.size]? = (u1.alloc Z49).heap[u1.heap.size]? := hk _ (.inr (Nat.le_refl _)) (by omega)
  have N := newC u1 [.pointer none, .int .i64 0] 49
  obtain ⟨h1, h2⟩ := setV_put hw hR (g := u1.heap.size) (fun b hb hb2 => by rcases hb with hb | hb <;> omega) h1s (by rw [cell_moved e]; exact N.cell 0 _ rfl) (by rw [cell_moved e]; exact N.cell 1 _ rfl) hb
  exact ⟨_, p, h, S, rfl, h1, hm, hup, h2⟩
theorem made_c (hw : w.heap.size ≤ wA.heap.size) (hA : Below wA.heap.size wA u1) (hR : RSet (fun b => (w.heap.size ≤ b ∧ b < wA.heap.size) ∨ u1.heap.size ≤ b) u3 p h S) (hm : ∀ x, x ∈ S ↔ x ∈ S0 ∨ x ∈ l) (hb : Below wA.heap.size wA u3) (hup : h' ≤ h) :
    Made3 w wA (u3.alloc (.cells #[.pointer p, .int .i64 (h : Nat)] 49)) (.pointer (some ⟨u3.heap.size, 0, none⟩)) S0 l h' := by
  have N := newC u3 [.pointer p, .int .i64 (h : Nat)] 49
  exact ⟨_, p, h, S, rfl, ⟨N.cell 0 _ rfl, N.cell 1 _ rfl, Nat.le_trans hw hb.size, hR.le, (hR.node.keep N.below).wide (fun b hb => by have := hA.size; rcases hb with hb | hb <;> omega), hR.h32⟩, hm, hup, hb.alloc hb.size _⟩
theorem cells_a (hn : New (wA.alloc Z49).drew u1 v l) (hk : ∀ g, g < (wA.alloc Z49).drew.heap.size ∨ u1.heap.size ≤ g → g < u1.heap.size → u3.heap[g]? = u1.heap[g]?) :
    u3.cell? ⟨wA.heap.size, 0, none⟩ = some (.pointer none) ∧ u3.cell? ⟨wA.heap.size, 1, none⟩ = some (.int .i64 0) ∧ u3.frozen? ⟨wA.heap.size, 0, none⟩ = false ∧ u3.frozen? ⟨wA.heap.size, 1, none⟩ = false := by
  have hlt : wA.heap.size < (wA.alloc Z49).drew.heap.size := by show wA.heap.size < (wA.alloc Z49).heap.size; simp
  have hlt1 : wA.heap.size < u1.heap.size := Nat.lt_of_lt_of_le hlt hn.below.size
  have e : u3.heap[wA.heap.size]? = (wA.alloc Z49).heap[wA.heap.size]? := (hk _ (.inl hlt) hlt1).trans (hn.below.block _ hlt)
  have N := newC wA [.pointer none, .int .i64 0] 49
  exact ⟨by rw [cell_moved e]; exact N.cell 0 _ rfl, by rw [cell_moved e]; exact N.cell 1 _ rfl, by rw [frozen_moved e]; exact N.warm 0, by rw [frozen_moved e]; exact N.warm 1⟩
theorem cells_b (hk : ∀ g, g < u.heap.size ∨ u1.heap.size ≤ g → g < (u1.alloc Z49).heap.size → u3.heap[g]? = (u1.alloc Z49).heap[g]?) :
    u3.cell? ⟨u1.heap.size, 0, none⟩ = some (.pointer none) ∧ u3.cell? ⟨u1.heap.size, 1, none⟩ = some (.int .i64 0) ∧ u3.frozen? ⟨u1.heap.size, 0, none⟩ = false ∧ u3.frozen? ⟨u1.heap.size, 1, none⟩ = false := by
  have e : u3.heap[u1.heap.size]? = (u1.alloc Z49).heap[u1.heap.size]? := hk _ (.inr (Nat.le_refl _)) (by simp)
  have N := newC u1 [.pointer none, .int .i64 0] 49
  exact ⟨by rw [cell_moved e]; exact N.cell 0 _ rfl, by rw [cell_moved e]; exact N.cell 1 _ rfl, by rw [frozen_moved e]; exact N.warm 0, by rw [frozen_moved e]; exact N.warm 1⟩
theorem clone3 {B : World} {vv x y : Value} {g : Nat} (hS : Below B.heap.size B u ∧ u.cell? ⟨g, 0, none⟩ = some x ∧ u.cell? ⟨g, 1, none⟩ = some y) (hs : Sl .i64 B vv l) (hl : l.length ≤ 32768) :
    Calls Tryd.prog 27 #[vv] u fun e w' => ∃ v', e = .returned v' ∧ New u w' v' l ∧ Below B.heap.size B u ∧ Below B.heap.size B w' :=
  (clone_any _ l u (hs.keep hS.1) (Nat.le_trans hl (by decide))).mono fun e w' ⟨v', he, hn⟩ => ⟨v', he, hn, hS.1, hS.1.trans (hn.below.mono hS.1.size)⟩
theorem root3 {B : World} {x y : Value} {g : Nat} (hS : Below B.heap.size B u ∧ u.cell? ⟨g, 0, none⟩ = some x ∧ u.cell? ⟨g, 1, none⟩ = some y) (q : Option Addr) (k : Nat) : Calls Tryd.prog 34 #[.agg #[.pointer q, .int .i64 (k : Nat)]] u fun e w' => e = .returned (.pointer q) ∧ Below B.heap.size B w' :=
  (root_any q k u).mono fun e w' ⟨he, hb⟩ => ⟨he, hS.1.trans (hb.mono hS.1.size)⟩
theorem height3 {B : World} {x y : Value} {g : Nat} (hS : Below B.heap.size B u ∧ u.cell? ⟨g, 0, none⟩ = some x ∧ u.cell? ⟨g, 1, none⟩ = some y) (q : Option Addr) (k : Nat) : Calls Tryd.prog 33 #[.agg #[.pointer q, .int .i64 (k : Nat)]] u fun e w' => e = .returned (.int .i64 (k : Nat)) ∧ Below B.heap.size B w' :=
  (height_any q k u).mono fun e w' ⟨he, hb⟩ => ⟨he, hS.1.trans (hb.mono hS.1.size)⟩
theorem raise3 {B : World} {x y : Value} {g : Nat} (hS : Below B.heap.size B u ∧ u.cell? ⟨g, 0, none⟩ = some x ∧ u.cell? ⟨g, 1, none⟩ = some y) (hw : w.heap.size ≤ B.heap.size) {q : Option Addr} {k m : Nat} (hkm : k ≤ m) (hm : m ≤ 4) (hn : Node (fun b => w.heap.size ≤ b) k B 0 q S) : Calls Tryd.prog 35 #[.pointer q, .int .i64 (k : Nat), .int .i64 (m : Nat)] u fun e w' => ∃ q', e = .returned (.pointer q') ∧ Node (fun b => w.heap.size ≤ b) m w' 0 q' S ∧ Below B.heap.size B w' :=
  (zzRaise_any _ k m hkm hm q S u (hn.keep hS.1)).mono fun e w' ⟨q', he, hn', hb⟩ => ⟨q', he, hn'.wide (fun b hb => hb.elim id (fun h => Nat.le_trans (Nat.le_trans hw hS.1.size) h)), hS.1.trans (hb.mono hS.1.size)⟩
theorem s3_of {g : Nat} {x y : Value} (hb : Below wA.heap.size wA u) (h0 : wA.cell? ⟨g, 0, none⟩ = some x) (h1 : wA.cell? ⟨g, 1, none⟩ = some y) : Below wA.heap.size wA u ∧ u.cell? ⟨g, 0, none⟩ = some x ∧ u.cell? ⟨g, 1, none⟩ = some y := ⟨hb, cell_below hb h0, cell_below hb h1⟩
theorem bel_put {g : Nat} {x y : Value} (hb : Below wA.heap.size wA u) (hg : wA.heap.size ≤ g) : Below wA.heap.size wA ((u.setCell ⟨g, 0, none⟩ x).setCell ⟨g, 1, none⟩ y) := (hb.setCell hg _).setCell hg _
end
end Go.Proofs.Qxb6609120aDoor
