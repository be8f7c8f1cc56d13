/-
  zzBuildThree: its parts: one set made of the last, in a variable of its own; the order in which the variable is made is drawn.
-/
import Derived.Test.Qxb6609120aDoorUp
import Derived.Test.Qxb6609120aDoorListed2
namespace Go.Proofs.Qxb6609120aDoor
open Go.RowKit
open Plain (Srt Asc asc_ext)
set_option linter.unusedVariables false

/-- A set's variable: block g holds the root and the height. -/
structure SetV (w z : World) (g : Nat) (p : Option Addr) (h : Nat) (S : List Int) : Prop where
  c0 : z.cell? ⟨g, 0, none⟩ = some (.pointer p)
  c1 : z.cell? ⟨g, 1, none⟩ = some (.int .i64 (h : Nat))
  ge : w.heap.size ≤ g
  set : RSet (fun b => w.heap.size ≤ b) z p h S
theorem SetV.keep {w z z' : World} {g : Nat} {p : Option Addr} {h : Nat} {S : List Int} (H : SetV w z g p h S) (hb : Below z.heap.size z z') : SetV w z' g p h S :=
  ⟨cell_below hb H.c0, cell_below hb H.c1, H.ge, H.set.le, H.set.node.keep hb, H.set.h32⟩

/-- ZZwith on the last set and a fresh clone; new blocks may lie between. -/
theorem with3 {w wA u u1 u2 : World} {p : Option Addr} {h : Nat} {S l : List Int} {v : Value} (hR : RSet (fun b => w.heap.size ≤ b) wA p h S) (hA : Below wA.heap.size wA u) (hn : New u u1 v l) (hb : Below u1.heap.size u1 u2) (h0 : ∀ x ∈ l, 0 ≤ x) (h32 : ∀ x ∈ l, x < 4294967296) (hl : l.length ≤ 32768) :
    Calls Tryd.prog 26 #[.agg #[.pointer p, .int .i64 (h : Nat)], v] u2 fun e u3 => ∃ p' h' S', e = .returned (.agg #[.pointer p', .int .i64 (h' : Nat)]) ∧ RSet (fun b => (w.heap.size ≤ b ∧ b < wA.heap.size) ∨ u2.heap.size ≤ b) u3 p' h' S' ∧ (∀ x, x ∈ S' ↔ x ∈ S ∨ x ∈ l) ∧ Below wA.heap.size wA u3 ∧ (∀ g, g < u.heap.size ∨ u1.heap.size ≤ g → g < u2.heap.size → u3.heap[g]? = u2.heap[g]?) ∧ h ≤ h' := by
  obtain ⟨ob, ho, hob⟩ := hn.ord
  have hlt : ∀ k, ob = some k → k < u1.heap.size := fun k hk => by
    rcases Nat.lt_or_ge k u1.heap.size with h1 | h1
    · exact h1
    · exact absurd hk.symm (ho.ne k h1)
  have hA1 : Below wA.heap.size wA u1 := hA.trans (hn.below.mono hA.size)
  have hA2 : Below wA.heap.size wA u2 := hA1.trans (hb.mono hA1.size)
  refine (zzWith_up (fun b => w.heap.size ≤ b ∧ b < wA.heap.size) p h S l v ob u2 ⟨hR.le, hR.node.lt.keep hA2, hR.h32⟩ (ho.keep hb) (fun b hb e => by have := hob b e.symm; have := hA.size; omega) h0 h32 (Nat.le_trans hl (by decide))).mono ?_
  rintro e u3 ⟨p', h', S', rfl, hR3, hm, hgr, hup⟩
  refine ⟨p', h', S', rfl, hR3, hm, hA2.grown hgr hA2.size (fun k hk => Nat.le_trans hA.size (hob k hk)), fun g hg hg2 => hgr.block g hg2 (fun e => ?_), hup⟩
  have h1 := hob g e.symm
  have h2 := hlt g e.symm
  omega
/-- The two stores into the new variable. -/
theorem setV_put {w wA z : World} {g : Nat} {p : Option Addr} {h : Nat} {S : List Int} {ok : Nat → Prop} {x y : Value} (hw : w.heap.size ≤ wA.heap.size) (hR : RSet ok z p h S) (hok : ∀ b, ok b → b < z.heap.size → w.heap.size ≤ b ∧ b ≠ g) (hg : wA.heap.size ≤ g) (hx : z.cell? ⟨g, 0, none⟩ = some x) (hy : z.cell? ⟨g, 1, none⟩ = some y) (hA : Below wA.heap.size wA z) :
    SetV w ((z.setCell ⟨g, 0, none⟩ (.pointer p)).setCell ⟨g, 1, none⟩ (.int .i64 (h : Nat))) g p h S ∧ Below wA.heap.size wA ((z.setCell ⟨g, 0, none⟩ (.pointer p)).setCell ⟨g, 1, none⟩ (.int .i64 (h : Nat))) := by
  have hst : ∀ b, b ≠ g → ((z.setCell ⟨g, 0, none⟩ (.pointer p)).setCell ⟨g, 1, none⟩ (.int .i64 (h : Nat))).heap[b]? = z.heap[b]? := fun b hne => by
    rw [Below.heap_setCell _ _ _ _ (by intro e; exact hne e), Below.heap_setCell _ _ _ _ (by intro e; exact hne e)]
  exact ⟨⟨two0 (b := y) hx, two1 hy, Nat.le_trans hw hg, hR.le, hR.node.go (fun b hb hlt => hst b (hok b hb hlt).2) (fun b hb hlt => (hok b hb hlt).1), hR.h32⟩, (hA.setCell hg _).setCell hg _⟩

theorem height_any (p : Option Addr) (h : Nat) (w : World) : Calls Tryd.prog 33 #[.agg #[.pointer p, .int .i64 (h : Nat)]] w fun e w' => e = .returned (.int .i64 (h : Nat)) ∧ Below w.heap.size w w' := by
  have tok : True := trivial
  go_enter Tryd.func33, Tryd.ntmps33
  go_wp2_with (refine wpList_box49 rfl (.tmp 0) p (h : Nat) rfl rfl ?_; intro w1 N1; have c0 := N1.cell 0 _ rfl; have c1 := N1.cell 1 _ rfl)
  go_ret
  exact ⟨rfl, N1.below⟩
theorem root_any (p : Option Addr) (h : Nat) (w : World) : Calls Tryd.prog 34 #[.agg #[.pointer p, .int .i64 (h : Nat)]] w fun e w' => e = .returned (.pointer p) ∧ Below w.heap.size w w' := by
  go_enter Tryd.func34, Tryd.ntmps34
  go_wp2_with (refine wpList_box49 rfl (.tmp 0) p (h : Nat) rfl rfl ?_; intro w1 N1; have c0 := N1.cell 0 _ rfl; have c1 := N1.cell 1 _ rfl)
  go_ret
  exact ⟨rfl, N1.below⟩
theorem zzRaise_any (ok : Nat → Prop) (f h : Nat) (hfh : f ≤ h) (hh : h ≤ 4) (p : Option Addr) (S : List Int) (w : World) (hn : Node ok f w 0 p S) :
    Calls Tryd.prog 35 #[.pointer p, .int .i64 (f : Nat), .int .i64 (h : Nat)] w fun e w' => ∃ p', e = .returned (.pointer p') ∧ Node (fun b => ok b ∨ w.heap.size ≤ b) h w' 0 p' S ∧ Below w.heap.size w w' := by
  have HC := hid_of (raise_any ok f h hfh hh p S w hn)
  clear hn
  go_enter Tryd.func35, Tryd.ntmps35
  go_wp2_with (go_at_call 44; refine HC.out.mono ?_; rintro _ w1 ⟨p', rfl, hn1, hb1⟩; have HN1 := hid_of hn1; clear hn1)
  go_ret
  exact ⟨p', rfl, HN1.out, hb1⟩
end Go.Proofs.Qxb6609120aDoor
