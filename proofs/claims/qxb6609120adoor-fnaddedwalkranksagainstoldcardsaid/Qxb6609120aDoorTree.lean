/-
  A SET's TREE IN MEMORY: nil, a list, a leaf of 64 words, an inner node of 64 children.
-/
import Derived.Test.Qxb6609120aDoorLists
import Derived.Deep.MidRow
import Derived.Deep.Upon
namespace Go.Proofs.Qxb6609120aDoor
open Go.RowKit
open Plain (Srt Asc)
set_option linter.unusedVariables false

/-- How many ordinals a node of height h covers. -/
def spn (h : Nat) : Nat := 4096 * 64 ^ h
theorem spn_succ (h : Nat) : spn (h + 1) = 64 * spn h := by unfold spn; rw [Nat.pow_succ]; omega
theorem spn_pos (h : Nat) : 0 < spn h := by unfold spn; exact Nat.mul_pos (by decide) (Nat.pow_pos (by decide))

/-- The struct's three cells. -/
structure NCell (w : World) (b : Nat) (k ws : Option Addr) (ls : Value) : Prop where
  kids : w.cell? ⟨b, 0, none⟩ = some (.pointer k)
  words : w.cell? ⟨b, 1, none⟩ = some (.pointer ws)
  list : w.cell? ⟨b, 2, none⟩ = some ls
  obj : ∃ cs t, w.heap[b]? = some (.cells cs t (0, 0))
theorem NCell.lt {w : World} {b : Nat} {k ws : Option Addr} {ls : Value} (h : NCell w b k ws ls) : b < w.heap.size := World.block_lt_of_cell? w _ h.kids
theorem NCell.keep {w w' : World} {b : Nat} {k ws : Option Addr} {ls : Value} (h : NCell w b k ws ls) (hb : Below w.heap.size w w') : NCell w' b k ws ls :=
  ⟨cell_below hb h.kids, cell_below hb h.words, cell_below hb h.list, by rw [hb.block _ h.lt]; exact h.obj⟩

/-- Ascending, from lo up to hi. -/
structure Ran (S : List Int) (lo hi : Nat) : Prop where
  asc : Asc S
  lo : ∀ x ∈ S, (lo : Int) ≤ x
  hi : ∀ x ∈ S, x < (hi : Int)

/-- A node that is a list. -/
structure ListN (w : World) (S : List Int) (b lb lo cap : Nat) : Prop where
  cells : NCell w b none none (.slice (some ⟨lb, lo, none⟩) S.length cap)
  ne : S ≠ []
  cap : S.length ≤ cap
  few : S.length ≤ 1024
  row : At .u32 w lb lo S
theorem ListN.keep {w w' : World} {S : List Int} {b lb lo cap : Nat} (h : ListN w S b lb lo cap) (hb : Below w.heap.size w w') : ListN w' S b lb lo cap :=
  ⟨h.cells.keep hb, h.ne, h.cap, h.few, h.row.keep hb⟩

/-- Is x's bit set in the words? -/
def bit (W : Nat → Nat) (x : Int) : Bool := (W (x.toNat / 64 % 64)).testBit (x.toNat % 64)
/-- 64 words lie in block wb. -/
structure Words (w : World) (wb : Nat) (W : Nat → Nat) : Prop where
  cell : ∀ i, i < 64 → w.cell? ⟨wb, i, none⟩ = some (.int .u64 (W i : Int))
  lt : ∀ i, i < 64 → W i < 18446744073709551616
theorem Words.keep {w w' : World} {wb : Nat} {W : Nat → Nat} (h : Words w wb W) (hb : Below w.heap.size w w') : Words w' wb W :=
  ⟨fun i hi => cell_below hb (h.cell i hi), h.lt⟩
/-- A node that is a leaf of bits. -/
structure WordN (w : World) (base : Nat) (S : List Int) (b wb : Nat) (W : Nat → Nat) : Prop where
  cells : NCell w b none (some ⟨wb, 0, none⟩) (.slice none 0 0)
  words : Words w wb W
  mem : ∀ x : Int, (base : Int) ≤ x → x < (base : Int) + 4096 → (x ∈ S ↔ bit W x = true)
theorem WordN.keep {w w' : World} {base : Nat} {S : List Int} {b wb : Nat} {W : Nat → Nat} (h : WordN w base S b wb W) (hb : Below w.heap.size w w') : WordN w' base S b wb W :=
  ⟨h.cells.keep hb, h.words.keep hb, h.mem⟩
/-- 64 children's pointers lie in block kb. -/
def Kids (w : World) (kb : Nat) (K : Nat → Option Addr) : Prop := ∀ i, i < 64 → w.cell? ⟨kb, i, none⟩ = some (.pointer (K i))
theorem Kids.keep {w w' : World} {kb : Nat} {K : Nat → Option Addr} (h : Kids w kb K) (hb : Below w.heap.size w w') : Kids w' kb K :=
  fun i hi => cell_below hb (h i hi)

/-! ### The same in another world in which the blocks stand as they stood -/
theorem cell_moved {w w' : World} {b : Nat} (h : w'.heap[b]? = w.heap[b]?) (i : Nat) : w'.cell? ⟨b, i, none⟩ = w.cell? ⟨b, i, none⟩ := by
  simp [World.cell?, h]
theorem NCell.move {w w' : World} {b : Nat} {k ws : Option Addr} {ls : Value} (h : NCell w b k ws ls) (e : w'.heap[b]? = w.heap[b]?) : NCell w' b k ws ls :=
  ⟨by rw [cell_moved e]; exact h.kids, by rw [cell_moved e]; exact h.words, by rw [cell_moved e]; exact h.list, by rw [e]; exact h.obj⟩
theorem At.move {k : IntKind} {w w' : World} {b off : Nat} {l : List Int} (h : At k w b off l) (e : w'.heap[b]? = w.heap[b]?) : At k w' b off l := ⟨fun i hi => by rw [cell_moved e]; exact h.cell i hi⟩
theorem ListN.move {w w' : World} {S : List Int} {b lb lo cap : Nat} (h : ListN w S b lb lo cap) (e : w'.heap[b]? = w.heap[b]?) (e' : w'.heap[lb]? = w.heap[lb]?) : ListN w' S b lb lo cap :=
  ⟨h.cells.move e, h.ne, h.cap, h.few, h.row.move e'⟩
theorem Words.move {w w' : World} {wb : Nat} {W : Nat → Nat} (h : Words w wb W) (e : w'.heap[wb]? = w.heap[wb]?) : Words w' wb W := ⟨fun i hi => by rw [cell_moved e]; exact h.cell i hi, h.lt⟩
theorem WordN.move {w w' : World} {base : Nat} {S : List Int} {b wb : Nat} {W : Nat → Nat} (h : WordN w base S b wb W) (e : w'.heap[b]? = w.heap[b]?) (e' : w'.heap[wb]? = w.heap[wb]?) : WordN w' base S b wb W :=
  ⟨h.cells.move e, h.words.move e', h.mem⟩
theorem Kids.move {w w' : World} {kb : Nat} {K : Nat → Option Addr} (h : Kids w kb K) (e : w'.heap[kb]? = w.heap[kb]?) : Kids w' kb K := fun i hi => by rw [cell_moved e]; exact h i hi
theorem Kids.lt {w : World} {kb : Nat} {K : Nat → Option Addr} (h : Kids w kb K) : kb < w.heap.size := World.block_lt_of_cell? w _ (h 0 (by decide))
theorem Words.lt_size {w : World} {wb : Nat} {V : Nat → Nat} (h : Words w wb V) : wb < w.heap.size := World.block_lt_of_cell? w ⟨wb, 0, none⟩ (h.cell 0 (by decide))

/-- The pointer p leads to a node of height h whose span begins at base; it holds the ordinals S; all its blocks are 'ok'. -/
def Node (ok : Nat → Prop) : Nat → World → Nat → Option Addr → List Int → Prop
  | 0, w, base, p, S => Ran S base (base + spn 0) ∧
    ((p = none ∧ S = []) ∨ (∃ b lb lo cap, p = some ⟨b, 0, none⟩ ∧ ListN w S b lb lo cap ∧ ok b ∧ ok lb) ∨ ∃ b wb W, p = some ⟨b, 0, none⟩ ∧ WordN w base S b wb W ∧ ok b ∧ ok wb)
  | h + 1, w, base, p, S => Ran S base (base + spn (h + 1)) ∧
    ((p = none ∧ S = []) ∨ (∃ b lb lo cap, p = some ⟨b, 0, none⟩ ∧ ListN w S b lb lo cap ∧ ok b ∧ ok lb) ∨
      ∃ (b kb : Nat) (K : Nat → Option Addr) (L : Nat → List Int), p = some ⟨b, 0, none⟩ ∧ NCell w b (some ⟨kb, 0, none⟩) none (.slice none 0 0) ∧ Kids w kb K ∧
        (∀ i, i < 64 → Node ok h w (base + i * spn h) (K i) (L i)) ∧ (∀ x, x ∈ S ↔ ∃ i, i < 64 ∧ x ∈ L i) ∧ ok b ∧ ok kb)

theorem Node.ran {ok : Nat → Prop} : ∀ {h : Nat} {w : World} {base : Nat} {p : Option Addr} {S : List Int}, Node ok h w base p S → Ran S base (base + spn h)
  | 0, _, _, _, _, h => h.1
  | _ + 1, _, _, _, _, h => h.1

/-- In a world in which its blocks stand as they stood; what is ok may be widened. -/
theorem Node.go {ok ok' : Nat → Prop} : ∀ {h : Nat} {w w' : World} {base : Nat} {p : Option Addr} {S : List Int}, Node ok h w base p S → (∀ b, ok b → b < w.heap.size → w'.heap[b]? = w.heap[b]?) → (∀ b, ok b → b < w.heap.size → ok' b) → Node ok' h w' base p S
  | 0, w, w', base, p, S, h, hm, ho => by
    refine ⟨h.1, ?_⟩
    rcases h.2 with h | ⟨b, lb, lo, cap, hp, hl, o1, o2⟩ | ⟨b, wb, W, hp, hw, o1, o2⟩
    · exact Or.inl h
    · have l1 := hl.cells.lt
      have l2 := hl.row.lt hl.ne
      exact Or.inr (Or.inl ⟨b, lb, lo, cap, hp, hl.move (hm _ o1 l1) (hm _ o2 l2), ho _ o1 l1, ho _ o2 l2⟩)
    · have l1 := hw.cells.lt
      have l2 := hw.words.lt_size
      exact Or.inr (Or.inr ⟨b, wb, W, hp, hw.move (hm _ o1 l1) (hm _ o2 l2), ho _ o1 l1, ho _ o2 l2⟩)
  | n + 1, w, w', base, p, S, h, hm, ho => by
    refine ⟨h.1, ?_⟩
    rcases h.2 with h | ⟨b, lb, lo, cap, hp, hl, o1, o2⟩ | ⟨b, kb, K, L, hp, hc, hk, hn, hmm, o1, o2⟩
    · exact Or.inl h
    · have l1 := hl.cells.lt
      have l2 := hl.row.lt hl.ne
      exact Or.inr (Or.inl ⟨b, lb, lo, cap, hp, hl.move (hm _ o1 l1) (hm _ o2 l2), ho _ o1 l1, ho _ o2 l2⟩)
    · have l1 := hc.lt
      have l2 := hk.lt
      exact Or.inr (Or.inr ⟨b, kb, K, L, hp, hc.move (hm _ o1 l1), hk.move (hm _ o2 l2), fun i hi => (hn i hi).go hm ho, hmm, ho _ o1 l1, ho _ o2 l2⟩)
theorem Node.keep {ok : Nat → Prop} {h : Nat} {w w' : World} {base : Nat} {p : Option Addr} {S : List Int} (H : Node ok h w base p S) (hb : Below w.heap.size w w') : Node ok h w' base p S :=
  H.go (fun b _ hlt => hb.block b hlt) (fun b ho _ => ho)
theorem Node.wide {ok ok' : Nat → Prop} {h : Nat} {w : World} {base : Nat} {p : Option Addr} {S : List Int} (H : Node ok h w base p S) (ho : ∀ b, ok b → ok' b) : Node ok' h w base p S :=
  H.go (fun b _ hlt => rfl) (fun b h _ => ho b h)

theorem Node.nil (ok : Nat → Prop) (h : Nat) (w : World) (base : Nat) : Node ok h w base none [] := by
  have hr : Ran [] base (base + spn h) := ⟨List.Pairwise.nil, by simp, by simp⟩
  cases h with
  | zero => exact ⟨hr, Or.inl ⟨rfl, rfl⟩⟩
  | succ n => exact ⟨hr, Or.inl ⟨rfl, rfl⟩⟩
theorem Node.list {ok : Nat → Prop} {h : Nat} {w : World} {base : Nat} {S : List Int} {b lb lo cap : Nat} (hr : Ran S base (base + spn h)) (hl : ListN w S b lb lo cap) (o1 : ok b) (o2 : ok lb) : Node ok h w base (some ⟨b, 0, none⟩) S := by
  cases h with
  | zero => exact ⟨hr, Or.inr (Or.inl ⟨b, lb, lo, cap, rfl, hl, o1, o2⟩)⟩
  | succ n => exact ⟨hr, Or.inr (Or.inl ⟨b, lb, lo, cap, rfl, hl, o1, o2⟩)⟩

/-- n.holdsList(): nil or a list. -/
theorem holdsList_nil (w : World) : Calls Tryd.prog 70 #[.pointer none] w fun e w' => e = .returned (.bool true) ∧ w' = w := by
  go_enter Tryd.func70, Tryd.ntmps70
  go_wp2
  go_ret
  exact ⟨rfl, rfl⟩
theorem holdsList_at (w : World) (b : Nat) (k ws a : Option Addr) (n c : Nat) (h : NCell w b k ws (.slice a n c)) : Calls Tryd.prog 70 #[.pointer (some ⟨b, 0, none⟩)] w fun e w' => e = .returned (.bool a.isSome) ∧ w' = w := by
  have h2 := h.list
  have hq := neq_slice w 69 109 a n c Tryd.underlying69
  go_enter Tryd.func70, Tryd.ntmps70
  go_wp2
  go_ret
  exact ⟨rfl, rfl⟩
end Go.Proofs.Qxb6609120aDoor
