/-
  with's second closure: a child made anew.
-/
import Derived.Test.Qxb6609120aDoorKids
namespace Go.Proofs.Qxb6609120aDoor
open Go.RowKit
open Plain (Srt Asc)
set_option linter.unusedVariables false

/-- with, at height h: what the induction knows. -/
def WithAt (h : Nat) : Prop := ∀ (ok : Nat → Prop) (base : Nat) (p : Option Addr) (S O : List Int) (ob oo cap : Nat) (w : World), Node ok h w base p S → (∀ x ∈ S, x < 4294967296) → Ords w base h ob oo cap O → base + spn h ≤ 1099511627776 →
    Calls Tryd.prog 53 #[.pointer p, .int .i64 (h : Nat), .int .i64 (base : Nat), .slice (some ⟨ob, oo, none⟩) O.length cap] w fun e w' => Out ok h w w' base S O e

set_option maxRecDepth 10000 in
theorem with2_any (ok : Nat → Prop) (h base hb kb cb vb : Nat) (ih : WithAt h) (w w1 : World) (lie : Lie w hb kb cb vb) (S0 O : List Int) (ob oo : Nat) (hO : Srt O) (hrow : At .i64 w ob oo O) (h32 : ∀ x ∈ O, 0 ≤ x ∧ x < 4294967296) (hlen : O.length ≤ 1048576) (hS32 : ∀ x ∈ S0, x < 4294967296) (hh4 : h ≤ 4) (hbig : base + spn (h + 1) ≤ 1099511627776)
    (m n i cp : Nat) (hi : i < 64) (hp : Part O base (spn h) m n i) (hcp : n - m ≤ cp) (hI : Inn ok h w w1 base hb kb cb vb (fun x => x ∈ S0 ∨ x ∈ O.take m)) :
    Calls Tryd.prog 78 #[.int .i64 (i : Nat), .int .i64 ((base + i * spn h : Nat) : Int), .slice (some ⟨ob, oo + m, none⟩) (n - m) cp, .pointer (some ⟨vb, 0, none⟩), .pointer (some ⟨hb, 0, none⟩)] w1 fun e w' => e = .returned (.tuple #[]) ∧ Inn ok h w w' base hb kb cb vb (fun x => x ∈ S0 ∨ x ∈ O.take n) := by
  obtain ⟨K, L, hK, hN, hT⟩ := hI.kids
  have hv := hI.vcell
  have hk := hI.node.kids
  have hh := hI.hcell
  have hf := hI.warm.warm i hi
  have hki := hK i hi
  have hkb := hK.lt
  have n1 := lie.n1
  have n2 := lie.n2
  have n3 := lie.n3
  have hple := hp.le
  have hwr := wrap_h h hh4
  have hii : ((i : Nat) : Int) < 64 := by omega
  have hi0 : (0 : Int) ≤ (i : Nat) := by omega
  have hpl : ((O.drop m).take (n - m)).length = n - m := by have := hp.lt; simp; omega
  have hpn : (O.drop m).take (n - m) ≠ [] := by intro e; rw [e] at hpl; have := hp.lt; simp at hpl; omega
  have hord : Ords w1 (base + i * spn h) h ob (oo + m) cp ((O.drop m).take (n - m)) :=
    ⟨List.Pairwise.sublist ((List.take_sublist _ _).trans (List.drop_sublist _ _)) hO, hpn, hp.lo, hp.hi, fun x hx => (h32 x (List.mem_of_mem_drop (List.mem_of_mem_take hx))).2, ((hrow.keep hI.below).drop m).take _, by omega, by omega⟩
  have hLi : ∀ x ∈ L i, x < 4294967296 := fun x hx => ((hT x).1 ⟨i, hi, hx⟩).elim (hS32 x) (fun h' => (h32 x (List.mem_of_mem_take h')).2)
  have hbg : base + i * spn h + spn h ≤ 1099511627776 := by
    have h1 := spn_succ h
    have h2 : (i + 1) * spn h ≤ 64 * spn h := Nat.mul_le_mul_right _ (by omega)
    rw [Nat.add_mul, Nat.one_mul] at h2
    omega
  have HC : Hid (Calls Tryd.prog 53 #[.pointer (K i), .int .i64 (h : Nat), .int .i64 ((base + i * spn h : Nat) : Int), .slice (some ⟨ob, oo + m, none⟩) (n - m) cp] w1.drew fun e w' => Out (fun b => (ok b ∨ w.heap.size ≤ b) ∧ b ≠ kb) h w1.drew w' (base + i * spn h) (L i) ((O.drop m).take (n - m)) e) := by
    have := ih _ (base + i * spn h) (K i) (L i) ((O.drop m).take (n - m)) ob (oo + m) cp w1.drew ((hN i hi).keep (Below.refl _ _).drew) hLi (hord.keep (Below.refl _ _).drew) hbg
    rw [hpl] at this
    exact this
  have HF : Hid (∀ w4 g S', Node (fun b => ((ok b ∨ w.heap.size ≤ b) ∧ b ≠ kb) ∨ w1.drew.heap.size ≤ b) h w4 (base + i * spn h) (some ⟨g, 0, none⟩) S' → Below w1.drew.heap.size w1.drew w4 → (∀ x, x ∈ S' ↔ x ∈ L i ∨ x ∈ (O.drop m).take (n - m)) → Inn ok h w (w4.setCell ⟨kb, i, none⟩ (.pointer (some ⟨g, 0, none⟩))) base hb kb cb vb (fun x => x ∈ S0 ∨ x ∈ O.take n)) := fun w4 g S' hg hb4 hm => by
    have hb4' : Below w1.heap.size w1 w4 := (Below.refl _ _).drew.trans hb4
    refine Inn.set lie hI.below hI.hcell hI.vcell hI.node hI.warm hK hN hb4' i hi _ _ (hg.wide fun b hb => ?_) fun x => ?_
    · rcases hb with hb | hb
      · exact hb
      · have hb : w1.heap.size ≤ b := hb
        exact ⟨Or.inr (Nat.le_trans hI.below.size hb), by omega⟩
    · rw [take_part O hp.lt, List.mem_append, ← or_assoc, ← hT x, hm x]
      constructor
      · rintro ((hx | hx) | ⟨j, hj, _, hx⟩)
        · exact Or.inl ⟨i, hi, hx⟩
        · exact Or.inr hx
        · exact Or.inl ⟨j, hj, hx⟩
      · rintro (⟨j, hj, hx⟩ | hx)
        · by_cases e : j = i
          · subst e; exact Or.inl (Or.inl hx)
          · exact Or.inr ⟨j, hj, e, hx⟩
        · exact Or.inl (Or.inr hx)
  clear hpl hpn hord hLi hK hN hT hbg
  generalize base + i * spn h = st at HC HF ⊢
  go_enter Tryd.func78, Tryd.ntmps78
  go_wp2_with fail
  refine wp_region_noPanic ?_
  refine wp_region_held_drew (S := (fun w' => w'.cell? ⟨vb, 0, none⟩ = some (.pointer (some ⟨cb, 0, none⟩)) ∧ w'.cell? ⟨cb, 0, none⟩ = some (.pointer (some ⟨kb, 0, none⟩)) ∧ w'.cell? ⟨hb, 0, none⟩ = some (.int .i64 ((h : Int) + 1)))) (by kernel_rfl) (c1_start hv hk hh) (fun hHeld => ?_)
  refine wpAnyH_take (i := 0) (oi := { dst := some 8, op := Op.load 38 (Operand.tmp 3), type := 38, pos := "rowset.go:207", after := #[], guard := none }) (v := .pointer (some ⟨cb, 0, none⟩)) rfl (by kernel_rfl) (by kernel_rfl) (by kernel_rfl) (fun _ _ _ h => h) (Or.inl ⟨by rfl, ?_⟩) hHeld ?_
  · intro w hSw; go_simp
  simp only [Act.put, List.setIfInBounds_toArray, List.set_cons_zero, List.set_cons_succ]
  refine wpAnyH_take (i := 1) (oi := { dst := some 9, op := Op.nilCheck (Operand.tmp 8), type := 0, pos := "rowset.go:207", after := #[{ on := 0, ground := Ground.data }], guard := none }) (v := .pointer (some ⟨cb, 0, none⟩)) rfl (by kernel_rfl) (by kernel_rfl) (by kernel_rfl) (fun _ _ _ h => h) (Or.inl ⟨by rfl, ?_⟩) hHeld ?_
  · intro w hSw; go_simp
  simp only [Act.put, List.setIfInBounds_toArray, List.set_cons_zero, List.set_cons_succ]
  refine wpAnyH_take (i := 2) (oi := { dst := some 10, op := Op.fieldAddr 88 (Operand.tmp 9) 0, type := 0, pos := "rowset.go:207", after := #[{ on := 1, ground := Ground.data }], guard := none }) (v := .pointer (some ⟨cb, 0, none⟩)) rfl (by kernel_rfl) (by kernel_rfl) (by kernel_rfl) (fun _ _ _ h => h) (Or.inl ⟨by rfl, ?_⟩) hHeld ?_
  · intro w hSw; go_simp
  simp only [Act.put, List.setIfInBounds_toArray, List.set_cons_zero, List.set_cons_succ]
  refine wpAnyH_take (i := 3) (oi := { dst := some 11, op := Op.load 85 (Operand.tmp 10), type := 85, pos := "rowset.go:207", after := #[{ on := 2, ground := Ground.data }], guard := none }) (v := .pointer (some ⟨kb, 0, none⟩)) rfl (by kernel_rfl) (by kernel_rfl) (by kernel_rfl) (fun _ _ _ h => h) (Or.inl ⟨by rfl, ?_⟩) hHeld ?_
  · intro w hSw; go_simp
  simp only [Act.put, List.setIfInBounds_toArray, List.set_cons_zero, List.set_cons_succ]
  refine wpAnyH_take (i := 4) (oi := { dst := some 12, op := Op.move (Operand.tmp 0), type := 3, pos := "rowset.go:207", after := #[], guard := none }) (v := .int .i64 (i : Nat)) rfl (by kernel_rfl) (by kernel_rfl) (by kernel_rfl) (fun _ _ _ h => h) (Or.inl ⟨by rfl, ?_⟩) hHeld ?_
  · intro w hSw; go_simp
  simp only [Act.put, List.setIfInBounds_toArray, List.set_cons_zero, List.set_cons_succ]
  refine wpAnyH_take (i := 5) (oi := { dst := some 13, op := Op.load 38 (Operand.tmp 3), type := 38, pos := "rowset.go:207", after := #[], guard := none }) (v := .pointer (some ⟨cb, 0, none⟩)) rfl (by kernel_rfl) (by kernel_rfl) (by kernel_rfl) (fun _ _ _ h => h) (Or.inl ⟨by rfl, ?_⟩) hHeld ?_
  · intro w hSw; go_simp
  simp only [Act.put, List.setIfInBounds_toArray, List.set_cons_zero, List.set_cons_succ]
  refine wpAnyH_take (i := 6) (oi := { dst := some 14, op := Op.nilCheck (Operand.tmp 13), type := 0, pos := "rowset.go:207", after := #[{ on := 5, ground := Ground.data }], guard := none }) (v := .pointer (some ⟨cb, 0, none⟩)) rfl (by kernel_rfl) (by kernel_rfl) (by kernel_rfl) (fun _ _ _ h => h) (Or.inl ⟨by rfl, ?_⟩) hHeld ?_
  · intro w hSw; go_simp
  simp only [Act.put, List.setIfInBounds_toArray, List.set_cons_zero, List.set_cons_succ]
  refine wpAnyH_take (i := 7) (oi := { dst := some 15, op := Op.fieldAddr 88 (Operand.tmp 14) 0, type := 0, pos := "rowset.go:207", after := #[{ on := 6, ground := Ground.data }], guard := none }) (v := .pointer (some ⟨cb, 0, none⟩)) rfl (by kernel_rfl) (by kernel_rfl) (by kernel_rfl) (fun _ _ _ h => h) (Or.inl ⟨by rfl, ?_⟩) hHeld ?_
  · intro w hSw; go_simp
  simp only [Act.put, List.setIfInBounds_toArray, List.set_cons_zero, List.set_cons_succ]
  refine wpAnyH_take (i := 8) (oi := { dst := some 16, op := Op.load 85 (Operand.tmp 15), type := 85, pos := "rowset.go:207", after := #[{ on := 7, ground := Ground.data }], guard := none }) (v := .pointer (some ⟨kb, 0, none⟩)) rfl (by kernel_rfl) (by kernel_rfl) (by kernel_rfl) (fun _ _ _ h => h) (Or.inl ⟨by rfl, ?_⟩) hHeld ?_
  · intro w hSw; go_simp
  simp only [Act.put, List.setIfInBounds_toArray, List.set_cons_zero, List.set_cons_succ]
  refine wpAnyH_take (i := 9) (oi := { dst := some 17, op := Op.move (Operand.tmp 0), type := 3, pos := "rowset.go:207", after := #[], guard := none }) (v := .int .i64 (i : Nat)) rfl (by kernel_rfl) (by kernel_rfl) (by kernel_rfl) (fun _ _ _ h => h) (Or.inl ⟨by rfl, ?_⟩) hHeld ?_
  · intro w hSw; go_simp
  simp only [Act.put, List.setIfInBounds_toArray, List.set_cons_zero, List.set_cons_succ]
  refine wpAnyH_take (i := 10) (oi := { dst := some 18, op := Op.nilCheck (Operand.tmp 16), type := 0, pos := "rowset.go:207", after := #[{ on := 8, ground := Ground.data }], guard := none }) (v := .pointer (some ⟨kb, 0, none⟩)) rfl (by kernel_rfl) (by kernel_rfl) (by kernel_rfl) (fun _ _ _ h => h) (Or.inl ⟨by rfl, ?_⟩) hHeld ?_
  · intro w hSw; go_simp
  simp only [Act.put, List.setIfInBounds_toArray, List.set_cons_zero, List.set_cons_succ]
  refine wpAnyH_take (i := 11) (oi := { dst := some 19, op := Op.indexAddr 106 (Operand.tmp 18) (Operand.tmp 17), type := 0, pos := "rowset.go:207", after := #[{ on := 10, ground := Ground.data }, { on := 9, ground := Ground.data }], guard := none }) (v := .pointer (some ⟨kb, i, none⟩)) rfl (by kernel_rfl) (by kernel_rfl) (by kernel_rfl) (fun _ _ _ h => h) (Or.inl ⟨by rfl, ?_⟩) hHeld ?_
  · intro w hSw; go_simp
  simp only [Act.put, List.setIfInBounds_toArray, List.set_cons_zero, List.set_cons_succ]
  refine wpAnyH_take (i := 13) (oi := { dst := some 21, op := Op.load 3 (Operand.tmp 4), type := 3, pos := "rowset.go:207", after := #[], guard := none }) (v := .int .i64 ((h : Int) + 1)) rfl (by kernel_rfl) (by kernel_rfl) (by kernel_rfl) (fun _ _ _ h => h) (Or.inl ⟨by rfl, ?_⟩) hHeld ?_
  · intro w hSw; go_simp
  simp only [Act.put, List.setIfInBounds_toArray, List.set_cons_zero, List.set_cons_succ]
  refine wpAnyH_take (i := 14) (oi := { dst := some 22, op := Op.binOp BinOp.sub 3 (Operand.tmp 21) (Operand.const (Value.int IntKind.i64 1)) 3, type := 3, pos := "rowset.go:207", after := #[{ on := 13, ground := Ground.data }], guard := none }) (v := .int .i64 (h : Nat)) rfl (by kernel_rfl) (by kernel_rfl) (by kernel_rfl) (fun _ _ _ h => h) (Or.inl ⟨by rfl, ?_⟩) hHeld ?_
  · intro w hSw; go_simp
  simp only [Act.put, List.setIfInBounds_toArray, List.set_cons_zero, List.set_cons_succ]
  refine wpAnyH_take (i := 15) (oi := { dst := some 23, op := Op.move (Operand.tmp 1), type := 2, pos := "rowset.go:207", after := #[], guard := none }) (v := .int .i64 (st : Nat)) rfl (by kernel_rfl) (by kernel_rfl) (by kernel_rfl) (fun _ _ _ h => h) (Or.inl ⟨by rfl, ?_⟩) hHeld ?_
  · intro w hSw; go_simp
  simp only [Act.put, List.setIfInBounds_toArray, List.set_cons_zero, List.set_cons_succ]
  refine wpAnyH_take (i := 16) (oi := { dst := some 24, op := Op.move (Operand.tmp 2), type := 35, pos := "rowset.go:207", after := #[], guard := none }) (v := .slice (some ⟨ob, oo + m, none⟩) (n - m) cp) rfl (by kernel_rfl) (by kernel_rfl) (by kernel_rfl) (fun _ _ _ h => h) (Or.inl ⟨by rfl, ?_⟩) hHeld ?_
  · intro w hSw; go_simp
  simp only [Act.put, List.setIfInBounds_toArray, List.set_cons_zero, List.set_cons_succ]
  refine wpAnyH_take (i := 18) (oi := { dst := some 26, op := Op.nilCheck (Operand.tmp 11), type := 0, pos := "rowset.go:207", after := #[{ on := 3, ground := Ground.data }], guard := none }) (v := .pointer (some ⟨kb, 0, none⟩)) rfl (by kernel_rfl) (by kernel_rfl) (by kernel_rfl) (fun _ _ _ h => h) (Or.inl ⟨by rfl, ?_⟩) hHeld ?_
  · intro w hSw; go_simp
  simp only [Act.put, List.setIfInBounds_toArray, List.set_cons_zero, List.set_cons_succ]
  refine wpAnyH_ready (rs := [12]) (by kernel_rfl) (by simp) ?_
  refine AllReadyH.cons (o := { dst := some 20, op := Op.load 38 (Operand.tmp 19), type := 38, pos := "rowset.go:207", after := #[{ on := 11, ground := Ground.data }], guard := none }) rfl (fun Kc hKc => ?_) AllReadyH.nil
  go_simp
  refine hKc.out _ _ hHeld (fun hHeld => ?_)
  clear hKc Kc
  try simp only [Act.put, List.setIfInBounds_toArray, List.set_cons_zero, List.set_cons_succ]
  refine wpAnyH_ready (rs := [17]) (by kernel_rfl) (by simp) ?_
  refine AllReadyH.cons (o := { dst := some 25, op := Op.call { callee := Callee.value (Operand.func 53), args := #[Operand.tmp 20, Operand.tmp 22, Operand.tmp 23, Operand.tmp 24], argTypes := #[38, 3, 2, 35] }, type := 38, pos := "rowset.go:207", after := #[{ on := 12, ground := Ground.data }, { on := 14, ground := Ground.data }, { on := 15, ground := Ground.data }, { on := 16, ground := Ground.data }], guard := none }) rfl (fun Kc hKc => ?_) AllReadyH.nil
  go_simp
  refine HC.out.mono ?_
  rintro _ w4 ⟨⟨g, S', rfl, hg, hm⟩, hb4⟩
  have hki4 : w4.cell? ⟨kb, i, none⟩ = some (.pointer (K i)) := cell_below hb4 hki
  have hf4 : w4.frozen? ⟨kb, i, none⟩ = false := (hb4.frozen (p := ⟨kb, i, none⟩) hkb).trans hf
  have HM : Hid (∀ x, x ∈ S' ↔ x ∈ L i ∨ x ∈ (O.drop m).take (n - m)) := hm
  clear hm
  go_wp2_with fail
  refine hKc.out _ _ (c1_call hHeld hb4) (fun hHeld => ?_)
  clear hKc Kc
  try simp only [Act.put, List.setIfInBounds_toArray, List.set_cons_zero, List.set_cons_succ]
  refine wpAnyH_take (i := 19) (oi := { dst := some 27, op := Op.indexAddr 106 (Operand.tmp 26) (Operand.tmp 12), type := 0, pos := "rowset.go:207", after := #[{ on := 18, ground := Ground.data }, { on := 4, ground := Ground.data }, { on := 0, ground := Ground.phase }, { on := 1, ground := Ground.phase }, { on := 2, ground := Ground.phase }, { on := 3, ground := Ground.phase }, { on := 4, ground := Ground.phase }, { on := 5, ground := Ground.phase }, { on := 6, ground := Ground.phase }, { on := 7, ground := Ground.phase }, { on := 8, ground := Ground.phase }, { on := 9, ground := Ground.phase }, { on := 10, ground := Ground.phase }, { on := 11, ground := Ground.phase }, { on := 12, ground := Ground.phase }, { on := 13, ground := Ground.phase }, { on := 14, ground := Ground.phase }, { on := 15, ground := Ground.phase }, { on := 16, ground := Ground.phase }, { on := 17, ground := Ground.phase }], guard := none }) (v := .pointer (some ⟨kb, i, none⟩)) rfl (by kernel_rfl) (by kernel_rfl) (by kernel_rfl) (fun _ _ _ h => h) (Or.inl ⟨by rfl, ?_⟩) hHeld ?_
  · intro w hSw; go_simp
  simp only [Act.put, List.setIfInBounds_toArray, List.set_cons_zero, List.set_cons_succ]
  refine wpAnyH_ready (rs := [20]) (by kernel_rfl) (by simp) ?_
  refine AllReadyH.cons (o := { dst := none, op := Op.store 38 (Operand.tmp 27) (Operand.tmp 25), type := 0, pos := "rowset.go:207", after := #[{ on := 19, ground := Ground.data }, { on := 17, ground := Ground.data }, { on := 17, ground := Ground.chain }, { on := 0, ground := Ground.phase }, { on := 1, ground := Ground.phase }, { on := 2, ground := Ground.phase }, { on := 3, ground := Ground.phase }, { on := 4, ground := Ground.phase }, { on := 5, ground := Ground.phase }, { on := 6, ground := Ground.phase }, { on := 7, ground := Ground.phase }, { on := 8, ground := Ground.phase }, { on := 9, ground := Ground.phase }, { on := 10, ground := Ground.phase }, { on := 11, ground := Ground.phase }, { on := 12, ground := Ground.phase }, { on := 13, ground := Ground.phase }, { on := 14, ground := Ground.phase }, { on := 15, ground := Ground.phase }, { on := 16, ground := Ground.phase }, { on := 17, ground := Ground.phase }], guard := none }) rfl (fun Kc hKc => ?_) AllReadyH.nil
  go_simp
  refine hKc.out _ _ (c1_store n1 n2 n3 hHeld) (fun hHeld => ?_)
  clear hKc Kc
  try simp only [Act.put, List.setIfInBounds_toArray, List.set_cons_zero, List.set_cons_succ]
  refine wpAnyH_done (by kernel_rfl) ?_ _
  refine NoPanic.normal ?_
  go_wp2_with fail
  go_end0
  exact ⟨rfl, HF.out w4 g S' hg hb4 HM.out⟩
end Go.Proofs.Qxb6609120aDoor
