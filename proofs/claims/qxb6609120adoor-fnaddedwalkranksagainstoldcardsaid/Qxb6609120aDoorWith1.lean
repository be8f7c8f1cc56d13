/-
  rowNode.with: the leaf of bits.
-/
import Derived.Test.Qxb6609120aDoorWith0
namespace Go.Proofs.Qxb6609120aDoor
open Go.RowKit
open Plain (Srt Asc)
set_option linter.unusedVariables false

theorem there_below {w w' : World} {wb n : Nat} (h : w.there wb 0 n) (hb : Below w.heap.size w w') : w'.there wb 0 n := fun j hj => by
  obtain ⟨h1, h2⟩ := h j hj
  obtain ⟨v, hv⟩ := Option.isSome_iff_exists.1 h1
  have hlt := World.block_lt_of_cell? w _ hv
  exact ⟨by rw [cell_below hb hv]; rfl, by rw [hb.frozen (p := ⟨wb, 0 + j, none⟩) hlt]; exact h2⟩
theorem cell_setCells_other {w : World} {b wb o i : Nat} (hne : b ≠ wb) : ∀ (vs : List Value) (o : Nat) (w : World), (w.setCells wb o vs).cell? ⟨b, i, none⟩ = w.cell? ⟨b, i, none⟩
  | [], _, _ => rfl
  | v :: vs, o, w => by
    show ((w.setCell ⟨wb, o, none⟩ v).setCells wb (o + 1) vs).cell? _ = _
    rw [cell_setCells_other (w := w) (o := o) hne vs (o + 1) _, World.cell?_setCell_other _ _ _ _ (by simp <;> omega)]

/-- What stands while the leaf is written. -/
theorem lf_start {w1 w2 w3 : World} (N2 : NewW w1 w2) (N3 : NewC w2 w3 [.pointer none, .pointer (some ⟨w1.heap.size, 0, none⟩), .slice none 0 0]) :
    Below w1.heap.size w1 w3.drew ∧ w3.drew.cell? ⟨w2.heap.size, 1, none⟩ = some (.pointer (some ⟨w1.heap.size, 0, none⟩)) ∧ w3.drew.there w1.heap.size 0 64 :=
  ⟨(N2.below.trans (N3.below.mono N2.below.size)).drew, N3.cell 1 _ rfl, there_below (there_of N2.words N2.warm) N3.below.drew⟩
theorem lf_call {w1 w w' : World} {cb wb : Nat} (h : Below w1.heap.size w1 w ∧ w.cell? ⟨cb, 1, none⟩ = some (.pointer (some ⟨wb, 0, none⟩)) ∧ w.there wb 0 64) (hb : Below w.heap.size w w') :
    Below w1.heap.size w1 w' ∧ w'.cell? ⟨cb, 1, none⟩ = some (.pointer (some ⟨wb, 0, none⟩)) ∧ w'.there wb 0 64 :=
  ⟨h.1.trans (hb.mono h.1.size), cell_below hb h.2.1, there_below h.2.2 hb⟩
theorem lf_store {w1 w : World} {cb wb : Nat} (hne : cb ≠ wb) (hge : w1.heap.size ≤ wb) (h : Below w1.heap.size w1 w ∧ w.cell? ⟨cb, 1, none⟩ = some (.pointer (some ⟨wb, 0, none⟩)) ∧ w.there wb 0 64) (vs : List Value) :
    Below w1.heap.size w1 (w.setCells wb 0 vs) ∧ (w.setCells wb 0 vs).cell? ⟨cb, 1, none⟩ = some (.pointer (some ⟨wb, 0, none⟩)) ∧ (w.setCells wb 0 vs).there wb 0 64 :=
  ⟨below_setCells _ hge _ _ _ h.1, by rw [cell_setCells_other (w := w) (o := 0) hne]; exact h.2.1, World.there_setCells h.2.2 _ _ _⟩
theorem leaf_call {w1 w : World} {cb wb base : Nat} {p : Option Addr} {S : List Int} {ok : Nat → Prop} (h : Below w1.heap.size w1 w ∧ w.cell? ⟨cb, 1, none⟩ = some (.pointer (some ⟨wb, 0, none⟩)) ∧ w.there wb 0 64) (hn : Node ok 0 w1 base p S) (h32 : ∀ x ∈ S, x < 4294967296) :
    Calls Tryd.prog 47 #[.pointer p] w fun e w' => ∃ V, e = .returned (.agg (wcells V).toArray) ∧ LeafW base S V ∧ Below w.heap.size w w' := leafWords_any w base p S h32 (hn.keep h.1)
theorem wcells_one (V : Nat → Nat) : ∀ v ∈ wcells V, v.oneCell' = true := fun v hv => by
  simp [wcells] at hv
  obtain ⟨i, _, rfl⟩ := hv
  rfl
theorem size_wcl (V : Nat → Nat) : (Tryd.prog.info? 90).map (·.size) = some (wcells V).length := by rw [wcells_length]; exact size90

theorem NCell.setCells {w : World} {b wb : Nat} {k ws : Option Addr} {ls : Value} (h : NCell w b k ws ls) (hne : b ≠ wb) (vs : List Value) : NCell (w.setCells wb 0 vs) b k ws ls :=
  ⟨by rw [cell_setCells_other (w := w) (o := 0) hne]; exact h.kids, by rw [cell_setCells_other (w := w) (o := 0) hne]; exact h.words, by rw [cell_setCells_other (w := w) (o := 0) hne]; exact h.list, by rw [World.heap_setCells_other w wb 0 vs h.lt hne]; exact h.obj⟩
/-- Whatever is asked: the ascending list of those in a range that meet it. -/
theorem asc_pick (p : Int → Prop) (lo hi : Nat) : ∃ U, Ran U lo hi ∧ ∀ x : Int, (lo : Int) ≤ x → x < (hi : Int) → (x ∈ U ↔ p x) := by
  classical
  refine ⟨((List.range (hi - lo)).map (fun i => ((lo + i : Nat) : Int))).filter (fun x => decide (p x)), ⟨?_, ?_, ?_⟩, ?_⟩
  · refine List.Pairwise.filter _ (List.Pairwise.map _ (fun a b hab => ?_) List.pairwise_lt_range)
    omega
  · intro x hx
    simp only [List.mem_filter, List.mem_map, List.mem_range] at hx
    obtain ⟨⟨i, hi, rfl⟩, _⟩ := hx
    omega
  · intro x hx
    simp only [List.mem_filter, List.mem_map, List.mem_range] at hx
    obtain ⟨⟨i, hi, rfl⟩, _⟩ := hx
    omega
  · intro x h0 h1
    simp only [List.mem_filter, List.mem_map, List.mem_range, decide_eq_true_eq]
    constructor
    · exact fun h => h.2
    · exact fun h => ⟨⟨x.toNat - lo, by omega, by omega⟩, h⟩
theorem asc_union {S O : List Int} {lo hi : Nat} (hS0 : ∀ x ∈ S, (lo : Int) ≤ x) (hS1 : ∀ x ∈ S, x < (hi : Int)) (h0 : ∀ x ∈ O, (lo : Int) ≤ x) (h1 : ∀ x ∈ O, x < (hi : Int)) : ∃ U, Ran U lo hi ∧ ∀ x, x ∈ U ↔ x ∈ S ∨ x ∈ O := by
  obtain ⟨U, hU, hm⟩ := asc_pick (fun x => x ∈ S ∨ x ∈ O) lo hi
  refine ⟨U, hU, fun x => ⟨fun h => (hm x (hU.lo x h) (hU.hi x h)).1 h, fun h => ?_⟩⟩
  have a0 : (lo : Int) ≤ x := h.elim (hS0 x) (h0 x)
  have a1 : x < (hi : Int) := h.elim (hS1 x) (h1 x)
  exact (hm x a0 a1).2 h

/-- The bits that stand behind 'setBits': the node. -/
theorem leaf_out {ok : Nat → Prop} {w w6 : World} {base cb wb : Nat} {S O : List Int} {V W : Nat → Nat} (hS : Ran S base (base + spn 0)) (h0 : ∀ x ∈ O, (base : Int) ≤ x) (h1 : ∀ x ∈ O, x < ((base + spn 0 : Nat) : Int))
    (hV : LeafW base S V) (hc : NCell w6 cb none (some ⟨wb, 0, none⟩) (.slice none 0 0)) (hW : Words w6 wb W) (hb : ∀ x, bit W x = (bit V x || hit O x)) (hbe : Below w.heap.size w w6) (o1 : w.heap.size ≤ cb) (o2 : w.heap.size ≤ wb) : Out ok 0 w w6 base S O (.returned (.pointer (some ⟨cb, 0, none⟩))) := by
  obtain ⟨U, hU, hm⟩ := asc_union hS.lo hS.hi h0 h1
  refine ⟨⟨cb, U, rfl, ⟨hU, Or.inr (Or.inr ⟨cb, wb, W, rfl, ⟨hc, hW, fun x a0 a1 => ?_⟩, Or.inr o1, Or.inr o2⟩)⟩, hm⟩, hbe⟩
  obtain ⟨O', hO', hmO⟩ := asc_union (S := []) (O := O) (lo := base) (hi := base + spn 0) (by simp) (by simp) h0 h1
  have e : hit O x = true ↔ x ∈ O := by
    have hh : hit O' x = hit O x := by
      unfold hit
      rw [Bool.eq_iff_iff, List.any_eq_true, List.any_eq_true]
      constructor
      · rintro ⟨y, hy, he⟩; exact ⟨y, by simpa using (hmO y).1 hy, he⟩
      · rintro ⟨y, hy, he⟩; exact ⟨y, (hmO y).2 (Or.inr hy), he⟩
    rw [← hh, hit_iff hO' a0 a1, hmO x]; simp
  rw [hm x, hb x, Bool.or_eq_true, hV.mem x a0 a1, e]

set_option maxRecDepth 10000 in
theorem with_nil_leaf (ok : Nat → Prop) (base : Nat) (O : List Int) (ob oo cap : Nat) (w : World) (hO : Ords w base 0 ob oo cap O) (hle : ¬ O.length ≤ lmax 0) :
    Calls Tryd.prog 53 #[.pointer none, .int .i64 (0 : Nat), .int .i64 (base : Nat), .slice (some ⟨ob, oo, none⟩) O.length cap] w fun e w' => Out ok 0 w w' base [] O e := by
  have hn : Node (fun _ => True) 0 w base none [] := Node.nil _ 0 w base
  have hlen0 := hO.len
  have hg2 : lmax 0 < O.length := by omega
  have tok : True := trivial
  go_enter Tryd.func53, Tryd.ntmps53
  go_wp2_with (first
    | (have _t := tok; refine wpList_box3 rfl (.tmp 1) (0 : Nat) rfl rfl ?_; intro w1 N1; have hO1 := hO.keep N1.below; have hn1 := hn.keep N1.below; have hc1 := N1.cell 0 _ rfl; clear tok _t)
    | (go_at_call 70; refine (holdsList_nil _).mono ?_; rintro _ _ ⟨rfl, hwe⟩; have hwe := hwe.symm; subst hwe)
    | (go_at_call 71; refine (listMax_any 0 _).mono ?_; rintro _ _ ⟨rfl, hwe⟩; have hwe := hwe.symm; subst hwe)
    | (refine wpList_alloc90 rfl rfl ?_; intro w2 N2)
    | (refine wpList_box88 rfl (.tmp 38) none (some ⟨w1.heap.size, 0, none⟩) none 0 0 rfl rfl ?_; intro w3 N3))
  have hne : w2.heap.size ≠ w1.heap.size := by have := N2.size; omega
  go_region_held3 (fun w' => Below w1.heap.size w1 w' ∧ w'.cell? ⟨w2.heap.size, 1, none⟩ = some (.pointer (some ⟨w1.heap.size, 0, none⟩)) ∧ w'.there w1.heap.size 0 64)
    (first | (with_reducible exact lf_start N2 N3) | (with_reducible refine lf_store hne (Nat.le_refl _) ?_ _; assumption) | (refine lf_call ?_ hb4; assumption))
    ((go_at_call 47; refine (leaf_call (by assumption) hn1 (by simp)).mono ?_; rintro _ w4 ⟨V, rfl, hV, hb4⟩; have hone := wcells_one V; have hlen := wcells_length V; have hsz := size_wcl V))
  have hH5 := lf_store hne (Nat.le_refl _) (lf_call (lf_start N2 N3) hb4) (wcells V)
  have hb34 : Below w2.heap.size w2 w4 := N3.below.drew.trans (hb4.mono N3.below.size)
  have hW5 := (N2.words.keep hb34).of_setCells (N2.warm.keep N2.words.lt_size hb34) hV.lt
  have hm5 := (N2.warm.keep N2.words.lt_size hb34).of_setCells w1.heap.size 0 (wcells V)
  have hc5 : NCell (w4.setCells w1.heap.size 0 (wcells V)) w2.heap.size none (some ⟨w1.heap.size, 0, none⟩) (.slice none 0 0) :=
    (show NCell w4 w2.heap.size _ _ _ from (show NCell w3.drew _ _ _ _ from ⟨N3.ncell.kids, N3.ncell.words, N3.ncell.list, N3.ncell.obj⟩).keep hb4).setCells hne _
  have hz5 : w1.heap.size ≤ (w4.setCells w1.heap.size 0 (wcells V)).heap.size := hH5.1.size
  generalize w4.setCells w1.heap.size 0 (wcells V) = w5 at *
  have hcw := hc5.words
  go_wp2_with (first
    | (go_at_call 73
       refine (setBits64_any w1.heap.size V ob oo cap O w5 hW5 hm5 (hO1.row.keep hH5.1) (by have := hO1.row.lt hO1.ne; omega) hO1.zero hlen0).mono ?_
       rintro _ w6 ⟨rfl, W, hW, hbit, hvm, hgr⟩
       have HB : Hid (∀ x, bit W x = (bit V x || hit O x)) := hbit
       clear hbit))
  go_ret
  exact leaf_out ⟨List.Pairwise.nil, by simp, by simp⟩ hO.lo hO.hi hV (hc5.grown hgr hne) hW HB.out ((N1.below.trans (hH5.1.mono N1.below.size)).grown hgr (Nat.le_trans N1.below.size hz5) (by intro k hk; cases hk; exact N1.below.size)) (Nat.le_trans N1.below.size N2.below.size) N1.below.size
set_option maxRecDepth 10000 in
theorem with_list_leaf (ok : Nat → Prop) (base : Nat) (S O : List Int) (ob oo cap b lb lo lc : Nat) (w : World) (hS : Ran S base (base + spn 0)) (h32 : ∀ x ∈ S, x < 4294967296) (hL : ListN w S b lb lo lc) (hO : Ords w base 0 ob oo cap O) (hle : ¬ S.length + O.length ≤ lmax 0) :
    Calls Tryd.prog 53 #[.pointer (some ⟨b, 0, none⟩), .int .i64 (0 : Nat), .int .i64 (base : Nat), .slice (some ⟨ob, oo, none⟩) O.length cap] w fun e w' => Out ok 0 w w' base S O e := by
  have hn : Node (fun _ => True) 0 w base (some ⟨b, 0, none⟩) S := Node.list hS hL trivial trivial
  have hfew := hL.few
  have hlen0 := hO.len
  have hg2 : lmax 0 < S.length + O.length := by omega
  have tok : True := trivial
  go_enter Tryd.func53, Tryd.ntmps53
  go_wp2_with (first
    | (have _t := tok; refine wpList_box3 rfl (.tmp 1) (0 : Nat) rfl rfl ?_; intro w1 N1; have hO1 := hO.keep N1.below; have hn1 := hn.keep N1.below; have hL1 := hL.keep N1.below; have hcl := hL1.cells.list; have hc1 := N1.cell 0 _ rfl; clear tok _t)
    | (go_at_call 70; refine (holdsList_at _ b none none (some ⟨lb, lo, none⟩) S.length lc hL1.cells).mono ?_; rintro _ _ ⟨rfl, hwe⟩; have hwe := hwe.symm; subst hwe)
    | (go_at_call 71; refine (listMax_any 0 _).mono ?_; rintro _ _ ⟨rfl, hwe⟩; have hwe := hwe.symm; subst hwe)
    | (refine wpList_alloc90 rfl rfl ?_; intro w2 N2)
    | (refine wpList_box88 rfl (.tmp 38) none (some ⟨w1.heap.size, 0, none⟩) none 0 0 rfl rfl ?_; intro w3 N3))
  have hne : w2.heap.size ≠ w1.heap.size := by have := N2.size; omega
  go_region_held3 (fun w' => Below w1.heap.size w1 w' ∧ w'.cell? ⟨w2.heap.size, 1, none⟩ = some (.pointer (some ⟨w1.heap.size, 0, none⟩)) ∧ w'.there w1.heap.size 0 64)
    (first | (with_reducible exact lf_start N2 N3) | (with_reducible refine lf_store hne (Nat.le_refl _) ?_ _; assumption) | (refine lf_call ?_ hb4; assumption))
    ((go_at_call 47; refine (leaf_call (by assumption) hn1 h32).mono ?_; rintro _ w4 ⟨V, rfl, hV, hb4⟩; have hone := wcells_one V; have hlen := wcells_length V; have hsz := size_wcl V))
  have hH5 := lf_store hne (Nat.le_refl _) (lf_call (lf_start N2 N3) hb4) (wcells V)
  have hb34 : Below w2.heap.size w2 w4 := N3.below.drew.trans (hb4.mono N3.below.size)
  have hW5 := (N2.words.keep hb34).of_setCells (N2.warm.keep N2.words.lt_size hb34) hV.lt
  have hm5 := (N2.warm.keep N2.words.lt_size hb34).of_setCells w1.heap.size 0 (wcells V)
  have hc5 : NCell (w4.setCells w1.heap.size 0 (wcells V)) w2.heap.size none (some ⟨w1.heap.size, 0, none⟩) (.slice none 0 0) :=
    (show NCell w4 w2.heap.size _ _ _ from (show NCell w3.drew _ _ _ _ from ⟨N3.ncell.kids, N3.ncell.words, N3.ncell.list, N3.ncell.obj⟩).keep hb4).setCells hne _
  have hz5 : w1.heap.size ≤ (w4.setCells w1.heap.size 0 (wcells V)).heap.size := hH5.1.size
  generalize w4.setCells w1.heap.size 0 (wcells V) = w5 at *
  have hcw := hc5.words
  go_wp2_with (first
    | (go_at_call 73
       refine (setBits64_any w1.heap.size V ob oo cap O w5 hW5 hm5 (hO1.row.keep hH5.1) (by have := hO1.row.lt hO1.ne; omega) hO1.zero hlen0).mono ?_
       rintro _ w6 ⟨rfl, W, hW, hbit, hvm, hgr⟩
       have HB : Hid (∀ x, bit W x = (bit V x || hit O x)) := hbit
       clear hbit))
  go_ret
  exact leaf_out hS hO.lo hO.hi hV (hc5.grown hgr hne) hW HB.out ((N1.below.trans (hH5.1.mono N1.below.size)).grown hgr (Nat.le_trans N1.below.size hz5) (by intro k hk; cases hk; exact N1.below.size)) (Nat.le_trans N1.below.size N2.below.size) N1.below.size
set_option maxRecDepth 10000 in
theorem with_words_leaf (ok : Nat → Prop) (base : Nat) (S O : List Int) (ob oo cap b wb : Nat) (X : Nat → Nat) (w : World) (hS : Ran S base (base + spn 0)) (h32 : ∀ x ∈ S, x < 4294967296) (hL : WordN w base S b wb X) (hO : Ords w base 0 ob oo cap O) :
    Calls Tryd.prog 53 #[.pointer (some ⟨b, 0, none⟩), .int .i64 (0 : Nat), .int .i64 (base : Nat), .slice (some ⟨ob, oo, none⟩) O.length cap] w fun e w' => Out ok 0 w w' base S O e := by
  have hn : Node (fun _ => True) 0 w base (some ⟨b, 0, none⟩) S := ⟨hS, Or.inr (Or.inr ⟨b, wb, X, rfl, hL, trivial, trivial⟩)⟩
  have hlen0 := hO.len
  have tok : True := trivial
  go_enter Tryd.func53, Tryd.ntmps53
  go_wp2_with (first
    | (have _t := tok; refine wpList_box3 rfl (.tmp 1) (0 : Nat) rfl rfl ?_; intro w1 N1; have hO1 := hO.keep N1.below; have hn1 := hn.keep N1.below; have hL1 := hL.keep N1.below; have hcl := hL1.cells.list; have hc1 := N1.cell 0 _ rfl; clear tok _t)
    | (go_at_call 70; refine (holdsList_at _ b none (some ⟨wb, 0, none⟩) none 0 0 hL1.cells).mono ?_; rintro _ _ ⟨rfl, hwe⟩; have hwe := hwe.symm; subst hwe)
    | (go_at_call 71; refine (listMax_any 0 _).mono ?_; rintro _ _ ⟨rfl, hwe⟩; have hwe := hwe.symm; subst hwe)
    | (refine wpList_alloc90 rfl rfl ?_; intro w2 N2)
    | (refine wpList_box88 rfl (.tmp 38) none (some ⟨w1.heap.size, 0, none⟩) none 0 0 rfl rfl ?_; intro w3 N3))
  have hne : w2.heap.size ≠ w1.heap.size := by have := N2.size; omega
  go_region_held3 (fun w' => Below w1.heap.size w1 w' ∧ w'.cell? ⟨w2.heap.size, 1, none⟩ = some (.pointer (some ⟨w1.heap.size, 0, none⟩)) ∧ w'.there w1.heap.size 0 64)
    (first | (with_reducible exact lf_start N2 N3) | (with_reducible refine lf_store hne (Nat.le_refl _) ?_ _; assumption) | (refine lf_call ?_ hb4; assumption))
    ((go_at_call 47; refine (leaf_call (by assumption) hn1 h32).mono ?_; rintro _ w4 ⟨V, rfl, hV, hb4⟩; have hone := wcells_one V; have hlen := wcells_length V; have hsz := size_wcl V))
  have hH5 := lf_store hne (Nat.le_refl _) (lf_call (lf_start N2 N3) hb4) (wcells V)
  have hb34 : Below w2.heap.size w2 w4 := N3.below.drew.trans (hb4.mono N3.below.size)
  have hW5 := (N2.words.keep hb34).of_setCells (N2.warm.keep N2.words.lt_size hb34) hV.lt
  have hm5 := (N2.warm.keep N2.words.lt_size hb34).of_setCells w1.heap.size 0 (wcells V)
  have hc5 : NCell (w4.setCells w1.heap.size 0 (wcells V)) w2.heap.size none (some ⟨w1.heap.size, 0, none⟩) (.slice none 0 0) :=
    (show NCell w4 w2.heap.size _ _ _ from (show NCell w3.drew _ _ _ _ from ⟨N3.ncell.kids, N3.ncell.words, N3.ncell.list, N3.ncell.obj⟩).keep hb4).setCells hne _
  have hz5 : w1.heap.size ≤ (w4.setCells w1.heap.size 0 (wcells V)).heap.size := hH5.1.size
  generalize w4.setCells w1.heap.size 0 (wcells V) = w5 at *
  have hcw := hc5.words
  go_wp2_with (first
    | (go_at_call 73
       refine (setBits64_any w1.heap.size V ob oo cap O w5 hW5 hm5 (hO1.row.keep hH5.1) (by have := hO1.row.lt hO1.ne; omega) hO1.zero hlen0).mono ?_
       rintro _ w6 ⟨rfl, W, hW, hbit, hvm, hgr⟩
       have HB : Hid (∀ x, bit W x = (bit V x || hit O x)) := hbit
       clear hbit))
  go_ret
  exact leaf_out hS hO.lo hO.hi hV (hc5.grown hgr hne) hW HB.out ((N1.below.trans (hH5.1.mono N1.below.size)).grown hgr (Nat.le_trans N1.below.size hz5) (by intro k hk; cases hk; exact N1.below.size)) (Nat.le_trans N1.below.size N2.below.size) N1.below.size

/-- with, at height 0. -/
theorem with_zero (ok : Nat → Prop) (base : Nat) (p : Option Addr) (S O : List Int) (ob oo cap : Nat) (w : World) (hn : Node ok 0 w base p S) (h32 : ∀ x ∈ S, x < 4294967296) (hO : Ords w base 0 ob oo cap O) :
    Calls Tryd.prog 53 #[.pointer p, .int .i64 (0 : Nat), .int .i64 (base : Nat), .slice (some ⟨ob, oo, none⟩) O.length cap] w fun e w' => Out ok 0 w w' base S O e := by
  rcases hn.2 with ⟨rfl, rfl⟩ | ⟨b, lb, lo, lc, rfl, hl, _, _⟩ | ⟨b, wb, X, rfl, hw, _, _⟩
  · by_cases hle : O.length ≤ lmax 0
    · exact with_nil_list ok 0 base O ob oo cap w hO hle
    · exact with_nil_leaf ok base O ob oo cap w hO hle
  · by_cases hle : S.length + O.length ≤ lmax 0
    · exact with_list_list ok 0 base S O ob oo cap b lb lo lc w hn.1 hl hO hle
    · exact with_list_leaf ok base S O ob oo cap b lb lo lc w hn.1 h32 hl hO hle
  · exact with_words_leaf ok base S O ob oo cap b wb X w hn.1 h32 hw hO
end Go.Proofs.Qxb6609120aDoor
