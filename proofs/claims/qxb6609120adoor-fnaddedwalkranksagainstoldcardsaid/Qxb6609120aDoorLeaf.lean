/-
  leafWords: the three shapes of a leaf.
-/
import Derived.Test.Qxb6609120aDoorBits
namespace Go.Proofs.Qxb6609120aDoor
open Go.RowKit
open Plain (Srt Asc)
set_option linter.unusedVariables false

/-- What a store of 64 words leaves. -/
structure SetW (w w' : World) (b : Nat) (V : Nat → Nat) : Prop where
  words : Words w' b V
  warm : ∀ c, Warm w c → Warm w' c
  below : ∀ B a, B ≤ b → Below B a w → Below B a w'
  range : w'.rangeAt b 0 (wcells V)
theorem setW_of {w : World} {b : Nat} {U V : Nat → Nat} (h : Words w b U) (hw : Warm w b) (hV : ∀ i, i < 64 → V i < 18446744073709551616) : SetW w (w.setCells b 0 (wcells V).toArray.toList) b V where
  words := by simpa using h.of_setCells hw hV
  warm := fun c hc => hc.of_setCells _ _ _
  below := fun B a hB hb => below_setCells _ hB _ _ _ hb
  range := by simpa using (h.of_setCells hw hV).range
theorem load_back' {w : World} {R : Nat} {V : Nat → Nat} (h : w.rangeAt R 0 (wcells V)) : (loadVar 90 ⟨R, 0, none⟩).run Tryd.prog w = .ok (.agg (wcells V).toArray) w :=
  run_loadVar_mid _ R 0 90 (wcells V) _ h Tryd.underlying90 rfl (by rw [wcells_length]; exact size90)

theorem there_back {w w1 w2 w3 : World} {W : Nat → Nat} (N1 : NewW w w1) (N2 : NewW w1 w2) (S3 : SetW w2 w3 w1.heap.size W) : w3.there w.heap.size 0 64 := by
  have hb : Below w1.heap.size w1 w3 := S3.below _ _ (Nat.le_refl _) N2.below
  exact there_keep N1.words N1.warm hb
theorem setW_back {w w1 w2 w3 : World} {W : Nat → Nat} (N1 : NewW w w1) (N2 : NewW w1 w2) (S3 : SetW w2 w3 w1.heap.size W) : SetW w3 (w3.setCells w.heap.size 0 (wcells W).toArray.toList) w.heap.size W := by
  have hb : Below w1.heap.size w1 w3 := S3.below _ _ (Nat.le_refl _) N2.below
  exact setW_of (N1.words.keep hb) (N1.warm.keep N1.words.lt_size hb) S3.words.lt
set_option maxRecDepth 10000 in
theorem leafWords_words (w : World) (base : Nat) (S : List Int) (b wb : Nat) (W : Nat → Nat) (h : WordN w base S b wb W) : Calls Tryd.prog 47 #[.pointer (some ⟨b, 0, none⟩)] w fun e w' => e = .returned (.agg (wcells W).toArray) ∧ Below w.heap.size w w' := by
  have tok1 : True := trivial
  go_enter Tryd.func47, Tryd.ntmps47
  go_wp2_with (first
    | (have _t := tok1; refine wpList_alloc90 rfl rfl ?_; intro w1 N1; clear tok1 _t)
    | (refine wpList_alloc90 rfl rfl ?_; intro w2 N2; have hw := (h.keep N1.below).keep N2.below; have hcw := hw.cells.words; have hcl := hw.cells.list)
    | (refine wpList_load_mid rfl 90 (.tmp 17) rfl wb 0 rfl (wcells W) _ hw.words.range Tryd.underlying90 rfl (by rw [wcells_length]; exact size90) ?_)
    | (refine wpList_store_mid rfl 90 (.tmp 3) (.tmp 18) rfl w1.heap.size 0 _ rfl rfl (by rw [size_wc]; exact there_of N2.words N2.warm) (by rw [size_wc]; exact size90) (words_one _) ?_
       have S3 := setW_of N2.words N2.warm hw.words.lt
       generalize w2.setCells w1.heap.size 0 (wcells W).toArray.toList = w3 at S3 ⊢)
    | (refine wpList_load_mid rfl 90 (.tmp 3) rfl w1.heap.size 0 rfl (wcells W) _ S3.range Tryd.underlying90 rfl (by rw [wcells_length]; exact size90) ?_)
    | (refine wpList_store_mid rfl 90 (.tmp 2) (.tmp 26) rfl w.heap.size 0 _ rfl rfl (by rw [size_wc]; exact there_back N1 N2 S3) (by rw [size_wc]; exact size90) (words_one _) ?_
       have S4 := setW_back N1 N2 S3
       generalize w3.setCells w.heap.size 0 (wcells W).toArray.toList = w4 at S4 ⊢))
  refine bodyPost_ret (v := .agg (wcells W).toArray) ?_ rfl ⟨rfl, S4.below _ _ (Nat.le_refl _) (S3.below _ _ N1.below.size (N1.below.trans (N2.below.mono N1.below.size)))⟩
  rw [results_cell1 Tryd.results47]
  simp [asAddr, Act.put, load_back' S4.range]
/-- What setBits leaves on the new words. -/
theorem leaf_mem {base : Nat} {S : List Int} {V : Nat → Nat} (hS : Ran S base (base + spn 0)) (hlt : ∀ i, i < 64 → V i < 18446744073709551616) (hb : ∀ x, bit V x = (bit (fun _ => 0) x || hit S x)) : LeafW base S V :=
  ⟨hlt, fun x h0 h1 => by rw [hb x, bit_zero, Bool.false_or, hit_iff hS h0 h1]⟩
theorem there_back' {w w1 w3 : World} (N1 : NewW w w1) (hb : Below w1.heap.size w1 w3) : w3.there w.heap.size 0 64 := there_keep N1.words N1.warm hb
theorem setW_back' {w w1 w3 : World} {W : Nat → Nat} (N1 : NewW w w1) (hb : Below w1.heap.size w1 w3) (hlt : ∀ i, i < 64 → W i < 18446744073709551616) : SetW w3 (w3.setCells w.heap.size 0 (wcells W).toArray.toList) w.heap.size W :=
  setW_of (N1.words.keep hb) (N1.warm.keep N1.words.lt_size hb) hlt

set_option maxRecDepth 10000 in
theorem leafWords_list (w : World) (base : Nat) (S : List Int) (b lb lo cap : Nat) (hS : Ran S base (base + spn 0)) (hr : ∀ x ∈ S, x < 4294967296) (h : ListN w S b lb lo cap) :
    Calls Tryd.prog 47 #[.pointer (some ⟨b, 0, none⟩)] w fun e w' => ∃ V, e = .returned (.agg (wcells V).toArray) ∧ LeafW base S V ∧ Below w.heap.size w w' := by
  have tok1 : True := trivial
  have hlb : lb < w.heap.size := h.row.lt h.ne
  go_enter Tryd.func47, Tryd.ntmps47
  go_wp2_with (first
    | (have _t := tok1; refine wpList_alloc90 rfl rfl ?_; intro w1 N1; clear tok1 _t)
    | (refine wpList_alloc90 rfl rfl ?_; intro w2 N2; have hw := (h.keep N1.below).keep N2.below; have hcw := hw.cells.words; have hcl := hw.cells.list)
    | (go_at_call 66
       refine (setBits32_any w1.heap.size _ lb lo cap S w2 N2.words N2.warm hw.row (by have := N1.size; omega) (fun x hx => ⟨by have := hS.lo x hx; omega, hr x hx⟩) (by have := h.few; omega)).mono ?_
       rintro _ w3 ⟨rfl, V, hV, hb, hvm, hgr⟩
       have hb3 : Below w1.heap.size w1 w3 := N2.below.grown hgr N2.below.size (by intro k hk; cases hk; exact Nat.le_refl _)
       have hL : Hid (∀ x, bit V x = (bit (fun _ => 0) x || hit S x)) := hb
       clear hb hgr hvm hw hcw hcl)
    | (refine wpList_load_mid rfl 90 (.tmp 3) rfl w1.heap.size 0 rfl (wcells V) _ hV.range Tryd.underlying90 rfl (by rw [wcells_length]; exact size90) ?_)
    | (refine wpList_store_mid rfl 90 (.tmp 2) (.tmp 26) rfl w.heap.size 0 _ rfl rfl (by rw [size_wc]; exact there_back' N1 hb3) (by rw [size_wc]; exact size90) (words_one _) ?_
       have S4 := setW_back' N1 hb3 hV.lt
       generalize w3.setCells w.heap.size 0 (wcells V).toArray.toList = w4 at S4 ⊢))
  refine bodyPost_ret (v := .agg (wcells V).toArray) ?_ rfl ⟨V, rfl, leaf_mem hS hV.lt hL.out, S4.below _ _ (Nat.le_refl _) (N1.below.trans (hb3.mono N1.below.size))⟩
  rw [results_cell1 Tryd.results47]
  simp [asAddr, Act.put, load_back' S4.range]

/-- leafWords(n), n at height 0. -/
theorem leafWords_any {ok : Nat → Prop} (w : World) (base : Nat) (p : Option Addr) (S : List Int) (hr : ∀ x ∈ S, x < 4294967296) (h : Node ok 0 w base p S) :
    Calls Tryd.prog 47 #[.pointer p] w fun e w' => ∃ V, e = .returned (.agg (wcells V).toArray) ∧ LeafW base S V ∧ Below w.heap.size w w' := by
  rcases h.2 with ⟨rfl, rfl⟩ | ⟨b, lb, lo, cap, rfl, hl, _, _⟩ | ⟨b, wb, W, rfl, hw, _, _⟩
  · refine (leafWords_nil w).mono ?_
    rintro e w' ⟨rfl, hb⟩
    exact ⟨_, rfl, ⟨fun i hi => by simp, fun x h0 h1 => by simp [bit_zero]⟩, hb⟩
  · exact leafWords_list w base S b lb lo cap h.1 hr hl
  · refine (leafWords_words w base S b wb W hw).mono ?_
    rintro e w' ⟨rfl, hb⟩
    exact ⟨_, rfl, ⟨hw.words.lt, fun x h0 h1 => (hw.mem x h0 h1).symm⟩, hb⟩
end Go.Proofs.Qxb6609120aDoor
