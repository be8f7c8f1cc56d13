/-
  rowNode.with: the inner node.
-/
import Derived.Test.Qxb6609120aDoorKids2
namespace Go.Proofs.Qxb6609120aDoor
open Go.RowKit
open Plain (Srt Asc)
set_option linter.unusedVariables false

theorem enter75 (args : Array Value) (w : World) : (callFunc 75 args).run Tryd.prog w = .ok (.enter 75 args) w := by
  simp [go_sem]
theorem enter78 (args : Array Value) (w : World) : (callFunc 78 args).run Tryd.prog w = .ok (.enter 78 args) w := by
  simp [go_sem]
theorem eachPart32_nil (v : Value) (x y : Int) (w : World) : Calls Tryd.prog 74 #[.slice none 0 0, .int .i64 x, .int .i64 y, v] w fun e w' => e = .returned (.tuple #[]) ∧ w' = w := by
  go_enter Tryd.func74, Tryd.ntmps74
  go_wp2_with fail
  go_loopw [0] (fun vs wr => vs = .slice none 0 0 ∧ wr = w) (fun vs _ => 0)
  case atStart => exact ⟨rfl, rfl⟩
  case round =>
    obtain ⟨rfl, rfl⟩ := hrel
    go_wp2_with fail
    go_end0
    exact ⟨rfl, rfl⟩

/-- The node, filled. -/
theorem Inn.out {ok : Nat → Prop} {h : Nat} {w w' : World} {base hb kb cb vb : Nat} {T : Int → Prop} {S O : List Int} (lie : Lie w hb kb cb vb) (hI : Inn ok h w w' base hb kb cb vb T) (hS : Ran S base (base + spn (h + 1))) (h0 : ∀ x ∈ O, (base : Int) ≤ x) (h1 : ∀ x ∈ O, x < ((base + spn (h + 1) : Nat) : Int))
    (hT : ∀ x, T x ↔ x ∈ S ∨ x ∈ O) : Out ok (h + 1) w w' base S O (.returned (.pointer (some ⟨cb, 0, none⟩))) := by
  obtain ⟨U, hU, hm⟩ := asc_union hS.lo hS.hi h0 h1
  obtain ⟨K, L, hK, hN, hL⟩ := hI.kids
  exact ⟨⟨cb, U, rfl, ⟨hU, Or.inr (Or.inr ⟨cb, kb, K, L, rfl, hI.node, hK, fun i hi => (hN i hi).wide (fun b hb => hb.1), fun x => by rw [hm x, hL x, hT x], Or.inr lie.h3, Or.inr lie.h2⟩)⟩, hm⟩, hI.below⟩

/-- The blocks of the new inner node, just made. -/
theorem inn_new {ok : Nat → Prop} {h base : Nat} {w w1 w2 w3 w4 : World} (N1 : NewC w w1 [.int .i64 ((h : Int) + 1)]) (N2 : NewK w1 w2) (N3 : NewC w2 w3 [.pointer (some ⟨w1.heap.size, 0, none⟩), .pointer none, .slice none 0 0]) (N4 : NewC w3 w4 [.pointer none]) :
    Lie w w.heap.size w1.heap.size w2.heap.size w3.heap.size ∧ Inn ok h w (w4.setCell ⟨w3.heap.size, 0, none⟩ (.pointer (some ⟨w2.heap.size, 0, none⟩))) base w.heap.size w1.heap.size w2.heap.size w3.heap.size (fun _ => False) ∧
      Kids (w4.setCell ⟨w3.heap.size, 0, none⟩ (.pointer (some ⟨w2.heap.size, 0, none⟩))) w1.heap.size (fun _ => none) := by
  have s1 := N1.size
  have s2 := N2.size
  have s3 := N3.size
  have s4 := N4.size
  have b34 : Below w2.heap.size w2 w4 := N3.below.trans (N4.below.mono N3.below.size)
  have b24 : Below w1.heap.size w1 w4 := N2.below.trans (b34.mono N2.below.size)
  have hst : ∀ b, b ≠ w3.heap.size → (w4.setCell ⟨w3.heap.size, 0, none⟩ (.pointer (some ⟨w2.heap.size, 0, none⟩))).heap[b]? = w4.heap[b]? := fun b hne => by
    rw [Below.heap_setCell _ _ _ _ (by intro e; exact hne e)]
  have hkids : Kids (w4.setCell ⟨w3.heap.size, 0, none⟩ (.pointer (some ⟨w2.heap.size, 0, none⟩))) w1.heap.size (fun _ => none) := (N2.kids.keep b34).move (hst _ (by omega))
  refine ⟨⟨by omega, by omega, by omega, by omega, by omega, by omega, by omega⟩, ⟨((N1.below.trans (b24.mono N1.below.size))).setCell (show w.heap.size ≤ w3.heap.size by omega) _, ?_, ?_, ?_, ⟨fun j hj => ?_⟩, fun _ => none, fun _ => [], hkids, fun i hi => Node.nil _ _ _ _, fun x => by simp⟩, hkids⟩
  · rw [cell_moved (hst _ (by omega))]
    exact cell_below b24 (N1.cell 0 _ rfl)
  · rw [World.cell?_setCell_same _ _ _ (N4.cell 0 _ rfl)]
  · exact (N3.ncell.keep N4.below).move (hst _ (by omega))
  · rw [World.frozen?_setCell]; exact (N2.warm.keep N2.kids.lt b34).warm j hj

theorem lmax_big (h : Nat) : lmax (h + 1) = 1024 := by unfold lmax; rw [if_neg (by omega)]
theorem spn_le (h : Nat) (hh : h ≤ 3) : spn (h + 1) ≤ 68719476736 := by
  have : h = 0 ∨ h = 1 ∨ h = 2 ∨ h = 3 := by omega
  rcases this with rfl | rfl | rfl | rfl <;> decide
theorem Inn.congr {ok : Nat → Prop} {h : Nat} {w w' : World} {base hb kb cb vb : Nat} {T T' : Int → Prop} (hI : Inn ok h w w' base hb kb cb vb T) (e : ∀ x, T x ↔ T' x) : Inn ok h w w' base hb kb cb vb T' := by
  obtain ⟨K, L, hK, hN, hL⟩ := hI.kids
  exact ⟨hI.below, hI.hcell, hI.vcell, hI.node, hI.warm, K, L, hK, hN, fun x => (hL x).trans (e x)⟩
/-- The second pass: the ordinals, part by part. -/
theorem pass2 (ok : Nat → Prop) (h base hb kb cb vb : Nat) (ih : WithAt h) (hh : h ≤ 3) (w w1 : World) (lie : Lie w hb kb cb vb) (S0 O : List Int) (ob oo cap : Nat) (hO : Ords w base (h + 1) ob oo cap O) (hS32 : ∀ x ∈ S0, x < 4294967296) (hbig : base + spn (h + 1) ≤ 1099511627776)
    (hI : Inn ok h w w1 base hb kb cb vb (fun x => x ∈ S0)) :
    Calls Tryd.prog 77 #[.slice (some ⟨ob, oo, none⟩) O.length cap, .int .i64 (base : Nat), .int .i64 ((spn h : Nat) : Int), .func (.func 78) #[] #[.pointer (some ⟨vb, 0, none⟩), .pointer (some ⟨hb, 0, none⟩)]] w1 fun e w' => e = .returned (.tuple #[]) ∧ Inn ok h w w' base hb kb cb vb (fun x => x ∈ S0 ∨ x ∈ O) := by
  have hsp := spn_succ h
  refine (eachPart64_any 78 enter78 _ _ ob oo cap O base (spn h) (fun m w' => Inn ok h w w' base hb kb cb vb (fun x => x ∈ S0 ∨ x ∈ O.take m)) w1 (spn_pos h) (by omega) hO.srt hO.lo (fun x hx => by have := hO.hi x hx; rw [hsp] at this; exact this) hO.len hO.cap
    (fun m w' hI => hO.row.keep hI.below) (hI.congr (by simp)) (fun m n i cp w2 hi hp hcp hI2 => with2_any ok h base hb kb cb vb ih w w2 lie S0 O ob oo hO.srt hO.row hO.zero hO.len hS32 (by omega) hbig m n i cp hi hp hcp hI2)).mono ?_
  rintro e w' ⟨rfl, hI'⟩
  exact ⟨rfl, hI'.congr (by simp)⟩
/-- The first pass: the list, part by part. -/
theorem pass1 (ok : Nat → Prop) (h base hb kb cb vb : Nat) (hh : h ≤ 3) (w w1 : World) (lie : Lie w hb kb cb vb) (M : List Int) (b lb lo lc : Nat) (hM : Ran M base (base + spn (h + 1))) (h32 : ∀ x ∈ M, x < 4294967296) (hL : ListN w M b lb lo lc) (hbig : base + spn (h + 1) ≤ 1099511627776)
    (hI : Inn ok h w w1 base hb kb cb vb (fun x => False)) :
    Calls Tryd.prog 74 #[.slice (some ⟨lb, lo, none⟩) M.length lc, .int .i64 (base : Nat), .int .i64 ((spn h : Nat) : Int), .func (.func 75) #[] #[.pointer (some ⟨hb, 0, none⟩), .pointer (some ⟨vb, 0, none⟩)]] w1 fun e w' => e = .returned (.tuple #[]) ∧ Inn ok h w w' base hb kb cb vb (fun x => x ∈ M) := by
  have hsp := spn_succ h
  have hz : ∀ x ∈ M, 0 ≤ x ∧ x < 4294967296 := fun x hx => ⟨by have := hM.lo x hx; omega, h32 x hx⟩
  have hfew := hL.few
  have hsr : Srt M := List.Pairwise.imp (fun h => by omega) hM.asc
  refine (eachPart32_any 75 enter75 _ _ lb lo lc M base (spn h) (fun m w' => Inn ok h w w' base hb kb cb vb (fun x => x ∈ M.take m)) w1 (spn_pos h) (by omega) hsr hM.lo (fun x hx => by have := hM.hi x hx; rw [hsp] at this; exact this) hz (by omega) hL.cap
    (fun m w' hI => hL.row.keep hI.below) (hI.congr (by simp)) (fun m n i cp w2 hi hp hcp hI2 => with1_any ok h base hb kb cb vb w w2 lie M lb lo hM.asc hL.row hL.ne hz hfew (by omega) m n i cp hi hp hcp hI2 _)).mono ?_
  rintro e w' ⟨rfl, hI'⟩
  exact ⟨rfl, hI'.congr (by simp)⟩

set_option maxRecDepth 10000 in
theorem with_nil_inner (ok : Nat → Prop) (h base : Nat) (ih : WithAt h) (hh : h ≤ 3) (O : List Int) (ob oo cap : Nat) (w : World) (hO : Ords w base (h + 1) ob oo cap O) (hbig : base + spn (h + 1) ≤ 1099511627776) (hle : ¬ O.length ≤ lmax (h + 1)) :
    Calls Tryd.prog 53 #[.pointer none, .int .i64 ((h : Int) + 1), .int .i64 (base : Nat), .slice (some ⟨ob, oo, none⟩) O.length cap] w fun e w' => Out ok (h + 1) w w' base [] O e := by
  have hlen0 := hO.len
  have hlm := listMax_any (h + 1)
  rw [lmax_big] at hle hlm
  rw [show (((h + 1 : Nat) : Int)) = (h : Int) + 1 by omega] at hlm
  have hg2 : 1024 < O.length := by omega
  have hne0 : ((h : Int) + 1 == 0) = false := by rw [beq_eq_false_iff_ne]; omega
  have hwr := wrap_h h (by omega)
  have tok : True := trivial
  go_enter Tryd.func53, Tryd.ntmps53
  go_wp2_with (first
    | (have _t := tok; refine wpList_box3 rfl (.tmp 1) ((h : Int) + 1) rfl rfl ?_; intro w1 N1; have hc1 := N1.cell 0 _ rfl; clear tok _t)
    | (go_at_call 70; obtain ⟨lie, hI, hkk⟩ := inn_new (ok := ok) (base := base) N1 N2 N3 N4; generalize (w4.setCell ⟨w3.heap.size, 0, none⟩ (.pointer (some ⟨w2.heap.size, 0, none⟩))) = w5 at hI hkk ⊢; have hh5 := hI.hcell; clear hc1 hc4 hf4; refine (holdsList_nil _).mono ?_; rintro _ _ ⟨rfl, hwe⟩; have hwe := hwe.symm; subst hwe)
    | (go_at_call 70; refine (holdsList_nil _).mono ?_; rintro _ _ ⟨rfl, hwe⟩; have hwe := hwe.symm; subst hwe)
    | (go_at_call 71; refine (hlm _).mono ?_; rintro _ _ ⟨rfl, hwe⟩; have hwe := hwe.symm; subst hwe)
    | (refine wpList_alloc106 rfl rfl ?_; intro w2 N2)
    | (refine wpList_box88 rfl (.tmp 55) (some ⟨w1.heap.size, 0, none⟩) none none 0 0 rfl rfl ?_; intro w3 N3)
    | (refine wpList_alloc38 rfl rfl ?_; intro w4 N4; have hc4 := N4.cell 0 _ rfl; have hf4 := N4.warm 0)
    | (go_at_call 50; refine (span_any h (by omega) _).mono ?_; rintro _ _ ⟨rfl, hwe⟩; have hwe := hwe.symm; subst hwe)
    | (go_at_call 74; refine (eachPart32_nil _ _ _ _).mono ?_; rintro _ _ ⟨rfl, hwe⟩; have hwe := hwe.symm; subst hwe)
    | (go_at_call 77
       refine (pass2 ok h base _ _ _ _ ih hh w w5 lie [] O ob oo cap hO (by simp) hbig (hI.congr (by simp))).mono ?_
       rintro _ w6 ⟨rfl, hI6⟩
       have hv6 := hI6.vcell
       have HI6 : Hid (Inn ok h w w6 base w.heap.size w1.heap.size w2.heap.size w3.heap.size (fun x => x ∈ ([] : List Int) ∨ x ∈ O)) := hI6
       clear hI6))
  go_ret
  exact HI6.out.out lie ⟨List.Pairwise.nil, by simp, by simp⟩ hO.lo hO.hi (fun x => Iff.rfl)
end Go.Proofs.Qxb6609120aDoor
