/-
  rowNode.with: the inner node, from a list and from an inner node; with, whole.
-/
import Derived.Test.Qxb6609120aDoorWith2
namespace Go.Proofs.Qxb6609120aDoor
open Go.RowKit
open Plain (Srt Asc)
set_option linter.unusedVariables false

set_option maxRecDepth 10000 in
theorem with_list_inner (ok : Nat → Prop) (h base : Nat) (ih : WithAt h) (hh : h ≤ 3) (S O : List Int) (ob oo cap b lb lo lc : Nat) (w : World) (hS : Ran S base (base + spn (h + 1))) (h32 : ∀ x ∈ S, x < 4294967296) (hL : ListN w S b lb lo lc) (hO : Ords w base (h + 1) ob oo cap O) (hbig : base + spn (h + 1) ≤ 1099511627776) (hle : ¬ S.length + O.length ≤ lmax (h + 1)) :
    Calls Tryd.prog 53 #[.pointer (some ⟨b, 0, none⟩), .int .i64 ((h : Int) + 1), .int .i64 (base : Nat), .slice (some ⟨ob, oo, none⟩) O.length cap] w fun e w' => Out ok (h + 1) w w' base S O e := by
  have hlen0 := hO.len
  have hfew := hL.few
  have hlm := listMax_any (h + 1)
  rw [lmax_big] at hle hlm
  rw [show (((h + 1 : Nat) : Int)) = (h : Int) + 1 by omega] at hlm
  have hg2 : 1024 < S.length + O.length := by omega
  have hne0 : ((h : Int) + 1 == 0) = false := by rw [beq_eq_false_iff_ne]; omega
  have hwr := wrap_h h (by omega)
  have tok : True := trivial
  go_enter Tryd.func53, Tryd.ntmps53
  go_wp2_with (first
    | (have _t := tok; refine wpList_box3 rfl (.tmp 1) ((h : Int) + 1) rfl rfl ?_; intro w1 N1; have hc1 := N1.cell 0 _ rfl; have hL1 := hL.keep N1.below; have hcl := hL1.cells.list; clear tok _t)
    | (go_at_call 70; obtain ⟨lie, hI, hkk⟩ := inn_new (ok := ok) (base := base) N1 N2 N3 N4; generalize (w4.setCell ⟨w3.heap.size, 0, none⟩ (.pointer (some ⟨w2.heap.size, 0, none⟩))) = w5 at hI hkk ⊢; have hh5 := hI.hcell; have hL5 := hL.keep hI.below; clear hc1 hc4 hf4 hcl; refine (holdsList_at _ b none none (some ⟨lb, lo, none⟩) S.length lc hL5.cells).mono ?_; rintro _ _ ⟨rfl, hwe⟩; have hwe := hwe.symm; subst hwe)
    | (go_at_call 70; refine (holdsList_at _ b none none (some ⟨lb, lo, none⟩) S.length lc hL1.cells).mono ?_; rintro _ _ ⟨rfl, hwe⟩; have hwe := hwe.symm; subst hwe)
    | (go_at_call 71; refine (hlm _).mono ?_; rintro _ _ ⟨rfl, hwe⟩; have hwe := hwe.symm; subst hwe)
    | (refine wpList_alloc106 rfl rfl ?_; intro w2 N2)
    | (refine wpList_box88 rfl (.tmp 55) (some ⟨w1.heap.size, 0, none⟩) none none 0 0 rfl rfl ?_; intro w3 N3)
    | (refine wpList_alloc38 rfl rfl ?_; intro w4 N4; have hc4 := N4.cell 0 _ rfl; have hf4 := N4.warm 0)
    | (go_at_call 50; refine (span_any h (by omega) _).mono ?_; rintro _ _ ⟨rfl, hwe⟩; have hwe := hwe.symm; subst hwe)
    | (go_at_call 74
       refine (pass1 ok h base _ _ _ _ hh w w5 lie S b lb lo lc hS h32 hL hbig hI).mono ?_
       rintro _ w6 ⟨rfl, hI6⟩
       have hh6 := hI6.hcell
       have HI6 : Hid (Inn ok h w w6 base w.heap.size w1.heap.size w2.heap.size w3.heap.size (fun x => x ∈ S)) := hI6
       clear hI6)
    | (go_at_call 77
       refine (pass2 ok h base _ _ _ _ ih hh w w6 lie S O ob oo cap hO h32 hbig HI6.out).mono ?_
       rintro _ w7 ⟨rfl, hI7⟩
       have hv7 := hI7.vcell
       have HI7 : Hid (Inn ok h w w7 base w.heap.size w1.heap.size w2.heap.size w3.heap.size (fun x => x ∈ S ∨ x ∈ O)) := hI7
       clear hI7))
  go_ret
  exact HI7.out.out lie hS hO.lo hO.hi (fun x => Iff.rfl)

theorem kcells_one (K : Nat → Option Addr) : ∀ v ∈ kcells K, v.oneCell' = true := fun v hv => by
  simp [kcells] at hv
  obtain ⟨i, _, rfl⟩ := hv
  rfl
theorem size_kcl (K : Nat → Option Addr) : (Tryd.prog.info? 106).map (·.size) = some (kcells K).length := by rw [kcells_length]; exact size106
/-- What is held while the children are copied. -/
theorem kc_start {w1 : World} {vb cb kb b kb0 : Nat} {K : Nat → Option Addr} (hv : w1.cell? ⟨vb, 0, none⟩ = some (.pointer (some ⟨cb, 0, none⟩))) (hk : w1.cell? ⟨cb, 0, none⟩ = some (.pointer (some ⟨kb, 0, none⟩))) (hb : w1.cell? ⟨b, 0, none⟩ = some (.pointer (some ⟨kb0, 0, none⟩))) (hr : w1.rangeAt kb0 0 (kcells K)) (ht : w1.there kb 0 64) :
    w1.drew.cell? ⟨vb, 0, none⟩ = some (.pointer (some ⟨cb, 0, none⟩)) ∧ w1.drew.cell? ⟨cb, 0, none⟩ = some (.pointer (some ⟨kb, 0, none⟩)) ∧ w1.drew.cell? ⟨b, 0, none⟩ = some (.pointer (some ⟨kb0, 0, none⟩)) ∧ w1.drew.rangeAt kb0 0 (kcells K) ∧ w1.drew.there kb 0 64 := ⟨hv, hk, hb, hr, ht⟩
theorem kc_store {w1 : World} {vb cb kb b kb0 : Nat} {K : Nat → Option Addr} (n1 : vb ≠ kb) (n2 : cb ≠ kb) (n3 : b ≠ kb) (n4 : kb0 ≠ kb) (vs : List Value) (h : w1.cell? ⟨vb, 0, none⟩ = some (.pointer (some ⟨cb, 0, none⟩)) ∧ w1.cell? ⟨cb, 0, none⟩ = some (.pointer (some ⟨kb, 0, none⟩)) ∧ w1.cell? ⟨b, 0, none⟩ = some (.pointer (some ⟨kb0, 0, none⟩)) ∧ w1.rangeAt kb0 0 (kcells K) ∧ w1.there kb 0 64) :
    (w1.setCells kb 0 vs).cell? ⟨vb, 0, none⟩ = some (.pointer (some ⟨cb, 0, none⟩)) ∧ (w1.setCells kb 0 vs).cell? ⟨cb, 0, none⟩ = some (.pointer (some ⟨kb, 0, none⟩)) ∧ (w1.setCells kb 0 vs).cell? ⟨b, 0, none⟩ = some (.pointer (some ⟨kb0, 0, none⟩)) ∧ (w1.setCells kb 0 vs).rangeAt kb0 0 (kcells K) ∧ (w1.setCells kb 0 vs).there kb 0 64 :=
  ⟨by rw [cell_setCells_other (w := w1) (o := 0) n1]; exact h.1, by rw [cell_setCells_other (w := w1) (o := 0) n2]; exact h.2.1, by rw [cell_setCells_other (w := w1) (o := 0) n3]; exact h.2.2.1, World.rangeAt_setCells_apart h.2.2.2.1 _ _ _ (Or.inl n4), World.there_setCells h.2.2.2.2 _ _ _⟩
/-- The children, copied. -/
theorem Inn.copied {ok : Nat → Prop} {h : Nat} {w w1 : World} {base hb kb cb vb : Nat} {T : Int → Prop} {S : List Int} (lie : Lie w hb kb cb vb) (hI : Inn ok h w w1 base hb kb cb vb T) {K : Nat → Option Addr} {L : Nat → List Int} (hN : ∀ i, i < 64 → Node ok h w (base + i * spn h) (K i) (L i)) (hS : ∀ x, x ∈ S ↔ ∃ i, i < 64 ∧ x ∈ L i) :
    Inn ok h w (w1.drew.setCells kb 0 (kcells K)) base hb kb cb vb (fun x => x ∈ S) := by
  obtain ⟨K1, L1, hK1, hN1, hL1⟩ := hI.kids
  have hb' : Below w.heap.size w (w1.drew.setCells kb 0 (kcells K)) := below_setCells _ lie.h2 _ _ _ hI.below.drew
  have ht : w1.drew.there kb 0 64 := fun j hj => by rw [Nat.zero_add]; exact ⟨by show (w1.cell? _).isSome = true; rw [hK1 j hj]; rfl, hI.warm.warm j hj⟩
  refine ⟨hb', ?_, ?_, ?_, ⟨fun j hj => ?_⟩, K, L, fun j hj => ?_, fun j hj => (hN j hj).go (fun b _ hlt => hb'.block b hlt) (fun b ho hlt => ⟨Or.inl ho, by have := lie.h2; omega⟩), fun x => (hS x).symm⟩
  · rw [cell_setCells_other (w := w1) (o := 0) lie.n1]; exact hI.hcell
  · rw [cell_setCells_other (w := w1) (o := 0) lie.n3]; exact hI.vcell
  · exact (show NCell w1.drew cb _ _ _ from ⟨hI.node.kids, hI.node.words, hI.node.list, hI.node.obj⟩).setCells lie.n2 _
  · rw [World.frozen?_setCells]; exact hI.warm.warm j hj
  · have := World.rangeAt_setCells_same w1.drew kb 0 (kcells K) (by rw [kcells_length]; exact ht) j _ (kcells_at K j hj)
    rwa [Nat.zero_add] at this

set_option maxRecDepth 10000 in
theorem with_kids_inner (ok : Nat → Prop) (h base : Nat) (ih : WithAt h) (hh : h ≤ 3) (S O : List Int) (ob oo cap b kb0 : Nat) (K : Nat → Option Addr) (L : Nat → List Int) (w : World) (hS : Ran S base (base + spn (h + 1))) (h32 : ∀ x ∈ S, x < 4294967296)
    (hc : NCell w b (some ⟨kb0, 0, none⟩) none (.slice none 0 0)) (hK : Kids w kb0 K) (hN : ∀ i, i < 64 → Node ok h w (base + i * spn h) (K i) (L i)) (hL : ∀ x, x ∈ S ↔ ∃ i, i < 64 ∧ x ∈ L i) (hO : Ords w base (h + 1) ob oo cap O) (hbig : base + spn (h + 1) ≤ 1099511627776) :
    Calls Tryd.prog 53 #[.pointer (some ⟨b, 0, none⟩), .int .i64 ((h : Int) + 1), .int .i64 (base : Nat), .slice (some ⟨ob, oo, none⟩) O.length cap] w fun e w' => Out ok (h + 1) w w' base S O e := by
  have hne0 : ((h : Int) + 1 == 0) = false := by rw [beq_eq_false_iff_ne]; omega
  have hwr := wrap_h h (by omega)
  have hblt := hc.lt
  have hklt := hK.lt
  have hu := Tryd.underlying106
  have hone := kcells_one K
  have hlen := kcells_length K
  have hsz := size_kcl K
  have HL : Hid (∀ x, x ∈ S ↔ ∃ i, i < 64 ∧ x ∈ L i) := hL
  have HN : Hid (∀ i, i < 64 → Node ok h w (base + i * spn h) (K i) (L i)) := hN
  clear hL hN
  have tok : True := trivial
  go_enter Tryd.func53, Tryd.ntmps53
  go_wp2_with (first
    | (have _t := tok; refine wpList_box3 rfl (.tmp 1) ((h : Int) + 1) rfl rfl ?_; intro w1 N1; have hc1 := N1.cell 0 _ rfl; have hL1 := hc.keep N1.below; have hcl := hL1.list; clear tok _t)
    | (go_at_call 70; obtain ⟨lie, hI, hkk⟩ := inn_new (ok := ok) (base := base) N1 N2 N3 N4; generalize (w4.setCell ⟨w3.heap.size, 0, none⟩ (.pointer (some ⟨w2.heap.size, 0, none⟩))) = w5 at hI hkk ⊢; have hL5 := hc.keep hI.below; clear hc1 hc4 hf4 hcl; refine (holdsList_at _ b (some ⟨kb0, 0, none⟩) none none 0 0 hL5).mono ?_; rintro _ _ ⟨rfl, hwe⟩; have hwe := hwe.symm; subst hwe)
    | (go_at_call 70; refine (holdsList_at _ b (some ⟨kb0, 0, none⟩) none none 0 0 hL1).mono ?_; rintro _ _ ⟨rfl, hwe⟩; have hwe := hwe.symm; subst hwe)
    | (refine wpList_alloc106 rfl rfl ?_; intro w2 N2)
    | (refine wpList_box88 rfl (.tmp 55) (some ⟨w1.heap.size, 0, none⟩) none none 0 0 rfl rfl ?_; intro w3 N3)
    | (refine wpList_alloc38 rfl rfl ?_; intro w4 N4; have hc4 := N4.cell 0 _ rfl; have hf4 := N4.warm 0))
  have hv5 := hI.vcell
  have hk5 := hI.node.kids
  have hb5 := hL5.kids
  have hr5 := (hK.keep hI.below).range
  have ht5 : w5.there w1.heap.size 0 64 := fun j hj => by rw [Nat.zero_add]; exact ⟨by rw [hkk j hj]; rfl, hI.warm.warm j hj⟩
  have m1 := lie.n3
  have m2 := lie.n2
  have m3 : b ≠ w1.heap.size := by have := lie.h2; omega
  have m4 : kb0 ≠ w1.heap.size := by have := lie.h2; omega
  have HI : Hid (Inn ok h w w5 base w.heap.size w1.heap.size w2.heap.size w3.heap.size (fun x => False)) := hI
  clear hI hkk
  go_region_held3 (fun w' => w'.cell? ⟨w3.heap.size, 0, none⟩ = some (.pointer (some ⟨w2.heap.size, 0, none⟩)) ∧ w'.cell? ⟨w2.heap.size, 0, none⟩ = some (.pointer (some ⟨w1.heap.size, 0, none⟩)) ∧ w'.cell? ⟨b, 0, none⟩ = some (.pointer (some ⟨kb0, 0, none⟩)) ∧ w'.rangeAt kb0 0 (kcells K) ∧ w'.there w1.heap.size 0 64)
    (first | (with_reducible exact kc_start hv5 hk5 hb5 hr5 ht5) | (with_reducible refine kc_store m1 m2 m3 m4 _ ?_; assumption))
    (fail)
  have hI6 := HI.out.copied lie HN.out HL.out
  generalize w5.drew.setCells w1.heap.size 0 (kcells K) = w6 at hI6 ⊢
  have hh6 := hI6.hcell
  have HI6 : Hid (Inn ok h w w6 base w.heap.size w1.heap.size w2.heap.size w3.heap.size (fun x => x ∈ S)) := hI6
  clear hI6 hv5 hk5 hb5 hr5 ht5 hone hlen hsz hu
  go_wp2_with (first
    | (go_at_call 50; refine (span_any h (by omega) _).mono ?_; rintro _ _ ⟨rfl, hwe⟩; have hwe := hwe.symm; subst hwe)
    | (go_at_call 77
       refine (pass2 ok h base _ _ _ _ ih hh w w6 lie S O ob oo cap hO h32 hbig HI6.out).mono ?_
       rintro _ w7 ⟨rfl, hI7⟩
       have hv7 := hI7.vcell
       have HI7 : Hid (Inn ok h w w7 base w.heap.size w1.heap.size w2.heap.size w3.heap.size (fun x => x ∈ S ∨ x ∈ O)) := hI7
       clear hI7))
  go_ret
  exact HI7.out.out lie hS hO.lo hO.hi (fun x => Iff.rfl)

/-- n.with(height, base, ords), whatever the node. -/
theorem with_any : ∀ (h : Nat), h ≤ 4 → WithAt h
  | 0, _ => fun ok base p S O ob oo cap w hn h32 hO _ => with_zero ok base p S O ob oo cap w hn h32 hO
  | h + 1, hh => fun ok base p S O ob oo cap w hn h32 hO hbig => by
    have ih := with_any h (by omega)
    rcases hn.2 with ⟨rfl, rfl⟩ | ⟨b, lb, lo, lc, rfl, hl, _, _⟩ | ⟨b, kb, K, L, rfl, hc, hk, hN, hL, _, _⟩
    · by_cases hle : O.length ≤ lmax (h + 1)
      · exact with_nil_list ok (h + 1) base O ob oo cap w hO hle
      · exact with_nil_inner ok h base ih (by omega) O ob oo cap w hO hbig hle
    · by_cases hle : S.length + O.length ≤ lmax (h + 1)
      · exact with_list_list ok (h + 1) base S O ob oo cap b lb lo lc w hn.1 hl hO hle
      · exact with_list_inner ok h base ih (by omega) S O ob oo cap b lb lo lc w hn.1 h32 hl hO hbig hle
    · exact with_kids_inner ok h base ih (by omega) S O ob oo cap b kb K L w hn.1 h32 hc hk hN hL hO hbig
end Go.Proofs.Qxb6609120aDoor
