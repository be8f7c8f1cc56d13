/-
  addedWalk.walk at an inner node, and whole.
-/
import Derived.Test.Qxb6609120aDoorWalk3
import Derived.Test.Qxb6609120aDoorWalk2
namespace Go.Proofs.Qxb6609120aDoor
open Go.RowKit
open Plain (Srt Asc asc_ext)
set_option linter.unusedVariables false

/-- walk, at height h. -/
def WalkAt (wb gb B h : Nat) : Prop :=
  ∀ (ok : Nat → Prop) (base : Nat) (pn ps po : Option Addr) (N S O Y : List Int) (b : Int) (w : World), Node ok h w base pn N → Node ok h w base ps S → Node ok h w base po O → (∀ x ∈ S, x ∈ N) → (∀ x ∈ O, x ∈ S) → base % 4096 = 0 → base + spn h ≤ 1099511627776 → (∀ x ∈ N, x < 4294967296) → Y.length + N.length ≤ 1099511627776 → Hid (wrap64 b = b) → Wk wb gb B ok w Y b →
    Calls Tryd.prog 37 #[.pointer (some ⟨wb, 0, none⟩), .pointer pn, .pointer ps, .pointer po, .int .i64 (h : Nat), .int .i64 (base : Nat)] w fun e w' => e = .returned (.bool true) ∧ Wk wb gb B ok w' (Y ++ rk N S O b) (wrap64 (b + (O.length : Int))) ∧ Fr ok w w'

/-- One child, with the parts that go with it. -/
theorem kid_step {wb gb B h : Nat} (ih : WalkAt wb gb B h) {ok : Nat → Prop} {base : Nat} {ps po : Option Addr} {N S O Y : List Int} {b : Int} {w wq : World} {K : Nat → Option Addr} {L : Nat → List Int} (hN : Ran N base (base + spn (h + 1))) (hNd : ∀ i, i < 64 → Node ok h w (base + i * spn h) (K i) (L i)) (hL : ∀ x, x ∈ N ↔ ∃ i, i < 64 ∧ x ∈ L i) (hS : Node ok (h + 1) w base ps S) (hO : Node ok (h + 1) w base po O) (hSN : ∀ x ∈ S, x ∈ N) (hOS : ∀ x ∈ O, x ∈ S) (hb : base % 4096 = 0) (hbig : base + spn (h + 1) ≤ 1099511627776) (h32 : ∀ x ∈ N, x < 4294967296) (hY : Y.length + N.length ≤ 1099511627776) {i : Nat} (hi : i < 64)
    (hW : Wk wb gb B ok wq (Y ++ rk (bel N ((base + i * spn h : Nat) : Int)) S O b) (wrap64 (b + ((bel O ((base + i * spn h : Nat) : Int)).length : Int)))) (hF : Fr ok w wq) :
    Calls Tryd.prog 51 #[.pointer ps, .int .i64 (i : Nat), .int .i64 ((base + i * spn h : Nat) : Int), .int .i64 (spn h : Nat)] wq fun e w1 => ∃ p1, e = .returned (.pointer p1) ∧ Calls Tryd.prog 51 #[.pointer po, .int .i64 (i : Nat), .int .i64 ((base + i * spn h : Nat) : Int), .int .i64 (spn h : Nat)] w1 fun e w2 => ∃ p2, e = .returned (.pointer p2) ∧
      Calls Tryd.prog 37 #[.pointer (some ⟨wb, 0, none⟩), .pointer (K i), .pointer p1, .pointer p2, .int .i64 (h : Nat), .int .i64 ((base + i * spn h : Nat) : Int)] w2 fun e w3 => e = .returned (.bool true) ∧ Wk wb gb B ok w3 (Y ++ rk (bel N ((base + (i + 1) * spn h : Nat) : Int)) S O b) (wrap64 (b + ((bel O ((base + (i + 1) * spn h : Nat) : Int)).length : Int))) ∧ Fr ok w w3 := by
  have hSa := hS.ran.asc
  have hOa := hO.ran.asc
  have hm1 : (i + 1) * spn h ≤ 64 * spn h := Nat.mul_le_mul_right _ hi
  rw [Nat.add_mul, Nat.one_mul, ← spn_succ] at hm1
  have hend : base + (i + 1) * spn h = base + i * spn h + spn h := by rw [Nat.add_mul, Nat.one_mul]; omega
  have hle : ((base + i * spn h : Nat) : Int) ≤ ((base + i * spn h + spn h : Nat) : Int) := by omega
  have ek := kids_add hN.asc hNd hL hi
  have em := bel_mid hN.asc hle
  have eL : L i = mid N ((base + i * spn h : Nat) : Int) ((base + i * spn h + spn h : Nat) : Int) := by
    rw [hend, em] at ek
    exact (List.append_cancel_left ek).symm
  refine (part_any ok h base ps S i wq (hS.fr hF) hi (fun x hx => h32 x (hSN x hx)) hbig).mono ?_
  rintro e w1 ⟨p1, rfl, hP1, hb1⟩
  refine ⟨p1, rfl, ?_⟩
  refine (part_any ok h base po O i w1 ((hO.fr hF).keep hb1) hi (fun x hx => h32 x (hSN x (hOS x hx))) hbig).mono ?_
  rintro e w2 ⟨p2, rfl, hP2, hb2⟩
  refine ⟨p2, rfl, ?_⟩
  have hb12 : Below wq.heap.size wq w2 := hb1.trans (hb2.mono hb1.size)
  have hW2 : Wk wb gb B (fun k => ok k ∨ wq.heap.size ≤ k ∧ k < w2.heap.size) w2 _ _ := hW.grow hb12 (fun k hk => hk) (.inl hW.okT)
  have hN2 : Node (fun k => ok k ∨ wq.heap.size ≤ k ∧ k < w2.heap.size) h w2 (base + i * spn h) (K i) (L i) := (((hNd i hi).fr hF).keep hb12).wide (fun k hk => .inl hk)
  have hS2 : Node (fun k => ok k ∨ wq.heap.size ≤ k ∧ k < w2.heap.size) h w2 (base + i * spn h) p1 (mid S ((base + i * spn h : Nat) : Int) ((base + i * spn h + spn h : Nat) : Int)) := (hP1.lt.keep hb2).wide (fun k hk => hk.1.elim .inl (fun h => .inr ⟨h, Nat.lt_of_lt_of_le hk.2 hb2.size⟩))
  have hO2 : Node (fun k => ok k ∨ wq.heap.size ≤ k ∧ k < w2.heap.size) h w2 (base + i * spn h) p2 (mid O ((base + i * spn h : Nat) : Int) ((base + i * spn h + spn h : Nat) : Int)) := hP2.lt.wide (fun k hk => hk.1.elim .inl (fun h => .inr ⟨Nat.le_trans hb1.size h, hk.2⟩))
  refine (ih _ (base + i * spn h) (K i) p1 p2 (L i) _ _ _ _ w2 hN2 hS2 hO2 (fun x hx => ?_) (fun x hx => ?_) (kid_mod hb) (by omega) (fun x hx => h32 x ((hL x).2 ⟨i, hi, hx⟩)) ?_ (w64_w _) hW2).mono ?_
  · rw [eL, mem_mid]
    exact ⟨hSN x (mem_mid.1 hx).1, (mem_mid.1 hx).2⟩
  · rw [mem_mid]
    exact ⟨hOS x (mem_mid.1 hx).1, (mem_mid.1 hx).2⟩
  · have l1 := rk_len (bel N ((base + i * spn h : Nat) : Int)) S O b
    have l2 := bel_len N ((base + (i + 1) * spn h : Nat) : Int)
    rw [ek, List.length_append] at l2
    rw [List.length_append]
    omega
  · rintro e w3 ⟨rfl, hW3, hF3⟩
    refine ⟨rfl, ?_, (hF.trans (Fr.of_below hb12 hW.lt)).trans (hF3.narrow (fun k hk => .inl hk))⟩
    have hW4 := hW3.narrow (fun k hk => .inl hk) hW.okT
    rw [rk_mid hOa (fun x hx => ⟨(hNd i hi).ran.lo x hx, (hNd i hi).ran.hi x hx⟩), List.append_assoc, ← rk_append, ← ek, w64_a1, ← Int.natCast_add, ← mid_count hOa hle, ← hend] at hW4
    exact hW4
end Go.Proofs.Qxb6609120aDoor
