/-
  addedWalk.walk at a leaf of bits: plain laws.
-/
import Derived.Test.Qxb6609120aDoorWalk1
import Derived.Laws.BitsAllLaws
namespace Go.Proofs.Qxb6609120aDoor
open Go.RowKit
open Plain (Srt Asc asc_ext)
set_option linter.unusedVariables false

/-- a's bits that b lacks. -/
def andn (a b : Nat) : Nat := a &&& (18446744073709551615 - b)
theorem andn_lt {a b : Nat} (h : a < 18446744073709551616) : andn a b < 18446744073709551616 := Nat.lt_of_le_of_lt Nat.and_le_left h
theorem andn_bit {a b : Nat} (hb : b < 18446744073709551616) {t : Nat} (ht : t < 64) : (andn a b).testBit t = (a.testBit t && !b.testBit t) := by
  unfold andn
  rw [Nat.testBit_and, show 18446744073709551615 - b = 2 ^ 64 - (b + 1) by omega, Nat.testBit_two_pow_sub_succ (by omega)]
  simp [ht]
theorem rk_skip {N S O : List Int} {b : Int} (hN : Asc N) {m m' : Int} (hm : m ≤ m') (h : ∀ x ∈ N, m ≤ x → x < m' → x ∈ S) : rk (bel N m') S O b = rk (bel N m) S O b := by
  rw [bel_mid hN hm, rk_append, rk_none (fun x hx => h x (mem_mid.1 hx).1 (mem_mid.1 hx).2.1 (mem_mid.1 hx).2.2), List.append_nil]
theorem place {base i t : Nat} (hb : base % 4096 = 0) (hi : i < 64) (ht : t < 64) : (base + 64 * i + t) / 64 % 64 = i ∧ (base + 64 * i + t) % 64 = t := by omega
section
variable {N S O : List Int} {base : Nat} {W VS VO : Nat → Nat} {b : Int}
/-- The bits between, none of them new. -/
theorem words_skip (hN : Ran N base (base + 4096)) (hb : base % 4096 = 0) (hmN : ∀ x : Int, (base : Int) ≤ x → x < (base : Int) + 4096 → (x ∈ N ↔ bit W x = true)) (hmS : ∀ x : Int, (base : Int) ≤ x → x < (base : Int) + 4096 → (x ∈ S ↔ bit VS x = true)) (hVS : ∀ i, i < 64 → VS i < 18446744073709551616) {i : Nat} (hi : i < 64) {t0 t1 : Nat} (h1 : t1 ≤ 64) (h01 : t0 ≤ t1) (hno : ∀ t, t0 ≤ t → t < t1 → (andn (W i) (VS i)).testBit t = false) :
    rk (bel N ((base + 64 * i + t1 : Nat) : Int)) S O b = rk (bel N ((base + 64 * i + t0 : Nat) : Int)) S O b := by
  refine rk_skip hN.asc (by omega) fun x hx hge hlt => ?_
  obtain ⟨t, ht⟩ : ∃ t : Nat, x = ((base + 64 * i + t : Nat) : Int) := ⟨(x - ((base + 64 * i : Nat) : Int)).toNat, by omega⟩
  subst ht
  have h2 := hno t (by omega) (by omega)
  have ht64 : t < 64 := by omega
  rw [andn_bit (hVS i hi) ht64] at h2
  have hb1 := (hmN _ (by omega) (by omega)).1 hx
  refine (hmS _ (by omega) (by omega)).2 ?_
  unfold bit at hb1 ⊢
  obtain ⟨p1, p2⟩ := place hb hi ht64
  rw [Int.toNat_natCast, p1, p2] at hb1 ⊢
  rw [hb1] at h2
  simpa using h2
/-- One bit that is new. -/
theorem words_one' (hN : Ran N base (base + 4096)) (hb : base % 4096 = 0) (hmN : ∀ x : Int, (base : Int) ≤ x → x < (base : Int) + 4096 → (x ∈ N ↔ bit W x = true)) (hmS : ∀ x : Int, (base : Int) ≤ x → x < (base : Int) + 4096 → (x ∈ S ↔ bit VS x = true)) (hVS : ∀ i, i < 64 → VS i < 18446744073709551616) {i : Nat} (hi : i < 64) {t : Nat} (ht : t < 64) (hv : (andn (W i) (VS i)).testBit t = true) :
    ((base + 64 * i + t : Nat) : Int) ∈ N ∧ rk (bel N ((base + 64 * i + (t + 1) : Nat) : Int)) S O b = rk (bel N ((base + 64 * i + t : Nat) : Int)) S O b ++ [rank O b ((base + 64 * i + t : Nat) : Int)] := by
  rw [andn_bit (hVS i hi) ht, Bool.and_eq_true] at hv
  obtain ⟨h1, h2⟩ := word_one hN hb hmN hi ht hv.1
  refine ⟨h1, ?_⟩
  rw [h2, rk_append, rk_out]
  intro hx
  have hb1 := (hmS _ (by omega) (by omega)).1 hx
  unfold bit at hb1
  obtain ⟨p1, p2⟩ := place hb hi ht
  rw [Int.toNat_natCast, p1, p2] at hb1
  rw [hb1] at hv
  simp at hv
/-- What is held below, in bits. -/
theorem words_rank (hO : Ran O base (base + 4096)) (hb : base % 4096 = 0) (hmO : ∀ x : Int, (base : Int) ≤ x → x < (base : Int) + 4096 → (x ∈ O ↔ bit VO x = true)) {i : Nat} (hi : i < 64) {t : Nat} (ht : t < 64) :
    rank O b ((base + 64 * i + t : Nat) : Int) = wrap64 (((base + 64 * i + t : Nat) : Int) - wrap64 (wrap64 (b + ((bel O ((base + 64 * i : Nat) : Int)).length : Int)) + (cnt (VO i % 2 ^ t) 64 : Nat))) := by
  unfold rank
  rw [word_cnt hO hb hmO hi t (by omega), w64_a1, cnt_mod t 64 (VO i) (by omega)]
  simp only [Int.natCast_add]
theorem words_next (hO : Ran O base (base + 4096)) (hb : base % 4096 = 0) (hmO : ∀ x : Int, (base : Int) ≤ x → x < (base : Int) + 4096 → (x ∈ O ↔ bit VO x = true)) {i : Nat} (hi : i < 64) :
    wrap64 (wrap64 (b + ((bel O ((base + 64 * i : Nat) : Int)).length : Int)) + (cnt (VO i) 64 : Nat)) = wrap64 (b + ((bel O ((base + 64 * (i + 1) : Nat) : Int)).length : Int)) := by
  rw [show base + 64 * (i + 1) = base + 64 * i + 64 by omega, word_cnt hO hb hmO hi 64 (by omega), w64_a1]
  simp only [Int.natCast_add]
end
end Go.Proofs.Qxb6609120aDoor
