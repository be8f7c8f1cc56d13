/-
  Plain laws for the walk through a set's ordinals.
-/
import Derived.Test.Qxb6609120aDoorTree
import Derived.Lib.TrailingZeros
namespace Go.Proofs.Qxb6609120aDoor
open Go.RowKit
open Plain (Srt Asc asc_ext)
set_option linter.unusedVariables false

theorem low_bit (x : Nat) (h0 : x ≠ 0) (h : x < 18446744073709551616) : Lib.ctz 64 x < 64 ∧ x.testBit (Lib.ctz 64 x) = true ∧ (∀ t, t < Lib.ctz 64 x → x.testBit t = false) ∧ ∀ t, (x &&& (x - 1)).testBit t = (x.testBit t && decide (t ≠ Lib.ctz 64 x)) := by
  obtain ⟨m, hm, hk⟩ := Lib.ctzFrom_spec 64 x (by omega) h
  have e : Lib.ctz 64 x = Lib.ctzFrom 64 x := by simp [Lib.ctz, h0]
  rw [e]
  generalize Lib.ctzFrom 64 x = k at *
  have hp : 0 < 2 ^ k := Nat.pow_pos (by decide)
  have hx1 : x - 1 = 2 ^ k * (2 * m) + (2 ^ k - 1) := by
    rw [hm, Nat.mul_add, Nat.mul_one]; omega
  have t1 : ∀ t, x.testBit t = (decide (t ≥ k) && (2 * m + 1).testBit (t - k)) := fun t => by rw [hm, Nat.testBit_two_pow_mul]
  have t2 : ∀ t, (x - 1).testBit t = if t < k then (2 ^ k - 1).testBit t else (2 * m).testBit (t - k) := fun t => by
    rw [hx1, Nat.testBit_two_pow_mul_add _ (by omega)]
  refine ⟨hk, ?_, fun t ht => ?_, fun t => ?_⟩
  · rw [t1]; simp
  · rw [t1]; simp; omega
  · rw [Nat.testBit_and]
    by_cases hlt : t < k
    · have : x.testBit t = false := by rw [t1]; simp; omega
      rw [this]; simp
    · by_cases he : t = k
      · subst he
        rw [t2, if_neg (by omega)]; simp
      · rw [t2, if_neg hlt, t1]
        obtain ⟨d, hd⟩ : ∃ d, t - k = d + 1 := ⟨t - k - 1, by omega⟩
        have a1 : (2 * m + 1).testBit (d + 1) = m.testBit d := by rw [Nat.testBit_succ]; congr 1; omega
        have a2 : (2 * m).testBit (d + 1) = m.testBit d := by rw [Nat.testBit_succ]; congr 1; omega
        rw [hd, a1, a2]
        simp [he]

/-- Those of S below m. -/
def bel (S : List Int) (m : Int) : List Int := S.filter fun x => decide (x < m)
theorem mem_bel {S : List Int} {m x : Int} : x ∈ bel S m ↔ x ∈ S ∧ x < m := by simp [bel]
theorem bel_asc {S : List Int} (h : Asc S) (m : Int) : Asc (bel S m) := List.Pairwise.filter _ h
theorem bel_all {S : List Int} {m : Int} (h : ∀ x ∈ S, x < m) : bel S m = S := by
  unfold bel; rw [List.filter_eq_self]; intro x hx; simpa using h x hx
theorem bel_none {S : List Int} {m : Int} (h : ∀ x ∈ S, m ≤ x) : bel S m = [] := by
  unfold bel; rw [List.filter_eq_nil_iff]; intro x hx; simp; exact h x hx
theorem bel_same {S : List Int} {m m' : Int} (hm : m ≤ m') (h : ∀ x ∈ S, m ≤ x → ¬ x < m') : bel S m' = bel S m := by
  unfold bel
  apply List.filter_congr
  intro x hx
  have := h x hx
  by_cases h1 : x < m
  · simp [h1]; omega
  · have h2 : ¬ x < m' := this (by omega)
    simp [h1, h2]
/-- The part from m up to m' is the list l. -/
theorem bel_add {S l : List Int} {m m' : Int} (hS : Asc S) (hl : Asc l) (hm : m ≤ m') (h : ∀ x, x ∈ l ↔ x ∈ S ∧ m ≤ x ∧ x < m') : bel S m' = bel S m ++ l := by
  refine asc_ext (bel_asc hS _) (List.pairwise_append.2 ⟨bel_asc hS _, hl, fun a ha b hb => ?_⟩) fun x => ?_
  · have h1 := (mem_bel.1 ha).2
    have h2 := ((h b).1 hb).2.1
    show a < b
    omega
  · rw [List.mem_append, mem_bel, mem_bel, h x]
    constructor
    · rintro ⟨h1, h2⟩
      by_cases h3 : x < m
      · exact Or.inl ⟨h1, h3⟩
      · exact Or.inr ⟨h1, by omega, h2⟩
    · rintro (⟨h1, h2⟩ | ⟨h1, h2, h3⟩)
      · exact ⟨h1, by omega⟩
      · exact ⟨h1, h3⟩

theorem bel_len (S : List Int) (m : Int) : (bel S m).length ≤ S.length := List.length_filter_le _ _
theorem bel_lt {S : List Int} {m x : Int} (hx : x ∈ S) (hm : ¬ x < m) : (bel S m).length < S.length := by
  rcases Nat.lt_or_eq_of_le (bel_len S m) with h | h
  · exact h
  · have h1 : bel S m = S := List.Sublist.eq_of_length (List.filter_sublist) h
    rw [← h1] at hx
    exact absurd (mem_bel.1 hx).2 hm
theorem asc_len : ∀ {S : List Int} {lo hi : Int}, Asc S → (∀ x ∈ S, lo ≤ x) → (∀ x ∈ S, x < hi) → lo ≤ hi → (S.length : Int) ≤ hi - lo
  | [], lo, hi, _, _, _, h => by simp; omega
  | x :: S, lo, hi, ha, h0, h1, h => by
    have hx0 := h0 x (by simp)
    have hx1 := h1 x (by simp)
    have ha' := List.pairwise_cons.1 ha
    have := asc_len (S := S) (lo := x + 1) (hi := hi) ha'.2 (fun y hy => by have := ha'.1 y hy; omega) (fun y hy => h1 y (by simp [hy])) (by omega)
    simp; omega

/-- Word i while it is read: the bits from t0 on are left. -/
structure Left (r v t0 : Nat) : Prop where
  lt : r < 18446744073709551616
  le : t0 ≤ 64
  bit : ∀ t, r.testBit t = (decide (t0 ≤ t) && v.testBit t)
theorem Left.start {v : Nat} (h : v < 18446744073709551616) : Left v v 0 := ⟨h, by omega, by simp⟩
theorem Left.next {r v t0 : Nat} (H : Left r v t0) (h0 : r ≠ 0) : Left (r &&& (r - 1)) v (Lib.ctz 64 r + 1) ∧ t0 ≤ Lib.ctz 64 r ∧ Lib.ctz 64 r < 64 ∧ v.testBit (Lib.ctz 64 r) = true ∧ ∀ t, t0 ≤ t → t < Lib.ctz 64 r → v.testBit t = false := by
  obtain ⟨h1, h2, h3, h4⟩ := low_bit r h0 H.lt
  have h5 := H.bit (Lib.ctz 64 r)
  rw [h2] at h5
  have h6 : t0 ≤ Lib.ctz 64 r ∧ v.testBit (Lib.ctz 64 r) = true := by
    have := h5.symm
    simpa [Bool.and_eq_true] using this
  refine ⟨⟨Nat.lt_of_le_of_lt Nat.and_le_left H.lt, by omega, fun t => ?_⟩, h6.1, h1, h6.2, fun t ht0 ht => ?_⟩
  · rw [h4 t, H.bit t]
    by_cases e : t = Lib.ctz 64 r
    · subst e
      have e2 : ¬ Lib.ctz 64 r + 1 ≤ Lib.ctz 64 r := by omega
      simp [e2]
    · by_cases hlt : t < Lib.ctz 64 r
      · have := h3 t hlt
        rw [H.bit t] at this
        have e2 : ¬ Lib.ctz 64 r + 1 ≤ t := by omega
        rw [this]; simp [e2]
      · have e1 : t0 ≤ t := by omega
        have e2 : Lib.ctz 64 r + 1 ≤ t := by omega
        simp [e, e1, e2]
  · have := h3 t ht
    rw [H.bit t] at this
    simpa [ht0] using this
theorem Left.done {v t0 : Nat} (H : Left 0 v t0) : ∀ t, t0 ≤ t → v.testBit t = false := fun t ht => by
  have := H.bit t
  simpa [ht] using this.symm

/-- The threshold behind the first t0 bits of word i. -/
theorem word_skip {S : List Int} {base : Nat} {W : Nat → Nat} (hS : Ran S base (base + 4096)) (hb : base % 4096 = 0) (hmem : ∀ x : Int, (base : Int) ≤ x → x < (base : Int) + 4096 → (x ∈ S ↔ bit W x = true)) {i t0 t1 : Nat} (hi : i < 64) (h1 : t1 ≤ 64) (h01 : t0 ≤ t1) (hno : ∀ t, t0 ≤ t → t < t1 → (W i).testBit t = false) :
    bel S ((base + 64 * i + t1 : Nat) : Int) = bel S ((base + 64 * i + t0 : Nat) : Int) := by
  refine bel_same (by omega) fun x hx hge hlt => ?_
  have hlo := hS.lo x hx
  obtain ⟨x, rfl⟩ := Int.eq_ofNat_of_zero_le (show 0 ≤ x by omega)
  have hbx := (hmem x (by omega) (by omega)).1 hx
  have e1 : (x : Int).toNat / 64 % 64 = i := by omega
  have e2 : (x : Int).toNat % 64 = x - (base + 64 * i) := by omega
  unfold bit at hbx
  rw [e1, e2, hno _ (by omega) (by omega)] at hbx
  cases hbx
theorem word_one {S : List Int} {base : Nat} {W : Nat → Nat} (hS : Ran S base (base + 4096)) (hb : base % 4096 = 0) (hmem : ∀ x : Int, (base : Int) ≤ x → x < (base : Int) + 4096 → (x ∈ S ↔ bit W x = true)) {i t : Nat} (hi : i < 64) (ht : t < 64) (hbit : (W i).testBit t = true) :
    ((base + 64 * i + t : Nat) : Int) ∈ S ∧ bel S ((base + 64 * i + (t + 1) : Nat) : Int) = bel S ((base + 64 * i + t : Nat) : Int) ++ [((base + 64 * i + t : Nat) : Int)] := by
  have hin : ((base + 64 * i + t : Nat) : Int) ∈ S := by
    refine (hmem _ (by omega) (by omega)).2 ?_
    unfold bit
    have e1 : ((base + 64 * i + t : Nat) : Int).toNat / 64 % 64 = i := by omega
    have e2 : ((base + 64 * i + t : Nat) : Int).toNat % 64 = t := by omega
    rw [e1, e2]; exact hbit
  refine ⟨hin, bel_add hS.asc (by simp [Asc]) (by omega) fun x => ?_⟩
  rw [List.mem_singleton]
  constructor
  · rintro rfl; exact ⟨hin, by omega, by omega⟩
  · rintro ⟨_, h1, h2⟩; omega
end Go.Proofs.Qxb6609120aDoor
