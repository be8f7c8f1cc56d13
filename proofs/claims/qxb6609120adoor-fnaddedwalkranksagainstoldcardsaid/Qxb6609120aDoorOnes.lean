/-
  math/bits.OnesCount64: as many as the bits that are set.
-/
import Derived.Test.Qxb6609120aDoorMembers
namespace Go.Proofs.Qxb6609120aDoor
open Go.RowKit
set_option linter.unusedVariables false

/-- How many of the lowest n bits of v are set. -/
def cnt : Nat → Nat → Nat
  | _, 0 => 0
  | v, n + 1 => v % 2 + cnt (v / 2) n
theorem cnt_eight (v n : Nat) : cnt v (n + 8) = cnt (v % 256) 8 + cnt (v / 256) n := by
  have e : v / 2 / 2 / 2 / 2 / 2 / 2 / 2 / 2 = v / 256 := by omega
  show v % 2 + (v / 2 % 2 + (v / 2 / 2 % 2 + (v / 2 / 2 / 2 % 2 + (v / 2 / 2 / 2 / 2 % 2 + (v / 2 / 2 / 2 / 2 / 2 % 2 + (v / 2 / 2 / 2 / 2 / 2 / 2 % 2 + (v / 2 / 2 / 2 / 2 / 2 / 2 / 2 % 2 + cnt (v / 2 / 2 / 2 / 2 / 2 / 2 / 2 / 2) n))))))) = _
  rw [e]
  simp only [cnt]
  omega
theorem cnt_zero : ∀ n, cnt 0 n = 0
  | 0 => rfl
  | n + 1 => by show 0 % 2 + cnt (0 / 2) n = 0; rw [Nat.zero_div, cnt_zero n]
theorem cnt_succ : ∀ (n v : Nat), cnt v (n + 1) = cnt v n + (if v.testBit n then 1 else 0)
  | 0, v => by
    show v % 2 + 0 = 0 + _
    rw [Nat.testBit_zero]
    rcases Nat.mod_two_eq_zero_or_one v with h | h <;> simp [h]
  | n + 1, v => by
    have := cnt_succ n (v / 2)
    show v % 2 + cnt (v / 2) (n + 1) = v % 2 + cnt (v / 2) n + _
    rw [this, Nat.testBit_succ]
    omega
theorem cnt_mod : ∀ (t n v : Nat), t ≤ n → cnt (v % 2 ^ t) n = cnt v t
  | 0, n, v, _ => by rw [Nat.pow_zero, Nat.mod_one, cnt_zero]; rfl
  | t + 1, 0, v, h => by omega
  | t + 1, n + 1, v, h => by
    show v % 2 ^ (t + 1) % 2 + cnt (v % 2 ^ (t + 1) / 2) n = v % 2 + cnt (v / 2) t
    have e1 : v % 2 ^ (t + 1) / 2 = v / 2 % 2 ^ t := by
      rw [Nat.pow_succ, Nat.mul_comm, Nat.mod_mul_right_div_self]
    have e2 : v % 2 ^ (t + 1) % 2 = v % 2 := Nat.mod_mod_of_dvd _ ⟨2 ^ t, by rw [Nat.pow_succ, Nat.mul_comm]⟩
    rw [e1, e2, cnt_mod t n (v / 2) (by omega)]
theorem cnt_le : ∀ (n v : Nat), cnt v n ≤ n
  | 0, _ => Nat.le_refl _
  | n + 1, v => by
    have := cnt_le n (v / 2)
    have := Nat.mod_lt v (show 0 < 2 by decide)
    show v % 2 + cnt (v / 2) n ≤ n + 1
    omega

/-! ### The three masked steps, byte by byte -/
/-- The byte c, k times. -/
def rep : Nat → Nat → Nat
  | 0, _ => 0
  | k + 1, c => c + 256 * rep k c
def p1 (k v : Nat) : Nat := ((v / 2) &&& rep k 85) + (v &&& rep k 85)
def p2 (k v : Nat) : Nat := ((v / 4) &&& rep k 51) + (v &&& rep k 51)
def p3 (k v : Nat) : Nat := (v / 16 + v) &&& rep k 15
def p (k v : Nat) : Nat := p3 k (p2 k (p1 k v))
theorem and_byte (a q m M : Nat) (ha : a < 256) (hm : m < 256) : (a + 256 * q) &&& (m + 256 * M) = (a &&& m) + 256 * (q &&& M) := by
  have h1 : ((a + 256 * q) &&& (m + 256 * M)) % 2 ^ 8 = a &&& m := by
    rw [Nat.and_mod_two_pow]
    rw [show (a + 256 * q) % 2 ^ 8 = a by omega, show (m + 256 * M) % 2 ^ 8 = m by omega]
  have h2 : ((a + 256 * q) &&& (m + 256 * M)) / 2 ^ 8 = q &&& M := by
    rw [Nat.and_div_two_pow]
    rw [show (a + 256 * q) / 2 ^ 8 = q by omega, show (m + 256 * M) / 2 ^ 8 = M by omega]
  omega
theorem byte85 : ∀ a, a < 128 → ∀ e, e < 2 → (a + 128 * e) &&& 85 = a &&& 85 := by decide +kernel
theorem byte51 : ∀ a, a < 64 → ∀ e, e < 4 → (a + 64 * e) &&& 51 = a &&& 51 := by decide +kernel
theorem byte15 : ∀ a, a < 256 → a &&& 15 = a % 16 := fun a _ => Nat.and_two_pow_sub_one_eq_mod a 4
theorem p1_byte (k a q : Nat) (ha : a < 256) : p1 (k + 1) (a + 256 * q) = p1 1 a + 256 * p1 k q := by
  unfold p1
  show (((a + 256 * q) / 2) &&& (85 + 256 * rep k 85)) + ((a + 256 * q) &&& (85 + 256 * rep k 85)) = ((a / 2) &&& 85) + (a &&& 85) + _
  rw [show (a + 256 * q) / 2 = (a / 2 + 128 * (q % 2)) + 256 * (q / 2) by omega, and_byte _ _ _ _ (by omega) (by decide), byte85 _ (by omega) _ (by omega), and_byte _ _ _ _ ha (by decide)]
  omega
theorem p2_byte (k a q : Nat) (ha : a < 256) : p2 (k + 1) (a + 256 * q) = p2 1 a + 256 * p2 k q := by
  unfold p2
  show (((a + 256 * q) / 4) &&& (51 + 256 * rep k 51)) + ((a + 256 * q) &&& (51 + 256 * rep k 51)) = ((a / 4) &&& 51) + (a &&& 51) + _
  rw [show (a + 256 * q) / 4 = (a / 4 + 64 * (q % 4)) + 256 * (q / 4) by omega, and_byte _ _ _ _ (by omega) (by decide), byte51 _ (by omega) _ (by omega), and_byte _ _ _ _ ha (by decide)]
  omega
theorem p2_one : ∀ a, a < 256 → p2 1 a % 16 ≤ 6 ∧ p2 1 a ≤ 102 := by decide +kernel
theorem p2_nib (k v : Nat) : p2 k v % 16 ≤ 6 := by
  cases k with
  | zero => simp [p2, rep]
  | succ k =>
    have := (p2_one (v % 256) (by omega)).1
    have e : v = v % 256 + 256 * (v / 256) := by omega
    rw [e, p2_byte k _ _ (by omega)]
    omega
theorem p3_byte (k a q : Nat) (ha : a ≤ 102) (hq : q % 16 ≤ 6) : p3 (k + 1) (a + 256 * q) = p3 1 a + 256 * p3 k q := by
  unfold p3
  show ((a + 256 * q) / 16 + (a + 256 * q)) &&& (15 + 256 * rep k 15) = ((a / 16 + a) &&& 15) + _
  rw [show (a + 256 * q) / 16 + (a + 256 * q) = (a / 16 + a + 16 * (q % 16)) + 256 * (q / 16 + q) by omega, and_byte _ _ _ _ (by omega) (by decide), byte15 _ (by omega), byte15 _ (by omega)]
  omega
theorem p1_one : ∀ a, a < 256 → p1 1 a < 256 := by decide +kernel
theorem p_byte (k a q : Nat) (ha : a < 256) : p (k + 1) (a + 256 * q) = p 1 a + 256 * p k q := by
  unfold p
  rw [p1_byte k a q ha, p2_byte k _ _ (p1_one a ha), p3_byte k _ _ (p2_one _ (p1_one a ha)).2 (p2_nib _ _)]
theorem p_one : ∀ a, a < 256 → p 1 a = cnt a 8 := by decide +kernel
theorem p_succ (k v : Nat) : p (k + 1) v = cnt (v % 256) 8 + 256 * p k (v / 256) := by
  have e : v = v % 256 + 256 * (v / 256) := by omega
  conv => lhs; rw [e]
  rw [p_byte k _ _ (by omega), p_one _ (by omega)]
theorem p_zero (v : Nat) : p 0 v = 0 := by simp [p, p3, rep]
/-- The last three steps. -/
def q3 (y : Nat) : Nat := let a := y + y / 256; let b := a + a / 65536; (b + b / 4294967296) &&& 127
theorem q3_sum (c0 c1 c2 c3 c4 c5 c6 c7 : Nat) (h0 : c0 ≤ 8) (h1 : c1 ≤ 8) (h2 : c2 ≤ 8) (h3 : c3 ≤ 8) (h4 : c4 ≤ 8) (h5 : c5 ≤ 8) (h6 : c6 ≤ 8) (h7 : c7 ≤ 8) :
    q3 (c0 + 256 * (c1 + 256 * (c2 + 256 * (c3 + 256 * (c4 + 256 * (c5 + 256 * (c6 + 256 * c7))))))) = c0 + (c1 + (c2 + (c3 + (c4 + (c5 + (c6 + c7)))))) := by
  unfold q3
  have e1 : (c0 + 256 * (c1 + 256 * (c2 + 256 * (c3 + 256 * (c4 + 256 * (c5 + 256 * (c6 + 256 * c7))))))) / 256 = c1 + 256 * (c2 + 256 * (c3 + 256 * (c4 + 256 * (c5 + 256 * (c6 + 256 * c7))))) := by omega
  rw [e1]
  have e2 : (c0 + 256 * (c1 + 256 * (c2 + 256 * (c3 + 256 * (c4 + 256 * (c5 + 256 * (c6 + 256 * c7)))))) + (c1 + 256 * (c2 + 256 * (c3 + 256 * (c4 + 256 * (c5 + 256 * (c6 + 256 * c7))))))) / 65536 = (c2 + c3) + 256 * (c3 + c4) + 65536 * ((c4 + c5) + 256 * ((c5 + c6) + 256 * ((c6 + c7) + 256 * c7))) := by omega
  simp only [e2]
  have e3 : (c0 + 256 * (c1 + 256 * (c2 + 256 * (c3 + 256 * (c4 + 256 * (c5 + 256 * (c6 + 256 * c7)))))) + (c1 + 256 * (c2 + 256 * (c3 + 256 * (c4 + 256 * (c5 + 256 * (c6 + 256 * c7)))))) + ((c2 + c3) + 256 * (c3 + c4) + 65536 * ((c4 + c5) + 256 * ((c5 + c6) + 256 * ((c6 + c7) + 256 * c7))))) / 4294967296 = (c4 + c5 + c6 + c7) + 256 * (c5 + c6 + c7 + c7 - c7) + 65536 * ((c6 + c7) + 256 * c7) := by omega
  simp only [e3]
  rw [show (127 : Nat) = 2 ^ 7 - 1 by rfl, Nat.and_two_pow_sub_one_eq_mod]
  omega
/-- The whole. -/
theorem q3_p (v : Nat) (hv : v < 18446744073709551616) : q3 (p 8 v) = cnt v 64 := by
  rw [p_succ, p_succ, p_succ, p_succ, p_succ, p_succ, p_succ, p_succ, p_zero, Nat.mul_zero, Nat.add_zero]
  rw [q3_sum _ _ _ _ _ _ _ _ (cnt_le _ _) (cnt_le _ _) (cnt_le _ _) (cnt_le _ _) (cnt_le _ _) (cnt_le _ _) (cnt_le _ _) (cnt_le _ _)]
  have h8 : ∀ u, cnt u 8 = cnt (u % 256) 8 := fun u => by have := cnt_eight u 0; rw [show (0 + 8 : Nat) = 8 by rfl] at this; rw [this]; exact Nat.add_zero _
  have h16 : ∀ u, cnt u 16 = cnt (u % 256) 8 + cnt (u / 256) 8 := fun u => cnt_eight u 8
  have h24 : ∀ u, cnt u 24 = cnt (u % 256) 8 + cnt (u / 256) 16 := fun u => cnt_eight u 16
  have h32 : ∀ u, cnt u 32 = cnt (u % 256) 8 + cnt (u / 256) 24 := fun u => cnt_eight u 24
  have h40 : ∀ u, cnt u 40 = cnt (u % 256) 8 + cnt (u / 256) 32 := fun u => cnt_eight u 32
  have h48 : ∀ u, cnt u 48 = cnt (u % 256) 8 + cnt (u / 256) 40 := fun u => cnt_eight u 40
  have h56 : ∀ u, cnt u 56 = cnt (u % 256) 8 + cnt (u / 256) 48 := fun u => cnt_eight u 48
  have h64 : ∀ u, cnt u 64 = cnt (u % 256) 8 + cnt (u / 256) 56 := fun u => cnt_eight u 56
  rw [h64, h56, h48, h40, h32, h24, h16, ← h8 (v / 256 / 256 / 256 / 256 / 256 / 256 / 256)]
end Go.Proofs.Qxb6609120aDoor
