/-
  THE PLAIN LAWS on the decimal numeral and on the path of a term. No Go in sight.
-/
import Derived.Lib.ItoaLen
namespace Go.Proofs.Qxb6614965aFmt.Plain
open Go.Lib

/-- A numeral's byte: a digit. -/
def Digit (c : UInt8) : Prop := 48 ≤ c.toNat ∧ c.toNat ≤ 57

theorem digit_of (u : Nat) (h : u < 10) : (UInt8.ofNat (48 + u)).toNat = 48 + u := by
  simp; omega

theorem dec_digit (u : Nat) : ∀ c ∈ decDigits u, Digit c := by
  induction u using Nat.strongRecOn with
  | _ u ih =>
    intro c hc
    rw [decDigits] at hc
    split at hc
    · rename_i h
      simp only [List.mem_singleton] at hc
      subst hc
      unfold Digit; rw [digit_of u h]; omega
    · rename_i h
      rcases List.mem_append.1 hc with hc | hc
      · exact ih (u / 10) (by omega) c hc
      · simp only [List.mem_singleton] at hc
        subst hc
        unfold Digit; rw [digit_of _ (Nat.mod_lt _ (by decide))]; omega

/-- What a list of digits says. -/
def val (l : List UInt8) : Nat := l.foldl (fun a c => a * 10 + (c.toNat - 48)) 0
theorem val_snoc (l : List UInt8) (c : UInt8) : val (l ++ [c]) = val l * 10 + (c.toNat - 48) := by
  unfold val; rw [List.foldl_append]; rfl
theorem val_dec (u : Nat) : val (decDigits u) = u := by
  induction u using Nat.strongRecOn with
  | _ u ih =>
    rw [decDigits]
    split
    · rename_i h
      show 0 * 10 + _ = u
      rw [digit_of u h]; omega
    · rename_i h
      rw [val_snoc, ih (u / 10) (by omega), digit_of _ (Nat.mod_lt _ (by decide))]
      omega
theorem dec_inj {u v : Nat} (h : decDigits u = decDigits v) : u = v := by rw [← val_dec u, h, val_dec]

theorem dec_pos (u : Nat) : 1 ≤ (decDigits u).length := by rw [decDigits_length]; exact nDigits_pos u

theorem itoa_byte (x : Int) : ∀ c ∈ itoa x, c.toNat = 45 ∨ Digit c := by
  intro c hc
  unfold itoa at hc
  split at hc
  · rcases List.mem_cons.1 hc with rfl | hc
    · exact Or.inl rfl
    · exact Or.inr (dec_digit _ c hc)
  · exact Or.inr (dec_digit _ c hc)
theorem itoa_pos (x : Int) : 1 ≤ (itoa x).length := by
  unfold itoa
  split
  · simp
  · exact dec_pos _
theorem itoa_inj {x y : Int} (h : itoa x = itoa y) : x = y := by
  have neg : ∀ (a b : Nat), ¬ (45 :: decDigits a = decDigits b) := by
    intro a b e
    have := dec_digit b 45 (by rw [← e]; simp)
    unfold Digit at this
    simp at this
  unfold itoa at h
  by_cases hx : x < 0 <;> by_cases hy : y < 0
  · rw [if_pos hx, if_pos hy] at h
    have := dec_inj (List.cons.inj h).2
    omega
  · rw [if_pos hx, if_neg hy] at h; exact absurd h (neg _ _)
  · rw [if_neg hx, if_pos hy] at h; exact absurd h.symm (neg _ _)
  · rw [if_neg hx, if_neg hy] at h
    have := dec_inj h
    omega
theorem itoa_len_neg (u : Nat) (h : 1 ≤ u) : (itoa (-(u : Int))).length = nDigits u + 1 := by rw [itoa_neg u h, List.length_cons, decDigits_length]
theorem itoa_len_pos (u : Nat) : (itoa (u : Int)).length = nDigits u := by rw [itoa_nonneg, decDigits_length]

/-- "valuation.terms[" -/
def head : List UInt8 := [118, 97, 108, 117, 97, 116, 105, 111, 110, 46, 116, 101, 114, 109, 115, 91]
/-- The path of term k in its grant. -/
def path (k : Int) : List UInt8 := head ++ itoa k ++ [93]
theorem path_len (k : Int) : (path k).length = 17 + (itoa k).length := by simp [path, head]; omega
theorem path_inj {j k : Int} (h : path j = path k) : j = k := by
  unfold path at h
  exact itoa_inj (List.append_cancel_left (List.append_cancel_right h))
/-- The grant's prefix: its field and a dot, or nothing. -/
def pre (f : List UInt8) : List UInt8 := if f = [] then [] else f ++ [46]
end Go.Proofs.Qxb6614965aFmt.Plain
