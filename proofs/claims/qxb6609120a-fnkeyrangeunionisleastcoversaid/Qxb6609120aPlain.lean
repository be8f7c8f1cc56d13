/-
  THE PLAIN LAW: strings in byte order; key ranges [lo, hi) whose empty hi bounds nothing; their union is the least cover, and the hull of three. No Go in sight.
-/
import GoSem.Op.String
import Derived.Laws.Strings
namespace Go.Proofs.Qxb6609120a.Plain

theorem bl_irrefl : ∀ l : List UInt8, Op.bytesLess l l = false
  | [] => rfl
  | a :: x => by simp [Op.bytesLess, bl_irrefl x, UInt8.lt_irrefl]

theorem bl_trans : ∀ x y z : List UInt8, Op.bytesLess x y = true → Op.bytesLess y z = true → Op.bytesLess x z = true
  | _, _, [], _, h2 => by simp [Op.bytesLess] at h2
  | _, [], _ :: _, h1, _ => by simp [Op.bytesLess] at h1
  | [], _ :: _, _ :: _, _, _ => by simp [Op.bytesLess]
  | a :: x, b :: y, c :: z, h1, h2 => by
    simp only [Op.bytesLess, Bool.or_eq_true, decide_eq_true_eq, Bool.and_eq_true, beq_iff_eq] at h1 h2 ⊢
    rcases h1 with h1 | ⟨rfl, h1⟩
    · rcases h2 with h2 | ⟨rfl, h2⟩
      · exact Or.inl (UInt8.lt_trans h1 h2)
      · exact Or.inl h1
    · rcases h2 with h2 | ⟨rfl, h2⟩
      · exact Or.inl h2
      · exact Or.inr ⟨rfl, bl_trans x y z h1 h2⟩

theorem bl_total : ∀ x y : List UInt8, Op.bytesLess x y = false → Op.bytesLess y x = false → x = y
  | [], [], _, _ => rfl
  | [], _ :: _, h1, _ => by simp [Op.bytesLess] at h1
  | _ :: _, [], _, h2 => by simp [Op.bytesLess] at h2
  | a :: x, b :: y, h1, h2 => by
    simp only [Op.bytesLess, Bool.or_eq_false_iff, decide_eq_false_iff_not, Bool.and_eq_false_iff, beq_eq_false_iff_ne] at h1 h2
    have e : a = b := by
      have h3 := h1.1; have h4 := h2.1
      rw [UInt8.lt_iff_toNat_lt] at h3 h4
      exact UInt8.toNat_inj.1 (by omega)
    subst e
    have h5 := h1.2.resolve_left (by simp)
    have h6 := h2.2.resolve_left (by simp)
    rw [bl_total x y h5 h6]

/-- x <= y in byte order, as Go's '<=' says it. -/
def le (x y : ByteArray) : Bool := Op.bytesLess x.toList y.toList || x.toList == y.toList
theorem eq_of_toList {x y : ByteArray} (h : x.toList = y.toList) : x = y := by
  rw [ByteArray.toList_eq, ByteArray.toList_eq] at h
  cases x; cases y; simp at h; rw [h]
theorem le_iff {x y : ByteArray} : le x y = true ↔ Op.bytesLess x.toList y.toList = true ∨ x = y := by
  unfold le
  simp only [Bool.or_eq_true, beq_iff_eq]
  constructor
  · rintro (h | h)
    · exact Or.inl h
    · exact Or.inr (eq_of_toList h)
  · rintro (h | h)
    · exact Or.inl h
    · exact Or.inr (by rw [h])
theorem le_refl (x : ByteArray) : le x x = true := le_iff.2 (Or.inr rfl)
theorem le_trans {x y z : ByteArray} (h1 : le x y = true) (h2 : le y z = true) : le x z = true := by
  rw [le_iff] at *
  rcases h1 with h1 | rfl
  · rcases h2 with h2 | rfl
    · exact Or.inl (bl_trans _ _ _ h1 h2)
    · exact Or.inl h1
  · exact h2
theorem le_total (x y : ByteArray) : le x y = true ∨ le y x = true := by
  by_cases h1 : Op.bytesLess x.toList y.toList = true
  · exact Or.inl (le_iff.2 (Or.inl h1))
  · by_cases h2 : Op.bytesLess y.toList x.toList = true
    · exact Or.inr (le_iff.2 (Or.inl h2))
    · exact Or.inl (le_iff.2 (Or.inr (eq_of_toList (bl_total _ _ (by simpa using h1) (by simpa using h2)))))
theorem le_antisymm {x y : ByteArray} (h1 : le x y = true) (h2 : le y x = true) : x = y := by
  rw [le_iff] at *
  rcases h1 with h1 | rfl
  · rcases h2 with h2 | rfl
    · have := bl_trans _ _ _ h1 h2; rw [bl_irrefl] at this; cases this
    · rfl
  · rfl
/-- 'not x < y' is 'y <= x'. -/
theorem not_lt (x y : ByteArray) : (!Op.bytesLess x.toList y.toList) = le y x := by
  rw [Bool.eq_iff_iff]
  constructor
  · intro h
    rcases le_total y x with h1 | h1
    · exact h1
    · rw [le_iff] at h1
      rcases h1 with h1 | rfl
      · rw [h1] at h; cases h
      · exact le_refl _
  · intro h
    rcases h3 : Op.bytesLess x.toList y.toList with _ | _
    · rfl
    · have h4 := le_antisymm h (le_iff.2 (Or.inl h3)); subst h4; rw [bl_irrefl] at h3; cases h3

/-- Is it the empty string? -/
def em (x : ByteArray) : Bool := x.toList.isEmpty
theorem em_iff {x : ByteArray} : em x = true ↔ x = ByteArray.empty := by
  unfold em
  constructor
  · intro h
    exact eq_of_toList (by rw [List.isEmpty_iff] at h; rw [h]; rw [ByteArray.toList_eq]; rfl)
  · rintro rfl; rw [ByteArray.toList_eq]; rfl

/-- The lesser of the two; the greater; Go's builtins. -/
def lo (x y : ByteArray) : ByteArray := if le x y = true then x else y
def mx (x y : ByteArray) : ByteArray := if le y x = true then x else y
/-- The union's upper bound: none where one of the two has none. -/
def hi (x y : ByteArray) : ByteArray := if em x = true ∨ em y = true then ByteArray.empty else mx x y
/-- x is no higher a bound than y (an empty one bounds nothing). -/
def hle (x y : ByteArray) : Bool := em y || (!em x && le x y)
/-- Range p holds every key of range r. -/
def cov (plo phi rlo rhi : ByteArray) : Bool := le plo rlo && hle rhi phi

theorem le_lo (p x y : ByteArray) : le p (lo x y) = (le p x && le p y) := by
  unfold lo
  rw [Bool.eq_iff_iff, Bool.and_eq_true]
  split
  · rename_i h
    exact ⟨fun g => ⟨g, le_trans g h⟩, fun g => g.1⟩
  · rename_i h
    have h2 := (le_total x y).resolve_left h
    exact ⟨fun g => ⟨le_trans g h2, g⟩, fun g => g.2⟩
theorem mx_le (p x y : ByteArray) : le (mx x y) p = (le x p && le y p) := by
  unfold mx
  rw [Bool.eq_iff_iff, Bool.and_eq_true]
  split
  · rename_i h
    exact ⟨fun g => ⟨g, le_trans h g⟩, fun g => g.1⟩
  · rename_i h
    have h2 := (le_total x y).resolve_right h
    exact ⟨fun g => ⟨le_trans h2 g, g⟩, fun g => g.2⟩
theorem em_mx {x y : ByteArray} (hx : em x = false) (hy : em y = false) : em (mx x y) = false := by
  unfold mx; split <;> assumption
theorem em_empty : em ByteArray.empty = true := em_iff.2 rfl
theorem hi_hle (p x y : ByteArray) : hle (hi x y) p = (hle x p && hle y p) := by
  unfold hi hle
  cases hp : em p with
  | true => simp
  | false =>
    cases hx : em x with
    | true => simp [em_empty]
    | false =>
      cases hy : em y with
      | true => simp [em_empty]
      | false => simp [em_mx hx hy, mx_le]
theorem hle_refl (x : ByteArray) : hle x x = true := by
  unfold hle; cases em x <;> simp [le_refl]
theorem cov_union (plo phi rlo rhi olo ohi : ByteArray) : cov plo phi (lo rlo olo) (hi rhi ohi) = (cov plo phi rlo rhi && cov plo phi olo ohi) := by
  unfold cov
  rw [le_lo, hi_hle]
  cases le plo rlo <;> cases le plo olo <;> cases hle rhi phi <;> cases hle ohi phi <;> rfl
theorem cov_refl (rlo rhi : ByteArray) : cov rlo rhi rlo rhi = true := by unfold cov; rw [le_refl, hle_refl]; rfl
theorem cov_left (rlo rhi olo ohi : ByteArray) : cov (lo rlo olo) (hi rhi ohi) rlo rhi = true := by
  have h := cov_union (lo rlo olo) (hi rhi ohi) rlo rhi olo ohi
  rw [cov_refl] at h; exact (Bool.and_eq_true_iff.1 h.symm).1
theorem cov_right (rlo rhi olo ohi : ByteArray) : cov (lo rlo olo) (hi rhi ohi) olo ohi = true := by
  have h := cov_union (lo rlo olo) (hi rhi ohi) rlo rhi olo ohi
  rw [cov_refl] at h; exact (Bool.and_eq_true_iff.1 h.symm).2
/-- The law's whole answer. -/
theorem least (rlo rhi olo ohi plo phi : ByteArray) : (cov plo phi rlo rhi && cov plo phi olo ohi) = cov plo phi (lo rlo olo) (hi rhi ohi) := (cov_union ..).symm

/-! ### The hull of three -/
theorem hle_trans {x y z : ByteArray} (h1 : hle x y = true) (h2 : hle y z = true) : hle x z = true := by
  unfold hle at *
  cases hz : em z with
  | true => rfl
  | false =>
    simp [hz] at h2
    simp [h2.1] at h1
    simp [h1.1, le_trans h1.2 h2.2]
theorem hle_antisymm {x y : ByteArray} (h1 : hle x y = true) (h2 : hle y x = true) : x = y := by
  unfold hle at *
  cases hx : em x with
  | true =>
    simp [hx] at h1
    rw [em_iff.1 hx, em_iff.1 h1]
  | false =>
    simp [hx] at h2
    simp [h2.1] at h1
    exact le_antisymm h1.2 h2.2
theorem lo_eq {a b : ByteArray} (h : ∀ p, le p a = le p b) : a = b :=
  le_antisymm (by rw [← h a]; exact le_refl a) (by rw [h b]; exact le_refl b)
theorem hi_eq {a b : ByteArray} (h : ∀ p, hle a p = hle b p) : a = b :=
  hle_antisymm (by rw [h b]; exact hle_refl b) (by rw [← h a]; exact hle_refl a)
theorem lo_assoc (x y z : ByteArray) : lo (lo x y) z = lo x (lo y z) :=
  lo_eq fun p => by simp only [le_lo, Bool.and_assoc]
theorem lo_rot (x y z : ByteArray) : lo (lo x y) z = lo y (lo z x) :=
  lo_eq fun p => by simp only [le_lo]; cases le p x <;> cases le p y <;> cases le p z <;> rfl
theorem hi_assoc (x y z : ByteArray) : hi (hi x y) z = hi x (hi y z) :=
  hi_eq fun p => by simp only [hi_hle, Bool.and_assoc]
theorem hi_rot (x y z : ByteArray) : hi (hi x y) z = hi y (hi z x) :=
  hi_eq fun p => by simp only [hi_hle]; cases hle x p <;> cases hle y p <;> cases hle z p <;> rfl
theorem cov3 (rlo rhi olo ohi plo phi : ByteArray) :
    cov (lo (lo rlo olo) plo) (hi (hi rhi ohi) phi) rlo rhi = true ∧ cov (lo (lo rlo olo) plo) (hi (hi rhi ohi) phi) olo ohi = true ∧ cov (lo (lo rlo olo) plo) (hi (hi rhi ohi) phi) plo phi = true := by
  have h := cov_union (lo (lo rlo olo) plo) (hi (hi rhi ohi) phi) (lo rlo olo) (hi rhi ohi) plo phi
  rw [cov_refl, cov_union] at h
  have h2 := Bool.and_eq_true_iff.1 h.symm
  have h3 := Bool.and_eq_true_iff.1 h2.1
  exact ⟨h3.1, h3.2, h2.2⟩
theorem lo_one (x y : ByteArray) : lo x y = x ∨ lo x y = y := by unfold lo; split <;> simp
theorem hi_one (x y : ByteArray) : hi x y = x ∨ hi x y = y := by
  unfold hi mx
  split
  · rename_i h
    rcases h with h | h
    · exact Or.inl (em_iff.1 h).symm
    · exact Or.inr (em_iff.1 h).symm
  · split <;> simp
theorem lo_of3 (x y z : ByteArray) : lo (lo x y) z = x ∨ lo (lo x y) z = y ∨ lo (lo x y) z = z := by
  rcases lo_one (lo x y) z with h | h
  · rw [h]; rcases lo_one x y with g | g
    · exact Or.inl g
    · exact Or.inr (Or.inl g)
  · exact Or.inr (Or.inr h)
theorem hi_of3 (x y z : ByteArray) : hi (hi x y) z = x ∨ hi (hi x y) z = y ∨ hi (hi x y) z = z := by
  rcases hi_one (hi x y) z with h | h
  · rw [h]; rcases hi_one x y with g | g
    · exact Or.inl g
    · exact Or.inr (Or.inl g)
  · exact Or.inr (Or.inr h)
end Go.Proofs.Qxb6609120a.Plain
