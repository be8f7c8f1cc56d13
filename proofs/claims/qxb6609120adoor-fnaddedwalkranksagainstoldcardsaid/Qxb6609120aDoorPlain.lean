/-
  PLAIN LAWS ON LISTS: merging, striking doubles, ascending lists and what is in them. No Go in sight.
-/
import Init
namespace Go.Proofs.Qxb6609120aDoor.Plain
set_option linter.unusedVariables false

/-- In order, doubles allowed. -/
def Srt (l : List Int) : Prop := l.Pairwise (· ≤ ·)
/-- In order, each once. -/
def Asc (l : List Int) : Prop := l.Pairwise (· < ·)

theorem asc_ext : ∀ {a b : List Int}, Asc a → Asc b → (∀ x, x ∈ a ↔ x ∈ b) → a = b
  | [], [], _, _, _ => rfl
  | [], y :: b, _, _, h => by have := (h y).2 (by simp); simp at this
  | x :: a, [], _, _, h => by have := (h x).1 (by simp); simp at this
  | x :: a, y :: b, ha, hb, h => by
    have ha' := List.pairwise_cons.1 ha
    have hb' := List.pairwise_cons.1 hb
    have e : x = y := by
      rcases List.mem_cons.1 ((h x).1 (by simp)) with e | e
      · exact e
      · rcases List.mem_cons.1 ((h y).2 (by simp)) with e2 | e2
        · exact e2.symm
        · have h1 := hb'.1 x e
          have h2 := ha'.1 y e2
          omega
    subst e
    rw [asc_ext ha'.2 hb'.2 fun z => ?_]
    constructor
    · intro hz
      rcases List.mem_cons.1 ((h z).1 (by simp [hz])) with e | e
      · have := ha'.1 z hz; omega
      · exact e
    · intro hz
      rcases List.mem_cons.1 ((h z).2 (by simp [hz])) with e | e
      · have := hb'.1 z hz; omega
      · exact e
theorem Asc.srt {l : List Int} (h : Asc l) : Srt l := List.Pairwise.imp (fun h => Int.le_of_lt h) h

/-- i of L and j of R have been merged into M. -/
structure Mg (L R : List Int) (i j : Nat) (M : List Int) : Prop where
  perm : M.Perm (L.take i ++ R.take j)
  srt : Srt M
  lo : ∀ x ∈ M, ∀ y ∈ L.drop i, x ≤ y
  hi : ∀ x ∈ M, ∀ y ∈ R.drop j, x ≤ y
theorem Mg.start (L R : List Int) : Mg L R 0 0 [] := ⟨by simp, List.Pairwise.nil, by simp, by simp⟩
theorem Mg.len {L R M : List Int} {i j : Nat} (h : Mg L R i j M) (hi : i ≤ L.length) (hj : j ≤ R.length) : M.length = i + j := by
  have := h.perm.length_eq
  rw [this, List.length_append, List.length_take, List.length_take]; omega
theorem srt_snoc {M : List Int} {x : Int} (h : Srt M) (hx : ∀ y ∈ M, y ≤ x) : Srt (M ++ [x]) :=
  List.pairwise_append.2 ⟨h, List.pairwise_singleton _ _, fun a ha b hb => by simp at hb; subst hb; exact hx a ha⟩
theorem srt_drop_head {L : List Int} (h : Srt L) (i : Nat) (hi : i < L.length) : ∀ y ∈ L.drop (i + 1), L[i] ≤ y := by
  intro y hy
  have := (List.drop_eq_getElem_cons hi) ▸ (List.Pairwise.drop (i := i) h)
  exact (List.pairwise_cons.1 this).1 y hy
theorem mem_drop_of_succ {L : List Int} {i : Nat} {y : Int} (h : y ∈ L.drop (i + 1)) : y ∈ L.drop i := by
  rw [← List.drop_drop] at h
  exact List.mem_of_mem_drop h
theorem mem_drop_head {L : List Int} {i : Nat} (hi : i < L.length) : L[i] ∈ L.drop i := by
  rw [List.drop_eq_getElem_cons hi]; exact List.mem_cons_self
theorem drop_cases {L : List Int} {i : Nat} (hi : i < L.length) {y : Int} (h : y ∈ L.drop i) : y = L[i] ∨ y ∈ L.drop (i + 1) := by
  rw [List.drop_eq_getElem_cons hi] at h
  exact List.mem_cons.1 h

theorem Mg.left {L R M : List Int} {i j : Nat} (h : Mg L R i j M) (hL : Srt L) (hi : i < L.length) (hj : j < R.length) (hR : Srt R) (hle : L[i] ≤ R[j]) : Mg L R (i + 1) j (M ++ [L[i]]) where
  perm := by
    rw [List.take_succ_eq_append_getElem hi]
    have h1 : (M ++ [L[i]]).Perm ((L.take i ++ R.take j) ++ [L[i]]) := h.perm.append_right _
    refine h1.trans ?_
    rw [List.append_assoc, List.append_assoc]
    exact List.Perm.append_left _ List.perm_append_comm
  srt := srt_snoc h.srt fun y hy => h.lo y hy _ (mem_drop_head hi)
  lo := fun x hx y hy => by
    rcases List.mem_append.1 hx with hx | hx
    · exact h.lo x hx y (mem_drop_of_succ hy)
    · simp at hx; subst hx; exact srt_drop_head hL i hi y hy
  hi := fun x hx y hy => by
    rcases List.mem_append.1 hx with hx | hx
    · exact h.hi x hx y hy
    · simp at hx; subst hx
      rcases drop_cases hj hy with e | e
      · rw [e]; exact hle
      · exact Int.le_trans hle (srt_drop_head hR j hj y e)
theorem Mg.right {L R M : List Int} {i j : Nat} (h : Mg L R i j M) (hL : Srt L) (hi : i < L.length) (hj : j < R.length) (hR : Srt R) (hle : R[j] ≤ L[i]) : Mg L R i (j + 1) (M ++ [R[j]]) where
  perm := by
    rw [List.take_succ_eq_append_getElem hj, ← List.append_assoc]
    exact h.perm.append_right _
  srt := srt_snoc h.srt fun y hy => h.hi y hy _ (mem_drop_head hj)
  lo := fun x hx y hy => by
    rcases List.mem_append.1 hx with hx | hx
    · exact h.lo x hx y hy
    · simp at hx; subst hx
      rcases drop_cases hi hy with e | e
      · rw [e]; exact hle
      · exact Int.le_trans hle (srt_drop_head hL i hi y e)
  hi := fun x hx y hy => by
    rcases List.mem_append.1 hx with hx | hx
    · exact h.hi x hx y (mem_drop_of_succ hy)
    · simp at hx; subst hx; exact srt_drop_head hR j hj y hy
theorem Mg.stop {L R M : List Int} {i j : Nat} (h : Mg L R i j M) (hL : Srt L) (hR : Srt R) (he : L.length ≤ i ∨ R.length ≤ j) : Srt (M ++ L.drop i ++ R.drop j) ∧ (M ++ L.drop i ++ R.drop j).Perm (L ++ R) := by
  have hp : (M ++ L.drop i ++ R.drop j).Perm (L ++ R) := by
    have h1 : (M ++ L.drop i ++ R.drop j).Perm (L.take i ++ R.take j ++ L.drop i ++ R.drop j) := (h.perm.append_right _).append_right _
    refine h1.trans ?_
    have h2 : (L.take i ++ R.take j ++ L.drop i).Perm (L.take i ++ L.drop i ++ R.take j) := by
      rw [List.append_assoc, List.append_assoc]
      exact List.Perm.append_left _ List.perm_append_comm
    refine (h2.append_right _).trans ?_
    rw [List.take_append_drop, List.append_assoc, List.take_append_drop]
  refine ⟨?_, hp⟩
  rcases he with he | he
  · rw [List.drop_eq_nil_of_le he, List.append_nil]
    exact List.pairwise_append.2 ⟨h.srt, List.Pairwise.drop hR, h.hi⟩
  · rw [List.drop_eq_nil_of_le he, List.append_nil]
    exact List.pairwise_append.2 ⟨h.srt, List.Pairwise.drop hL, h.lo⟩

/-- D: the first n of the ordered list l, each once. -/
structure Dd (l : List Int) (n : Nat) (D : List Int) : Prop where
  asc : Asc D
  mem : ∀ x, x ∈ D ↔ x ∈ l.take n
  last : D.getLast? = (l.take n).getLast?
  len : D.length ≤ n
theorem Dd.start (l : List Int) : Dd l 0 [] := ⟨List.Pairwise.nil, by simp, by simp, by simp⟩
theorem take_le {l : List Int} (hl : Srt l) (n : Nat) (hn : n < l.length) : ∀ x ∈ l.take n, x ≤ l[n] := by
  intro x hx
  have h1 : Srt (l.take n ++ l.drop n) := by rw [List.take_append_drop]; exact hl
  exact (List.pairwise_append.1 h1).2.2 x hx _ (mem_drop_head hn)
theorem Dd.skip {l D : List Int} {n : Nat} (h : Dd l n D) (hl : Srt l) (hn : n < l.length) (hd : D ≠ []) (he : D.getLast hd = l[n]) : Dd l (n + 1) D where
  asc := h.asc
  mem := fun x => by
    rw [List.take_succ_eq_append_getElem hn, List.mem_append, h.mem x]
    constructor
    · exact Or.inl
    · rintro (g | g)
      · exact g
      · simp at g; subst g; rw [← he]; exact (h.mem _).1 (List.getLast_mem hd)
  last := by
    rw [List.take_succ_eq_append_getElem hn, List.getLast?_append]
    rw [List.getLast?_eq_some_getLast hd, he]; rfl
  len := by have := h.len; omega
theorem Dd.put {l D : List Int} {n : Nat} (h : Dd l n D) (hl : Srt l) (hn : n < l.length) (hd : ∀ hd : D ≠ [], D.getLast hd ≠ l[n]) : Dd l (n + 1) (D ++ [l[n]]) where
  asc := by
    refine List.pairwise_append.2 ⟨h.asc, List.pairwise_singleton _ _, fun a ha b hb => ?_⟩
    simp at hb; subst hb
    have hne : D ≠ [] := List.ne_nil_of_mem ha
    have h1 : D.getLast hne ≤ l[n] := take_le hl n hn _ ((h.mem _).1 (List.getLast_mem hne))
    have h2 : D.getLast hne < l[n] := by have := hd hne; omega
    have h3 : a ≤ D.getLast hne := by
      have hD := List.dropLast_concat_getLast hne
      rw [← hD] at ha
      rcases List.mem_append.1 ha with g | g
      · have h4 : Asc (D.dropLast ++ [D.getLast hne]) := by rw [hD]; exact h.asc
        exact Int.le_of_lt ((List.pairwise_append.1 h4).2.2 a g _ (by simp))
      · simp at g; omega
    omega
  mem := fun x => by
    rw [List.take_succ_eq_append_getElem hn, List.mem_append, List.mem_append, h.mem x]
  last := by
    rw [List.take_succ_eq_append_getElem hn, List.getLast?_concat, List.getLast?_concat]
  len := by have := h.len; simp; omega

/-! ### The union of an ascending list and an ordered one -/
theorem asc_snoc {M : List Int} {x : Int} (h : Asc M) (hx : ∀ y ∈ M, y < x) : Asc (M ++ [x]) :=
  List.pairwise_append.2 ⟨h, List.pairwise_singleton _ _, fun a ha b hb => by simp at hb; subst hb; exact hx a ha⟩
theorem asc_drop_head {L : List Int} (h : Asc L) (i : Nat) (hi : i < L.length) : ∀ y ∈ L.drop (i + 1), L[i] < y := by
  intro y hy
  have := (List.drop_eq_getElem_cons hi) ▸ (List.Pairwise.drop (i := i) h)
  exact (List.pairwise_cons.1 this).1 y hy
theorem asc_last {D : List Int} (h : Asc D) (hd : D ≠ []) : ∀ a ∈ D, a ≤ D.getLast hd := by
  intro a ha
  have hD := List.dropLast_concat_getLast hd
  rw [← hD] at ha
  rcases List.mem_append.1 ha with g | g
  · have h4 : Asc (D.dropLast ++ [D.getLast hd]) := by rw [hD]; exact h
    exact Int.le_of_lt ((List.pairwise_append.1 h4).2.2 a g _ (by simp))
  · simp at g; omega
structure Un (L O : List Int) (i k : Nat) (U : List Int) : Prop where
  asc : Asc U
  sep : ∀ x ∈ U, ∀ y ∈ L.drop i, x < y
  le : ∀ x ∈ U, ∀ y ∈ O.drop k, x ≤ y
  mem : ∀ x, (x ∈ U ∨ x ∈ L.drop i) ↔ (x ∈ L ∨ x ∈ O.take k)
  len : U.length + (L.length - i) ≤ L.length + k
theorem Un.start (L O : List Int) : Un L O 0 0 [] := ⟨List.Pairwise.nil, by simp, by simp, by simp, by simp⟩
theorem Un.move {L O U : List Int} {i k : Nat} (h : Un L O i k U) (hL : Asc L) (hO : Srt O) (hi : i < L.length) (hk : k < O.length) (hlt : L[i] < O[k]) : Un L O (i + 1) k (U ++ [L[i]]) where
  asc := asc_snoc h.asc fun y hy => h.sep y hy _ (mem_drop_head hi)
  sep := fun x hx y hy => by
    rcases List.mem_append.1 hx with hx | hx
    · exact h.sep x hx y (mem_drop_of_succ hy)
    · simp at hx; subst hx; exact asc_drop_head hL i hi y hy
  le := fun x hx y hy => by
    rcases List.mem_append.1 hx with hx | hx
    · exact h.le x hx y hy
    · simp at hx; subst hx
      rcases drop_cases hk hy with e | e
      · rw [e]; omega
      · have := srt_drop_head hO k hk y e; omega
  mem := fun x => by
    rw [← h.mem x, List.drop_eq_getElem_cons hi, List.mem_append, List.mem_singleton, List.mem_cons]
    constructor
    · rintro ((g | g) | g)
      · exact Or.inl g
      · exact Or.inr (Or.inl g)
      · exact Or.inr (Or.inr g)
    · rintro (g | g | g)
      · exact Or.inl (Or.inl g)
      · exact Or.inl (Or.inr g)
      · exact Or.inr g
  len := by have := h.len; simp; omega
theorem mem_take_succ {O : List Int} {k : Nat} (hk : k < O.length) (x : Int) : x ∈ O.take (k + 1) ↔ x ∈ O.take k ∨ x = O[k] := by
  rw [List.take_succ_eq_append_getElem hk, List.mem_append, List.mem_singleton]
theorem Un.skip {L O U : List Int} {i k : Nat} (h : Un L O i k U) (hk : k < O.length) (hin : O[k] ∈ U ∨ O[k] ∈ L.drop i) : Un L O i (k + 1) U where
  asc := h.asc
  sep := h.sep
  le := fun x hx y hy => h.le x hx y (mem_drop_of_succ hy)
  mem := fun x => by
    rw [mem_take_succ hk, h.mem x]
    constructor
    · rintro (g | g)
      · exact Or.inl g
      · exact Or.inr (Or.inl g)
    · rintro (g | g | g)
      · exact Or.inl g
      · exact Or.inr g
      · rw [g]; exact (h.mem _).1 hin
  len := by have := h.len; omega
theorem Un.put {L O U : List Int} {i k : Nat} (h : Un L O i k U) (hL : Asc L) (hO : Srt O) (hk : k < O.length) (hl : ∀ hi : i < L.length, O[k] < L[i]) (hu : ∀ hd : U ≠ [], U.getLast hd ≠ O[k]) : Un L O i (k + 1) (U ++ [O[k]]) where
  asc := asc_snoc h.asc fun y hy => by
    have hne : U ≠ [] := List.ne_nil_of_mem hy
    have h1 := asc_last h.asc hne y hy
    have h2 := h.le _ (List.getLast_mem hne) _ (mem_drop_head hk)
    have h3 := hu hne
    omega
  sep := fun x hx y hy => by
    rcases List.mem_append.1 hx with hx | hx
    · exact h.sep x hx y hy
    · simp at hx; subst hx
      have hi : i < L.length := by
        rcases Nat.lt_or_ge i L.length with g | g
        · exact g
        · rw [List.drop_eq_nil_of_le g] at hy; simp at hy
      have h1 := hl hi
      rcases drop_cases hi hy with e | e
      · rw [e]; exact h1
      · have := asc_drop_head hL i hi y e; omega
  le := fun x hx y hy => by
    rcases List.mem_append.1 hx with hx | hx
    · exact h.le x hx y (mem_drop_of_succ hy)
    · simp at hx; subst hx; exact srt_drop_head hO k hk y hy
  mem := fun x => by
    rw [mem_take_succ hk, List.mem_append, List.mem_singleton]
    have := h.mem x
    constructor
    · rintro ((g | g) | g)
      · rcases this.1 (Or.inl g) with g | g
        · exact Or.inl g
        · exact Or.inr (Or.inl g)
      · exact Or.inr (Or.inr g)
      · rcases this.1 (Or.inr g) with g | g
        · exact Or.inl g
        · exact Or.inr (Or.inl g)
    · rintro (g | g | g)
      · rcases this.2 (Or.inl g) with g | g
        · exact Or.inl (Or.inl g)
        · exact Or.inr g
      · rcases this.2 (Or.inr g) with g | g
        · exact Or.inl (Or.inl g)
        · exact Or.inr g
      · exact Or.inl (Or.inr g)
  len := by have := h.len; simp; omega
theorem Un.stop {L O U : List Int} {i k : Nat} (h : Un L O i k U) (hL : Asc L) (hk : O.length ≤ k) : Asc (U ++ L.drop i) ∧ (∀ x, x ∈ U ++ L.drop i ↔ x ∈ L ∨ x ∈ O) := by
  refine ⟨List.pairwise_append.2 ⟨h.asc, List.Pairwise.drop hL, h.sep⟩, fun x => ?_⟩
  rw [List.mem_append, h.mem x, List.take_of_length_le hk]
end Go.Proofs.Qxb6609120aDoor.Plain
