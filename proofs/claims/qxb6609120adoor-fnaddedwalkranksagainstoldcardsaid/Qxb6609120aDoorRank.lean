/-
  THE RANKS: plain.
-/
import Derived.Test.Qxb6609120aDoorListed2
namespace Go.Proofs.Qxb6609120aDoor
open Go.RowKit
open Plain (Srt Asc asc_ext)
set_option linter.unusedVariables false

theorem w64_a1 (a b c : Int) : wrap64 (wrap64 (a + b) + c) = wrap64 (a + (b + c)) := by unfold wrap64; omega
theorem w64_s (x b j : Int) : wrap64 (wrap64 (x - b) - j) = wrap64 (x - wrap64 (b + j)) := by unfold wrap64; omega
theorem w64_w (x : Int) : wrap64 (wrap64 x) = wrap64 x := by unfold wrap64; omega

/-- The rank of x: less b, less those of O below it. -/
def rank (O : List Int) (b x : Int) : Int := wrap64 (x - wrap64 (b + ((bel O x).length : Int)))
/-- The ranks of what N holds and S does not. -/
def rk (N S O : List Int) (b : Int) : List Int := (N.filter fun x => decide (x ∉ S)).map (rank O b)
theorem rk_append (N M S O : List Int) (b : Int) : rk (N ++ M) S O b = rk N S O b ++ rk M S O b := by simp [rk, List.filter_append]
theorem rk_in {S O : List Int} {b x : Int} (h : x ∈ S) : rk [x] S O b = [] := by simp [rk, h]
theorem rk_out {S O : List Int} {b x : Int} (h : x ∉ S) : rk [x] S O b = [rank O b x] := by simp [rk, h]
theorem rk_none {N S O : List Int} {b : Int} (h : ∀ x ∈ N, x ∈ S) : rk N S O b = [] := by
  unfold rk
  rw [List.filter_eq_nil_iff.2 (fun x hx => by simp [h x hx])]
  rfl
theorem rk_len (N S O : List Int) (b : Int) : (rk N S O b).length ≤ N.length := by
  unfold rk
  rw [List.length_map]
  exact List.length_filter_le _ _
theorem rk_nil (S O : List Int) (b : Int) : rk [] S O b = [] := rfl
/-- A part's ranks. -/
theorem rk_mid {N S O : List Int} {m m' : Int} {b : Int} (hO : Asc O) (hN : ∀ x ∈ N, m ≤ x ∧ x < m') :
    rk N (mid S m m') (mid O m m') (wrap64 (b + ((bel O m).length : Int))) = rk N S O b := by
  unfold rk
  have e : (N.filter fun x => decide (x ∉ mid S m m')) = N.filter fun x => decide (x ∉ S) := by
    apply List.filter_congr
    intro x hx
    obtain ⟨h1, h2⟩ := hN x hx
    have : (x ∈ mid S m m') ↔ x ∈ S := by rw [mem_mid]; exact ⟨fun h => h.1, fun h => ⟨h, h1, h2⟩⟩
    simp [this]
  rw [e]
  apply List.map_congr_left
  intro x hx
  obtain ⟨h1, h2⟩ := hN x (List.mem_filter.1 hx).1
  unfold rank
  have e1 : bel (mid O m m') x = mid O m x := asc_ext (bel_asc (mid_asc hO _ _) _) (mid_asc hO _ _) fun y => by
    rw [mem_bel, mem_mid, mem_mid]
    constructor
    · rintro ⟨⟨a, b, c⟩, d⟩; exact ⟨a, b, d⟩
    · rintro ⟨a, b, c⟩; exact ⟨⟨a, b, by omega⟩, c⟩
  rw [e1, w64_a1, mid_count hO h1, Int.natCast_add]

/-- a of S have been passed when k of N have. -/
structure Mt (N S : List Int) (k a : Nat) : Prop where
  le : a ≤ S.length
  past : ∀ y ∈ S.take a, y ∈ N.take k
  left : ∀ y ∈ S.drop a, y ∈ N.drop k
theorem Mt.start {N S : List Int} (h : ∀ x ∈ S, x ∈ N) : Mt N S 0 0 := ⟨Nat.zero_le _, by simp, by simpa using h⟩
theorem Mt.hit {N S : List Int} {k a : Nat} (H : Mt N S k a) (hS : Asc S) (hk : k < N.length) (ha : a < S.length) (e : S[a] = N[k]) : Mt N S (k + 1) (a + 1) where
  le := ha
  past := fun y hy => by
    rw [List.take_succ_eq_append_getElem ha, List.mem_append] at hy
    rw [List.take_succ_eq_append_getElem hk, List.mem_append]
    rcases hy with hy | hy
    · exact .inl (H.past y hy)
    · simp at hy; right; rw [hy, e]; simp
  left := fun y hy => by
    have h1 := H.left y (Plain.mem_drop_of_succ hy)
    rw [List.drop_eq_getElem_cons hk] at h1
    rcases List.mem_cons.1 h1 with h | h
    · have h2 := (List.drop_eq_getElem_cons ha) ▸ (List.Pairwise.drop (i := a) hS)
      have h3 := (List.pairwise_cons.1 h2).1 y hy
      omega
    · exact h
theorem Mt.miss {N S : List Int} {k a : Nat} (H : Mt N S k a) (hN : Asc N) (hS : Asc S) (hk : k < N.length) (e : ∀ ha : a < S.length, S[a] ≠ N[k]) : Mt N S (k + 1) a ∧ N[k] ∉ S := by
  have key : N[k] ∉ S.drop a := fun hy => by
    have ha : a < S.length := by
      rcases Nat.lt_or_ge a S.length with h | h
      · exact h
      · rw [List.drop_of_length_le h] at hy; simp at hy
    rw [List.drop_eq_getElem_cons ha] at hy
    have h1 := H.left S[a] (Plain.mem_drop_head ha)
    rw [List.drop_eq_getElem_cons hk] at h1
    rcases List.mem_cons.1 hy with h | h
    · exact e ha h.symm
    · have h2 := (List.drop_eq_getElem_cons ha) ▸ (List.Pairwise.drop (i := a) hS)
      have h3 := (List.pairwise_cons.1 h2).1 _ h
      rcases List.mem_cons.1 h1 with h4 | h4
      · exact e ha h4
      · have h5 := (List.drop_eq_getElem_cons hk) ▸ (List.Pairwise.drop (i := k) hN)
        have h6 := (List.pairwise_cons.1 h5).1 _ h4
        omega
  refine ⟨⟨H.le, fun y hy => ?_, fun y hy => ?_⟩, fun hx => ?_⟩
  · rw [List.take_succ_eq_append_getElem hk, List.mem_append]
    exact .inl (H.past y hy)
  · have h1 := H.left y hy
    rw [List.drop_eq_getElem_cons hk] at h1
    rcases List.mem_cons.1 h1 with h | h
    · exact absurd (h ▸ hy) key
    · exact h
  · rw [← List.take_append_drop a S, List.mem_append] at hx
    rcases hx with hx | hx
    · have h1 := H.past _ hx
      obtain ⟨j, hj, hje⟩ := List.mem_take_iff_getElem.1 h1
      have := List.pairwise_iff_getElem.1 hN j k (by omega) hk (by omega)
      omega
    · exact key hx
theorem Mt.done {N S : List Int} {a : Nat} (H : Mt N S N.length a) : a = S.length := by
  have h := H.left
  rw [List.drop_length] at h
  rcases Nat.lt_or_ge a S.length with h1 | h1
  · have := h S[a] (Plain.mem_drop_head h1)
    simp at this
  · have := H.le; omega
/-- So many of O lie below N[k]. -/
theorem Mt.count {N O : List Int} {k c : Nat} (H : Mt N O k c) (hN : Asc N) (hO : Asc O) (hk : k < N.length) : (bel O N[k]).length = c := by
  have e : bel O N[k] = O.take c := by
    refine asc_ext (bel_asc hO _) (List.Pairwise.sublist (List.take_sublist c O) hO) fun y => ?_
    rw [mem_bel]
    constructor
    · rintro ⟨hy, hlt⟩
      rw [← List.take_append_drop c O, List.mem_append] at hy
      rcases hy with hy | hy
      · exact hy
      · have h1 := H.left y hy
        rw [List.drop_eq_getElem_cons hk] at h1
        rcases List.mem_cons.1 h1 with h | h
        · omega
        · have h5 := (List.drop_eq_getElem_cons hk) ▸ (List.Pairwise.drop (i := k) hN)
          have h6 := (List.pairwise_cons.1 h5).1 _ h
          omega
    · intro hy
      obtain ⟨j, hj, hje⟩ := List.mem_take_iff_getElem.1 (H.past y hy)
      have := List.pairwise_iff_getElem.1 hN j k (by omega) hk (by omega)
      exact ⟨List.mem_of_mem_take hy, by omega⟩
  rw [e, List.length_take]
  have := H.le
  omega
theorem rk_take {N S O : List Int} {b : Int} {k : Nat} (hk : k < N.length) : rk (N.take (k + 1)) S O b = rk (N.take k) S O b ++ rk [N[k]] S O b := by
  rw [List.take_succ_eq_append_getElem hk, rk_append]
end Go.Proofs.Qxb6609120aDoor
