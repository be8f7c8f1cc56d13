/-
  rowNode.part: what the node holds in the span of its child.
-/
import Derived.Test.Qxb6609120aDoorCount
namespace Go.Proofs.Qxb6609120aDoor
open Go.RowKit
open Plain (Srt Asc asc_ext Asc.srt)
set_option linter.unusedVariables false

/-- From m up to m'. -/
def mid (S : List Int) (m m' : Int) : List Int := S.filter fun x => decide (m ≤ x) && decide (x < m')
theorem mem_mid {S : List Int} {m m' x : Int} : x ∈ mid S m m' ↔ x ∈ S ∧ m ≤ x ∧ x < m' := by simp [mid]
theorem mid_asc {S : List Int} (h : Asc S) (m m' : Int) : Asc (mid S m m') := List.Pairwise.filter _ h
theorem mid_len (S : List Int) (m m' : Int) : (mid S m m').length ≤ S.length := List.length_filter_le _ _
theorem bel_mid {S : List Int} (h : Asc S) {m m' : Int} (hm : m ≤ m') : bel S m' = bel S m ++ mid S m m' := bel_add h (mid_asc h _ _) hm (fun x => mem_mid)
theorem bel_split {S : List Int} (h : Asc S) (m : Int) : ∃ r, S = bel S m ++ r ∧ ∀ x ∈ r, m ≤ x := by
  refine ⟨S.filter fun x => decide (m ≤ x), asc_ext h (List.pairwise_append.2 ⟨bel_asc h _, List.Pairwise.filter _ h, fun a ha b hb => ?_⟩) fun x => ?_, fun x hx => by simpa using (List.mem_filter.1 hx).2⟩
  · have h1 := (mem_bel.1 ha).2
    have h2 : m ≤ b := by simpa using (List.mem_filter.1 hb).2
    omega
  · rw [List.mem_append, mem_bel, List.mem_filter]
    simp
    constructor
    · intro hx
      rcases Int.lt_or_le x m with h | h
      · exact Or.inl ⟨hx, h⟩
      · exact Or.inr ⟨hx, h⟩
    · rintro (h | h) <;> exact h.1
theorem mid_slice {S : List Int} (h : Asc S) {m m' : Int} (hm : m ≤ m') : (S.drop (bel S m).length).take ((bel S m').length - (bel S m).length) = mid S m m' := by
  obtain ⟨r, hr, _⟩ := bel_split h m'
  have e := bel_mid h hm
  have h2 : ∀ T : List Int, T = bel S m ++ (mid S m m' ++ r) → T.drop (bel S m).length = mid S m m' ++ r := fun T hT => by rw [hT, List.drop_left]
  have e2 : S.drop (bel S m).length = mid S m m' ++ r := h2 S (by rw [← List.append_assoc, ← e]; exact hr)
  rw [e2, e, List.length_append, Nat.add_sub_cancel_left, List.take_left]
theorem mid_count {S : List Int} (h : Asc S) {m m' : Int} (hm : m ≤ m') : (bel S m').length = (bel S m).length + (mid S m m').length := by rw [bel_mid h hm, List.length_append]

theorem cut_bel {S : List Int} (h : Asc S) {m : Int} {i : Nat} (hc : Cut S m i) : i = (bel S m).length := by
  have hle := hc.le
  have e : bel S m = S.take i := by
    refine asc_ext (bel_asc h m) (List.Pairwise.sublist (List.take_sublist i S) h) fun x => ?_
    rw [mem_bel]
    constructor
    · rintro ⟨hx, hlt⟩
      obtain ⟨j, hj, rfl⟩ := List.getElem_of_mem hx
      by_cases hji : j < i
      · exact List.mem_take_iff_getElem.2 ⟨j, by omega, rfl⟩
      · have := hc.above j hj (by omega); omega
    · intro hx
      obtain ⟨j, hj, rfl⟩ := List.mem_take_iff_getElem.1 hx
      exact ⟨List.getElem_mem _, hc.below j (by omega) (by omega)⟩
  rw [e, List.length_take]
  omega
/-- searchOrd over a node's list, its answer said outright. -/
theorem search32_at (b off cap : Nat) (O : List Int) (x : Int) (w : World) (hO : At .u32 w b off O) (hs : Asc O) (hr : ∀ x ∈ O, 0 ≤ x ∧ x < 4294967296) (hl : O.length ≤ 1048576) :
    Calls Tryd.prog 67 #[.slice (some ⟨b, off, none⟩) O.length cap, .int .i64 x] w fun e w' => e = .returned (.int .i64 ((bel O x).length : Nat)) ∧ w' = w :=
  (search32_any b off cap O x w hO hs.srt hr hl).mono fun e w' ⟨i, he, hc, hw⟩ => ⟨by rw [he, cut_bel hs hc], hw⟩

theorem below_drewN (w : World) (n : Nat) : Below w.heap.size w (w.drewN n) := ⟨rfl, rfl, rfl, Nat.le_refl _, fun _ _ => rfl⟩
theorem part_nil (i start sub : Int) (w : World) : Calls Tryd.prog 51 #[.pointer none, .int .i64 i, .int .i64 start, .int .i64 sub] w fun e w' => e = .returned (.pointer none) ∧ w' = w := by
  go_enter Tryd.func51, Tryd.ntmps51
  go_wp2_with fail
  go_ret
  exact ⟨rfl, rfl⟩
theorem part_kids (b kb : Nat) (K : Nat → Option Addr) (i : Nat) (start sub : Int) (w : World) (hc : NCell w b (some ⟨kb, 0, none⟩) none (.slice none 0 0)) (hK : Kids w kb K) (hi : i < 64) :
    Calls Tryd.prog 51 #[.pointer (some ⟨b, 0, none⟩), .int .i64 (i : Nat), .int .i64 start, .int .i64 sub] w fun e w' => e = .returned (.pointer (K i)) ∧ w' = w := by
  have c0 := hc.kids
  have gc := hK i hi
  have hii : ((i : Nat) : Int) < 64 := by omega
  clear hc hK
  generalize K i = k at *
  go_enter Tryd.func51, Tryd.ntmps51
  go_wp2_with fail
  go_ret
  exact ⟨rfl, rfl⟩
set_option maxRecDepth 10000 in
theorem part_list (S : List Int) (b lb lo cap : Nat) (i : Int) (start sub : Nat) (w : World) (hL : ListN w S b lb lo cap) (hS : Asc S) (hr : ∀ x ∈ S, 0 ≤ x ∧ x < 4294967296) (hbig : start + sub ≤ 1099511627776) :
    Calls Tryd.prog 51 #[.pointer (some ⟨b, 0, none⟩), .int .i64 i, .int .i64 (start : Nat), .int .i64 (sub : Nat)] w fun e w' =>
      (mid S (start : Int) ((start + sub : Nat) : Int) = [] ∧ e = .returned (.pointer none) ∧ Below w.heap.size w w') ∨ ∃ b' lo' cap', e = .returned (.pointer (some ⟨b', 0, none⟩)) ∧ w.heap.size ≤ b' ∧ ListN w' (mid S (start : Int) ((start + sub : Nat) : Int)) b' lb lo' cap' ∧ Below w.heap.size w w' := by
  have c0 := hL.cells.kids
  have c2 := hL.cells.list
  have hq := hL.cap
  have hfew := hL.few
  have H1 : Hid (∀ n, Calls Tryd.prog 67 #[.slice (some ⟨lb, lo, none⟩) S.length cap, .int .i64 (start : Nat)] (w.drewN n) fun e w' => e = .returned (.int .i64 ((bel S (start : Int)).length : Nat)) ∧ w' = w.drewN n) := fun n => search32_at lb lo cap S start (w.drewN n) ⟨hL.row.cell⟩ hS hr (by omega)
  have H2 : Hid (∀ n, Calls Tryd.prog 67 #[.slice (some ⟨lb, lo, none⟩) S.length cap, .int .i64 ((start : Int) + (sub : Int))] (w.drewN n) fun e w' => e = .returned (.int .i64 ((bel S ((start : Int) + (sub : Int))).length : Nat)) ∧ w' = w.drewN n) := fun n => search32_at lb lo cap S _ (w.drewN n) ⟨hL.row.cell⟩ hS hr (by omega)
  have hms := mid_slice hS (m := (start : Int)) (m' := (start : Int) + (sub : Int)) (by omega)
  have hmc := mid_count hS (m := (start : Int)) (m' := (start : Int) + (sub : Int)) (by omega)
  have h3 := bel_len S ((start : Int) + (sub : Int))
  rw [show ((start + sub : Nat) : Int) = (start : Int) + (sub : Int) by omega]
  have HR : Hid (At .u32 w lb lo S) := hL.row
  have HM : Hid ((S.drop (bel S (start : Int)).length).take ((bel S ((start : Int) + (sub : Int))).length - (bel S (start : Int)).length) = mid S (start : Int) ((start : Int) + (sub : Int))) := hms
  have HF : Hid (S.length ≤ 1024) := hfew
  clear hL hS hr hms hfew
  generalize mid S (start : Int) ((start : Int) + (sub : Int)) = M at *
  generalize (bel S ((start : Int) + (sub : Int))).length = c at *
  generalize (bel S (start : Int)).length = a at *
  have HMC : Hid (c = a + M.length) := hmc
  have hle : a ≤ c := by omega
  clear hmc
  go_enter Tryd.func51, Tryd.ntmps51
  go_wp2_with fail
  go_quiet ((first | (go_at_call_of 67 sub; exact Calls.quiet_of_same (H2.out _)) | (go_at_call 67; exact Calls.quiet_of_same (H1.out _))))
  by_cases hac : a = c
  · subst hac
    go_wp2_with fail
    go_ret
    exact .inl ⟨List.length_eq_zero_iff.1 (by have := HMC.out; omega), rfl, below_drewN w nq⟩
  · have hlt : a < c := by omega
    have hne : ((a : Int) == (c : Int)) = false := by simp; omega
    clear hac hle
    have hac2 : (a : Int) ≤ (c : Int) := by omega
    have hcs : (c : Int) ≤ (cap : Int) := by omega
    go_wp2_with (refine wpList_box88 rfl (.tmp 50) none none (some ⟨lb, lo + a, none⟩) (c - a) (cap - a) rfl rfl ?_; intro w3 N3)
    go_ret
    have hb3 : Below w.heap.size w w3 := (below_drewN w nq).trans N3.below
    have hml : M.length = c - a := by have := HMC.out; omega
    refine .inr ⟨w.heap.size, lo + a, cap - a, rfl, Nat.le_refl _, ⟨?_, ?_, by omega, by have := HF.out; omega, ?_⟩, hb3⟩
    · rw [hml]; exact N3.ncell
    · intro e; rw [e] at hml; simp at hml; omega
    · rw [← HM.out]
      exact ((HR.out.keep hb3).drop a).take (c - a)
/-- n.part(i, start, sub), whatever the node. -/
theorem part_any (ok : Nat → Prop) (h base : Nat) (p : Option Addr) (S : List Int) (i : Nat) (w : World) (hn : Node ok (h + 1) w base p S) (hi : i < 64) (h32 : ∀ x ∈ S, x < 4294967296) (hbig : base + spn (h + 1) ≤ 1099511627776) :
    Calls Tryd.prog 51 #[.pointer p, .int .i64 (i : Nat), .int .i64 ((base + i * spn h : Nat) : Int), .int .i64 (spn h : Nat)] w fun e w' => ∃ p', e = .returned (.pointer p') ∧ Node (fun b => ok b ∨ w.heap.size ≤ b) h w' (base + i * spn h) p' (mid S ((base + i * spn h : Nat) : Int) ((base + i * spn h + spn h : Nat) : Int)) ∧ Below w.heap.size w w' := by
  have hm : (i + 1) * spn h ≤ 64 * spn h := Nat.mul_le_mul_right _ hi
  rw [Nat.add_mul, Nat.one_mul, ← spn_succ] at hm
  rcases hn.2 with ⟨rfl, rfl⟩ | ⟨b, lb, lo, lc, rfl, hl, o1, o2⟩ | ⟨b, kb, K, L, rfl, hc, hk, hN, hL, o1, o2⟩
  · exact (part_nil _ _ _ w).mono fun e w' ⟨he, hw⟩ => by
      subst hw
      exact ⟨none, he, Node.nil _ _ _ _, Below.refl _ _⟩
  · refine (part_list S b lb lo lc i (base + i * spn h) (spn h) w hl hn.1.asc (fun x hx => ⟨by have := hn.1.lo x hx; omega, h32 x hx⟩) (by omega)).mono ?_
    rintro e w' (⟨hM, rfl, hb⟩ | ⟨b', lo', cap', rfl, hge, hL', hb⟩)
    · rw [hM]
      exact ⟨none, rfl, Node.nil _ _ _ _, hb⟩
    · exact ⟨_, rfl, Node.list ⟨mid_asc hn.1.asc _ _, fun x hx => (mem_mid.1 hx).2.1, fun x hx => (mem_mid.1 hx).2.2⟩ hL' (.inr hge) (.inl o2), hb⟩
  · refine (part_kids b kb K i _ _ w hc hk hi).mono ?_
    rintro e w' ⟨rfl, rfl⟩
    have e1 := kids_add hn.1.asc hN hL hi
    have e2 := bel_mid hn.1.asc (m := ((base + i * spn h : Nat) : Int)) (m' := ((base + i * spn h + spn h : Nat) : Int)) (by omega)
    rw [show base + (i + 1) * spn h = base + i * spn h + spn h by rw [Nat.add_mul]; omega, e2] at e1
    rw [List.append_cancel_left e1]
    exact ⟨_, rfl, (hN i hi).wide (fun b h => .inl h), Below.refl _ _⟩
end Go.Proofs.Qxb6609120aDoor
