/-
  THE LAWS' OWN LIST FUNCTIONS: zzClone64, zzJoin64, zzEq64, zzMergeSort, zzSetOf.
-/
import Derived.Test.Qxb6609120aDoorMem
import Derived.Test.Qxb6609120aDoorPlain
import Derived.Laws.CopyOwn
namespace Go.Proofs.Qxb6609120aDoor
open Go.RowKit
set_option linter.unusedVariables false

theorem info2 : (Tryd.prog.info? 2).map (fun i => (i.zero, i.size, i.bytes)) = some (some (.int .i64 0), 1, 8) := by kernel_rfl
theorem size2 : (Tryd.prog.info? 2).map (·.size) = some 1 := by kernel_rfl
theorem equalIn_slice (w : World) (d : Nat) (t e : TypeId) (a : Option Addr) (n c : Nat) (h : Tryd.prog.underlying t = some (.slice e)) :
    (Op.equalIn (d + 1) t (.slice a n c) (.slice none 0 0)).run Tryd.prog w = .ok a.isNone w := by
  cases a <;> simp [Op.equalIn, run_underlying h]
theorem eql_slice (w : World) (t e : TypeId) (a : Option Addr) (n c : Nat) (h : Tryd.prog.underlying t = some (.slice e)) :
    (binOp .eql t (.slice a n c) (.slice none 0 0)).run Tryd.prog w = .ok (.bool a.isNone) w := by
  simp only [binOp]
  simp [Op.equal, Op.maxDepth, equalIn_slice w 9999 t e a n c h]
theorem neq_slice (w : World) (t e : TypeId) (a : Option Addr) (n c : Nat) (h : Tryd.prog.underlying t = some (.slice e)) :
    (binOp .neq t (.slice a n c) (.slice none 0 0)).run Tryd.prog w = .ok (.bool (!a.isNone)) w := by
  simp only [binOp]
  simp [Op.equal, Op.maxDepth, equalIn_slice w 9999 t e a n c h]

/-- A row of integers that the call itself has made: a block of its own, not frozen. -/
structure Own (k : IntKind) (e : TypeId) (w : World) (b : Nat) (l : List Int) : Prop where
  row : ∃ rest : List Value, w.heap[b]? = some (.cells (l.map (Value.int k) ++ rest).toArray e (0, 0))

theorem Own.cell {k : IntKind} {e : TypeId} {w : World} {b : Nat} {l : List Int} (h : Own k e w b l) (i : Nat) (hi : i < l.length) : w.cell? ⟨b, 0 + i, none⟩ = some (.int k l[i]) := by
  obtain ⟨rest, hr⟩ := h.row
  have : (l.map (Value.int k) ++ rest)[i]? = some (.int k l[i]) := by
    rw [List.getElem?_append_left (by simpa using hi)]; simp [hi]
  simp [World.cell?, hr, this]
theorem Own.warm {k : IntKind} {e : TypeId} {w : World} {b : Nat} {l : List Int} (h : Own k e w b l) (i : Nat) : w.frozen? ⟨b, i, none⟩ = false := by
  obtain ⟨rest, hr⟩ := h.row
  simp [World.frozen?, hr]
theorem Own.at {k : IntKind} {e : TypeId} {w : World} {b : Nat} {l : List Int} (h : Own k e w b l) : At k w b 0 l := ⟨h.cell⟩
theorem Own.lt {k : IntKind} {e : TypeId} {w : World} {b : Nat} {l : List Int} (h : Own k e w b l) : b < w.heap.size := by
  obtain ⟨rest, hr⟩ := h.row
  exact (Array.getElem?_eq_some_iff.1 hr).1

/-- The slice value v' reads as l in w'; if there is anything in it, it lies at the head of a block made behind w. -/
structure New (w w' : World) (v' : Value) (l : List Int) : Prop where
  below : Below w.heap.size w w'
  sl : Sl .i64 w' v' l
  own : l ≠ [] → ∃ b cap, w.heap.size ≤ b ∧ v' = .slice (some ⟨b, 0, none⟩) l.length cap ∧ l.length ≤ cap ∧ Own .i64 2 w' b l

/-- 'copy(out, x)' into a row just made, as long as x. -/
theorem copy_new (w : World) (a : Option Addr) (l : List Int) (cap : Nat) (hx : l ≠ [] → ∃ b off, a = some ⟨b, off, none⟩ ∧ ∀ i (h : i < l.length), w.cell? ⟨b, off + i, none⟩ = some (.int .i64 l[i])) :
    ∃ w', (Builtin.copy_ #[35, 35] 3 #[.slice (some ⟨w.heap.size, 0, none⟩) l.length l.length, .slice a l.length cap]).run Tryd.prog (w.alloc (.cells (madeCells #[.int .i64 0] l.length) 2)) = .ok (goInt l.length) w' ∧
      Below w.heap.size w w' ∧ w'.heap[w.heap.size]? = some (.cells (l.map (Value.int .i64)).toArray 2 (0, 0)) := by
  have hb : Below w.heap.size w (w.alloc (.cells (madeCells #[.int .i64 0] l.length) 2)) := (Below.refl _ _).alloc (Nat.le_refl _) _
  have hg : (w.alloc (.cells (madeCells #[.int .i64 0] l.length) 2)).heap[w.heap.size]? = some (.cells (madeCells #[.int .i64 0] l.length) 2 (0, 0)) := heap_alloc_new w _
  by_cases hl : l = []
  · subst hl
    exact ⟨_, run_copy_none _ 35 35 3 2 _ _ _ _ _ _ Tryd.underlying35 size2 rfl, hb, by
      rw [hg]
      congr 2
      exact Array.eq_empty_of_size_eq_zero (by simp [size_madeCells])⟩
  · obtain ⟨b, off, rfl, hc⟩ := hx hl
    have hr := run_copy_row (P := Tryd.prog) (w.alloc (.cells (madeCells #[.int .i64 0] l.length) 2)) 35 35 3 2 w.heap.size 0 l.length l.length ⟨b, off, none⟩ l.length cap (madeCells #[.int .i64 0] l.length) 2 (l.map (Value.int .i64)) Tryd.underlying35 size2 hg (by simp) (fun j v hj => by
      have hj' : j < l.length := by have := (List.getElem?_eq_some_iff.1 hj).1; simpa using this
      rw [Addr.add_lit, World.cell?_alloc_lt _ _ _ (World.block_lt_of_cell? w _ (hc j hj')), hc j hj']
      simp [hj'] at hj
      rw [hj]) (by simp [size_madeCells]) (ints_oneCell _ _)
    have hfull : ((madeCells #[Value.int .i64 0] l.length).toList.take 0 ++ l.map (Value.int .i64) ++ (madeCells #[Value.int .i64 0] l.length).toList.drop (0 + (l.map (Value.int .i64)).length)) = l.map (Value.int .i64) := by
      rw [List.drop_eq_nil_of_le (by simp [size_madeCells])]; simp
    rw [hfull] at hr
    refine ⟨_, by simpa using hr, below_setRow hb (Nat.le_refl _) _, ?_⟩
    exact setRow_heap _ _ _ _ _ _ hg

set_option maxRecDepth 10000 in
theorem clone_any (v : Value) (l : List Int) (w : World) (hs : Sl .i64 w v l) (hl : l.length ≤ 1048576) :
    Calls Tryd.prog 27 #[v] w fun e w' => ∃ v', e = .returned v' ∧ New w w' v' l := by
  obtain ⟨a, cap, rfl, hc, hn, hx⟩ := hs
  have hq := eql_slice w 35 2 a l.length cap Tryd.underlying35
  cases a with
  | none =>
    have hl0 : l = [] := by
      cases l with
      | nil => rfl
      | cons x t => obtain ⟨b, off, h, _⟩ := hx (by simp); cases h
    subst hl0
    clear hx hn
    simp only [List.length_nil, Option.isNone_none] at hq
    go_enter Tryd.func27, Tryd.ntmps27
    go_wp2
    go_ret
    exact ⟨_, rfl, Below.refl _ _, ⟨none, 0, rfl, Nat.le_refl _, fun _ => rfl, fun h => absurd rfl h⟩, fun h => absurd rfl h⟩
  | some ad =>
    obtain ⟨i0, hi, hz0, hz1, hz2⟩ := info_parts info2
    obtain ⟨w1, hcp, hb, hg⟩ := copy_new w (some ad) l cap hx
    have HG : Hid (w1.heap[w.heap.size]? = some (.cells (l.map (Value.int .i64)).toArray 2 (0, 0))) := hg
    clear hx hn hg
    go_enter Tryd.func27, Tryd.ntmps27
    go_wp2_with (at_make; refine wpList_make_row _ rfl _ _ 35 rfl 2 i0 (.int .i64 0) Tryd.underlying35 hi hz0 hz1 rfl .i64 .i64 l.length rfl rfl (by rw [hz2]; omega) (by omega) ?_)
    go_ret
    have ho : Own .i64 2 w1 w.heap.size l := ⟨[], by rw [List.append_nil]; exact HG.out⟩
    exact ⟨_, rfl, hb, Sl.of_at ho.at (Nat.le_refl _), fun _ => ⟨_, _, Nat.le_refl _, rfl, Nat.le_refl _, ho⟩⟩

/-- What the kit calls 'owned' is a row of our own. -/
theorem own_of_row {k : IntKind} {e : TypeId} {w : World} {base g n cap : Nat} {l : List Int} (h : w.ownsRow base e 1 (.slice (some ⟨g, 0, none⟩) n cap) n (l.map (Value.int k))) :
    n = l.length ∧ base ≤ g ∧ l.length ≤ cap ∧ Own k e w g l := by
  have hl : l.length = n := by simpa using h.1
  rcases h.2 with ⟨h1, _⟩ | ⟨g', cap', cur, hv, hb, hg, hn, _, hc, ht⟩
  · cases h1
  · simp only [Value.slice.injEq, Option.some.injEq, Addr.mk.injEq] at hv
    obtain ⟨⟨rfl, _⟩, _, rfl⟩ := hv
    refine ⟨hl.symm, hb, by omega, ⟨cur.toList.drop n, ?_⟩⟩
    rw [hg]
    congr 2
    rw [Nat.mul_one] at ht
    rw [← ht, List.take_append_drop]
theorem New.of_own {w w' : World} {g cap : Nat} {l : List Int} (hb : Below w.heap.size w w') (hg : w.heap.size ≤ g) (hc : l.length ≤ cap) (ho : Own .i64 2 w' g l) : New w w' (.slice (some ⟨g, 0, none⟩) l.length cap) l :=
  ⟨hb, Sl.of_at ho.at hc, fun _ => ⟨g, cap, hg, rfl, hc, ho⟩⟩

/-- The cells of a slice that is appended whole. -/
theorem Sl.cells {k : IntKind} {w : World} {a : Option Addr} {n cap : Nat} {l : List Int} (h : Sl k w (.slice a n cap) l) :
    n = l.length ∧ (a = none → n = 0 ∧ cap = 0) ∧ ∀ ad, a = some ad → ∀ j u, (l.map (Value.int k))[j]? = some u → w.cell? (ad.add j) = some u := by
  obtain ⟨a', cap', hv, hc, hn, hx⟩ := h
  simp only [Value.slice.injEq] at hv
  obtain ⟨rfl, rfl, rfl⟩ := hv
  refine ⟨rfl, fun h0 => ?_, fun ad had j u hj => ?_⟩
  · have := hn h0
    exact ⟨by omega, this⟩
  · have hj' : j < l.length := by have := (List.getElem?_eq_some_iff.1 hj).1; simpa using this
    obtain ⟨b, off, ha, hcell⟩ := hx (by intro h; simp [h] at hj')
    rw [had] at ha
    obtain rfl := Option.some.inj ha
    rw [Addr.add_lit, hcell j hj']
    simp [hj'] at hj
    rw [hj]

theorem Below.of_grown {B : Nat} {a w w' : World} {row : Option Nat} (h : Below B a w) (hg : w.grownBy w' row) (hB : B ≤ w.heap.size) (hr : ∀ k, row = some k → B ≤ k) : Below B a w' := h.grown hg hB hr

set_option maxRecDepth 10000 in
theorem join_any (va vb : Value) (la lb : List Int) (w : World) (ha : Sl .i64 w va la) (hb : Sl .i64 w vb lb) (hla : la.length ≤ 1048576) (hlb : lb.length ≤ 1048576) :
    Calls Tryd.prog 20 #[va, vb] w fun e w' => ∃ v', e = .returned v' ∧ New w w' v' (la ++ lb) := by
  obtain ⟨i0, hi, hz0, hz1, hz2⟩ := info_parts info2
  obtain ⟨a, acap, rfl, ha2, ha3, ha4⟩ := ha
  have ha : Sl .i64 w (.slice a la.length acap) la := ⟨_, _, rfl, ha2, ha3, ha4⟩
  obtain ⟨b, bcap, rfl, hb2, hb3, hb4⟩ := hb
  have hb : Sl .i64 w (.slice b lb.length bcap) lb := ⟨_, _, rfl, hb2, hb3, hb4⟩
  clear ha2 ha3 ha4 hb2 hb3 hb4
  go_enter Tryd.func20, Tryd.ntmps20
  go_wp2_with (first
    | (at_make; refine wpList_make_own _ rfl _ _ 35 rfl w.heap.size 2 i0 (.int .i64 0) 1 Tryd.underlying35 hi hz0 hz1 .i64 .i64 _ (la.length + lb.length) rfl rfl (by simp) (by rw [hz2]; omega) (by unfold maxLen; omega) (Nat.le_refl _) ?_; intro w1 hown1 hg1)
    | (at_builtin; refine wpList_append_fits_any _ rfl (.tmp 12) (.tmp 13) 35 rfl w.heap.size 2 i0 1 Tryd.underlying35 hi hz1 w.heap.size 0 (la.length + lb.length) [] rfl hown1 a la.length acap (la.map (Value.int .i64)) rfl (by simp) (Sl.cells (ha.keep ((Below.refl _ _).grown hg1 (Nat.le_refl _) (by simp)))).2.1 (Sl.cells (ha.keep ((Below.refl _ _).grown hg1 (Nat.le_refl _) (by simp)))).2.2 (ints_oneCell _ _) (by omega) ?_; intro w2 hown2 hg2; simp only [Nat.zero_add, List.nil_append] at hown2)
    | (at_builtin; refine wpList_append_fits_any _ rfl (.tmp 15) (.tmp 16) 35 rfl w.heap.size 2 i0 1 Tryd.underlying35 hi hz1 w.heap.size la.length (la.length + lb.length) (la.map (Value.int .i64)) rfl hown2 b lb.length bcap (lb.map (Value.int .i64)) rfl (by simp) (Sl.cells (hb.keep (((Below.refl _ _).grown hg1 (Nat.le_refl _) (by simp)).grown hg2 hg1.size (by simp)))).2.1 (Sl.cells (hb.keep (((Below.refl _ _).grown hg1 (Nat.le_refl _) (by simp)).grown hg2 hg1.size (by simp)))).2.2 (ints_oneCell _ _) (by omega) ?_; intro w3 hown3 hg3))
  go_ret
  rw [← List.map_append] at hown3
  obtain ⟨h1, h2, h3, h4⟩ := own_of_row hown3
  have hB := (((Below.refl w.heap.size w).grown hg1 (Nat.le_refl _) (by simp)).grown hg2 hg1.size (by simp)).grown hg3 (Nat.le_trans hg1.size hg2.size) (by simp)
  exact ⟨_, rfl, by have h := New.of_own (cap := la.length + lb.length) hB h2 h3 h4; rwa [List.length_append] at h⟩

theorem take_succ_eq {la lb : List Int} (n : Nat) (ha : n < la.length) (hb : n < lb.length) (h : la.take n = lb.take n) (e : la[n] = lb[n]) : la.take (n + 1) = lb.take (n + 1) := by
  rw [List.take_succ_eq_append_getElem ha, List.take_succ_eq_append_getElem hb, h, e]

theorem eq64_any (va vb : Value) (la lb : List Int) (w : World) (ha : Sl .i64 w va la) (hb : Sl .i64 w vb lb) (hla : la.length ≤ 4194304) (hlb : lb.length ≤ 4194304) :
    Calls Tryd.prog 23 #[va, vb] w fun e w' => e = .returned (.bool (decide (la = lb))) ∧ ∃ n, w' = w.drewN n := by
  obtain ⟨a, acap, rfl, ha2, ha3, ha4⟩ := ha
  obtain ⟨b, bcap, rfl, hb2, hb3, hb4⟩ := hb
  clear ha3 hb3
  by_cases hlen : la.length = lb.length
  · have hq : (((la.length : Nat) : Int) != ((lb.length : Nat) : Int)) = false := by simp [hlen]
    have HL : Hid (la.length = lb.length) := hlen
    clear hlen
    go_enter Tryd.func23, Tryd.ntmps23
    go_wp2
    go_loopw [13] (fun i wr => ∃ n m : Nat, n ≤ la.length ∧ i = .int .i64 n ∧ la.take n = lb.take n ∧ wr = w.drewN m) (fun i _ => la.length - (intOf i).toNat)
    case atStart => exact ⟨0, 0, by omega, rfl, rfl, rfl⟩
    case round =>
      obtain ⟨n, m, hn, rfl, ht, rfl⟩ := hrel
      have HTk : Hid (la.take n = lb.take n) := ht
      clear ht
      by_cases hlt : n < la.length
      · have hlt2 : n < lb.length := by have := HL.out; omega
        obtain ⟨b1, o1, rfl, hc1⟩ := ha4 (by intro h; simp [h] at hlt)
        obtain ⟨b2, o2, rfl, hc2⟩ := hb4 (by intro h; simp [h] at hlt2)
        have e1 := hc1 n hlt
        have e2 := hc2 n hlt2
        clear ha4 hb4 hc1 hc2
        generalize hw : w.drewN m = w1 at *
        have e1' : w1.cell? ⟨b1, o1 + n, none⟩ = some (.int .i64 la[n]) := by rw [← hw]; exact e1
        have e2' : w1.cell? ⟨b2, o2 + n, none⟩ = some (.int .i64 lb[n]) := by rw [← hw]; exact e2
        have HW : Hid (w.drewN m = w1) := hw
        clear hw e1 e2
        by_cases hne : la[n] = lb[n]
        · have hb : (la[n] != lb[n]) = false := by simp [hne]
          have HN : Hid (la[n] = lb[n]) := hne
          clear hne
          go_wp2
          go_quiet (fail)
          go_wp2
          go_roundw
          case rel => exact ⟨n + 1, m + nq, by omega, by go_num, take_succ_eq n hlt hlt2 HTk.out HN.out, by rw [← HW.out, World.drewN_drewN]⟩
          case measure => simp [intOf]; omega
        · have hb : (la[n] != lb[n]) = true := by simp [hne]
          have HN : Hid (decide (la = lb) = false) := by
            show _ = _
            rw [decide_eq_false_iff_not]; intro h; exact hne (by simp [h])
          clear hne
          go_wp2
          go_quiet (fail)
          go_wp2
          go_ret
          exact ⟨ret_bool HN.out.symm, m + nq, by rw [← HW.out, World.drewN_drewN]⟩
      · have HN : Hid (decide (la = lb) = true) := by
          show _ = _
          rw [decide_eq_true_eq]
          have := HTk.out
          rwa [List.take_of_length_le (by omega), List.take_of_length_le (by have := HL.out; omega)] at this
        go_wp2
        go_ret
        exact ⟨ret_bool HN.out.symm, m, rfl⟩
  · have hq : (((la.length : Nat) : Int) != ((lb.length : Nat) : Int)) = true := by simp; omega
    have HN : Hid (decide (la = lb) = false) := by
      show _ = _
      rw [decide_eq_false_iff_not]; intro h; exact hlen (by rw [h])
    clear hlen
    go_enter Tryd.func23, Tryd.ntmps23
    go_wp2
    go_ret
    exact ⟨ret_bool HN.out.symm, 0, rfl⟩

theorem one_new (w : World) (x : Value) (t : TypeId) : ∀ j u, [x][j]? = some u → (w.alloc (.cells #[x] t)).cell? ((⟨w.heap.size, 0, none⟩ : Addr).add j) = some u := by
  intro j u hj
  match j, hj with
  | 0, hj => simp at hj; subst hj; simp [Addr.add]
theorem one_cell1 {x : Value} (h : x.oneCell' = true) : ∀ u ∈ [x], u.oneCell' = true := by
  intro u hu; simp at hu; subst hu; exact h
theorem Sl.of_at' {k : IntKind} {w : World} {b off n cap : Nat} {l : List Int} (h : At k w b off l) (hn : n = l.length) (hc : n ≤ cap) : Sl k w (.slice (some ⟨b, off, none⟩) n cap) l := by
  subst hn; exact Sl.of_at h hc
/-- The cells of l[i:], l a row that stands whole. -/
theorem tail_cells {k : IntKind} {w : World} {b n c i : Nat} {A : List Int} (h : At k w b 0 A) (hA : n = A.length) (hlc : n ≤ c) {ao : Option Addr} (hao : ¬ c = i → ao = some ⟨b, i, none⟩) :
    ∀ ad, ao = some ad → ∀ t u, ((A.drop i).map (Value.int k))[t]? = some u → w.cell? (ad.add t) = some u := by
  refine cells_from (o := 0) hA.symm hlc (fun t ht => ?_) (by simpa using hao)
  rw [h.cell t (by omega)]
  simp [List.getD, show t < A.length by omega]

theorem At.grown {k : IntKind} {w w' : World} {b off g : Nat} {l : List Int} (h : At k w b off l) (hg : w.grownBy w' (some g)) (hne : b < g) : At k w' b off l :=
  ⟨fun i hi => hg.cell (h.cell i hi) (fun e => by have : b = g := Option.some.inj e; omega)⟩

open Plain (Srt Asc Mg Dd) in
set_option maxHeartbeats 3200000 in
set_option maxRecDepth 100000 in
theorem msort_any (n : Nat) : ∀ (v : Value) (l : List Int) (w : World), l.length = n → n ≤ 4194304 → Sl .i64 w v l →
    Calls Tryd.prog 38 #[v] w fun e w' => ∃ v' l', e = .returned v' ∧ New w w' v' l' ∧ Srt l' ∧ l'.Perm l := by
  induction n using Nat.strongRecOn with
  | _ n ih0 =>
  have ih : Hid (∀ m, m < n → ∀ (v : Value) (l : List Int) (w : World), l.length = m → m ≤ 4194304 → Sl .i64 w v l →
    Calls Tryd.prog 38 #[v] w fun e w' => ∃ v' l', e = .returned v' ∧ New w w' v' l' ∧ Srt l' ∧ l'.Perm l) := ih0
  clear ih0
  intro v l w hl hn hs
  obtain ⟨i0, hi, hz0, hz1, hz2⟩ := info_parts info2
  obtain ⟨a, cap, rfl, hcap, hnone, hx⟩ := hs
  by_cases h1 : n ≤ 1
  · obtain ⟨w1, hcp, hb, hg⟩ := copy_new w a l cap hx
    have HG : Hid (w1.heap[w.heap.size]? = some (.cells (l.map (Value.int .i64)).toArray 2 (0, 0))) := hg
    have HS : Hid (Srt l) := by
      show Srt l
      match l, hl with
      | [], _ => exact List.Pairwise.nil
      | [x], _ => exact List.pairwise_singleton _ _
      | x :: y :: t, hl => simp at hl; omega
    have hl1 : (l.length : Int) ≤ 1 := by omega
    clear hx hnone hg ih hl
    go_enter Tryd.func38, Tryd.ntmps38
    go_wp2_with (at_make; refine wpList_make_row _ rfl _ _ 35 rfl 2 i0 (.int .i64 0) Tryd.underlying35 hi hz0 hz1 rfl .i64 .i64 l.length rfl rfl (by rw [hz2]; omega) (by omega) ?_)
    go_ret
    have ho : Own .i64 2 w1 w.heap.size l := ⟨[], by rw [List.append_nil]; exact HG.out⟩
    exact ⟨_, l, rfl, New.of_own hb (Nat.le_refl _) (Nat.le_refl _) ho, HS.out, List.Perm.refl _⟩
  · obtain ⟨b, off, rfl, hcell⟩ := hx (by intro h; simp [h] at hl; omega)
    have hat : At .i64 w b off l := ⟨hcell⟩
    obtain ⟨m, hm⟩ : ∃ m, m = n / 2 := ⟨_, rfl⟩
    have hm1 : 1 ≤ m := by omega
    have hm2 : m < n := by omega
    have hm3 : 1 ≤ n - m := by omega
    have hln : (1 : Int) < (l.length : Int) := by omega
    have HM : Hid (m = n / 2) := hm
    have hdiv : ((l.length : Nat) : Int) / 2 = (m : Int) := by rw [hl, hm]; omega
    have hne : ¬ cap = m := by omega
    have hml : m ≤ l.length := by omega
    have HL : Hid (l.length = n) := hl
    have HI1 : Hid ((l.take m).length = m) := by show _ = _; rw [List.length_take]; omega
    have HI2 : Hid ((l.drop m).length = l.length - m) := by show _ = _; rw [List.length_drop]
    have hne0 : ¬ cap = 0 := by omega
    clear hx hnone hcell hm hl
    go_enter Tryd.func38, Tryd.ntmps38
    go_wp2_with fail
    refine (ih.out m hm2 _ (l.take m) w HI1.out (by omega) (Sl.of_at' (hat.take m) HI1.out.symm (by omega))).mono ?_
    rintro e w1 ⟨v1, L, rfl, N1, sL, pL⟩
    have hLl : L.length = m := by rw [pL.length_eq, HI1.out]
    obtain ⟨b1, c1, hb1, rfl, hc1, o1⟩ := N1.own (by intro h; simp [h] at hLl; omega)
    have bel1 := N1.below
    have hat1 := hat.keep bel1
    rw [hLl]
    clear N1
    go_wp2_with fail
    refine (ih.out (l.length - m) (by have := HL.out; omega) _ (l.drop m) w1 HI2.out (by have := HL.out; omega) (Sl.of_at' (hat1.drop m) HI2.out.symm (by omega))).mono ?_
    rintro e w2 ⟨v2, R, rfl, N2, sR, pR⟩
    have hRl : R.length = l.length - m := by rw [pR.length_eq, HI2.out]
    obtain ⟨b2, c2, hb2, rfl, hc2, o2⟩ := N2.own (by intro h; simp [h] at hRl; have := HL.out; omega)
    have bel2 := N2.below
    have at1 : At .i64 w2 b1 0 L := o1.at.keep bel2
    have at2 : At .i64 w2 b2 0 R := o2.at
    have hlt1 : b1 < w2.heap.size := Nat.lt_of_lt_of_le o1.lt bel2.size
    have hlt2 : b2 < w2.heap.size := o2.lt
    have belw : Below w.heap.size w w2 := bel1.trans (bel2.mono bel1.size)
    have HP : Hid ((L ++ R).Perm l) := by
      have := pL.append pR
      rwa [List.take_append_drop] at this
    have hLN : L.length + R.length = l.length := by omega
    have HLN : Hid (L.length + R.length = l.length) := hLN
    have HRl : Hid (R.length = l.length - m) := hRl
    have HLl : Hid (L.length = m) := hLl
    rw [hRl]
    clear N2 o1 o2 hat hat1 bel1 bel2 hb1 hb2 ih pL pR hLN hRl hLl
    obtain ⟨N, hN⟩ : ∃ N, N = l.length - m := ⟨_, rfl⟩
    rw [← hN]
    have HN : Hid (N = l.length - m) := hN
    have hNl : m + N = l.length := by omega
    have hmL : m ≤ L.length := by have := HLl.out; omega
    have hmL' : L.length ≤ m := by have := HLl.out; omega
    have hNR : N ≤ R.length := by have := HRl.out; omega
    have hNR' : R.length ≤ N := by have := HRl.out; omega
    clear hN
    go_wp2_with (at_make; refine wpList_make_own _ rfl _ _ 35 rfl w2.heap.size 2 i0 (.int .i64 0) 1 Tryd.underlying35 hi hz0 hz1 .i64 .i64 _ l.length rfl rfl (by simp) (by rw [hz2]; omega) (by unfold maxLen; omega) (Nat.le_refl _) ?_; intro w3 hown3 hg3)
    go_loopw [7, 8, 9] (fun out si sj wr => ∃ (i j q : Nat) (M : List Int), i ≤ m ∧ j ≤ N ∧ q = i + j ∧ si = .int .i64 i ∧ sj = .int .i64 j ∧ out = .slice (some ⟨w2.heap.size, 0, none⟩) q l.length ∧
        wr.ownsRow w2.heap.size 2 1 (.slice (some ⟨w2.heap.size, 0, none⟩) q l.length) q (M.map (Value.int .i64)) ∧ Mg L R i j M ∧ Below w2.heap.size w2 wr)
      (fun _ si sj _ => (m - (intOf si).toNat) + (N - (intOf sj).toNat))
    case atStart => exact ⟨0, 0, 0, [], Nat.zero_le _, Nat.zero_le _, rfl, rfl, rfl, rfl, hown3, Mg.start L R, (Below.refl _ _).grown hg3 (Nat.le_refl _) (fun k h => by cases h)⟩
    case round =>
      clear hown3 hg3
      obtain ⟨i, j, q, M, him, hjN, rfl, rfl, rfl, rfl, hown, hM, hnx⟩ := hrel
      by_cases hboth : i < m ∧ j < N
      · obtain ⟨hi', hj'⟩ := hboth
        have hiL : i < L.length := by omega
        have hjR : j < R.length := by omega
        have ga := (at1.keep hnx).cell i hiL
        have gb := (at2.keep hnx).cell j hjR
        rw [Nat.zero_add] at ga gb
        go_wp2
        go_quiet (fail)
        have hown' : (wr.drewN nq).ownsRow w2.heap.size 2 1 (.slice (some ⟨w2.heap.size, 0, none⟩) (i + j) l.length) (i + j) (M.map (Value.int .i64)) := hown
        have hnx' : Below w2.heap.size w2 (wr.drewN nq) := ⟨hnx.os, hnx.tape, hnx.output, hnx.size, hnx.block⟩
        have ga' : (wr.drewN nq).cell? ⟨b1, i, none⟩ = some (.int .i64 L[i]) := ga
        have gb' : (wr.drewN nq).cell? ⟨b2, j, none⟩ = some (.int .i64 R[j]) := gb
        clear hown hnx ga gb
        generalize wr.drewN nq = wq at *
        by_cases hlt : R[j] < L[i]
        · go_wp2_with (at_builtin; refine wpList_append_fits _ rfl (.tmp 53) (.tmp 58) 35 rfl w2.heap.size 2 i0 1 Tryd.underlying35 hi hz1 w2.heap.size (i + j) l.length _ rfl (hown'.alloc _) ⟨wq.heap.size, 0, none⟩ 1 1 [.int .i64 R[j]] rfl rfl (one_new wq _ 2) (one_cell1 rfl) (by omega) ?_; intro w5 hown5 hgrow5)
          go_roundw
          case rel => exact ⟨i, j + 1, i + j + 1, M ++ [R[j]], him, by omega, by omega, rfl, by go_num, rfl, by simpa using hown5, hM.right sL hiL hjR sR (Int.le_of_lt hlt), (hnx'.alloc hnx'.size _).grown hgrow5 (by simp; have := hnx'.size; omega) (fun k hk => by cases hk; exact Nat.le_refl _)⟩
          case measure => simp [intOf]; omega
        · go_wp2_with (at_builtin; refine wpList_append_fits _ rfl (.tmp 62) (.tmp 67) 35 rfl w2.heap.size 2 i0 1 Tryd.underlying35 hi hz1 w2.heap.size (i + j) l.length _ rfl (hown'.alloc _) ⟨wq.heap.size, 0, none⟩ 1 1 [.int .i64 L[i]] rfl rfl (one_new wq _ 2) (one_cell1 rfl) (by omega) ?_; intro w5 hown5 hgrow5)
          go_roundw
          case rel => exact ⟨i + 1, j, i + j + 1, M ++ [L[i]], by omega, hjN, by omega, by go_num, rfl, rfl, by simpa using hown5, hM.left sL hiL hjR sR (by omega), (hnx'.alloc hnx'.size _).grown hgrow5 (by simp; have := hnx'.size; omega) (fun k hk => by cases hk; exact Nat.le_refl _)⟩
          case measure => simp [intOf]; omega
      · have a1 : At .i64 wr b1 0 L := at1.keep hnx
        have a2 : At .i64 wr b2 0 R := at2.keep hnx
        have hstop := hM.stop sL sR (by omega)
        have HST : Hid (Srt (M ++ L.drop i ++ R.drop j) ∧ (M ++ L.drop i ++ R.drop j).Perm (L ++ R)) := hstop
        have hlm : L.length - i = m - i := by omega
        have hrn : R.length - j = N - j := by omega
        have HDL : Hid (((L.drop i).map (Value.int .i64)).length = (m - i) * 1) := by show _ = _; simp; omega
        have HDR : Hid (((R.drop j).map (Value.int .i64)).length = (N - j) * 1) := by show _ = _; simp; omega
        clear hstop hlm hrn hM
        by_cases hi2 : i < m
        all_goals
          go_wp2_with (first
            | (at_builtin; refine wpList_append_fits_any _ rfl (.tmp 71) (.tmp 74) 35 rfl w2.heap.size 2 i0 1 Tryd.underlying35 hi hz1 w2.heap.size (i + j) l.length _ rfl hown _ (m - i) _ ((L.drop i).map (Value.int .i64)) rfl HDL.out (by intro h; first | cases h | (split at h <;> cases h)) (tail_cells (n := m) (c := c1) (i := i) a1 (by omega) (by omega) (by intro h; first | rfl | simp [h])) (ints_oneCell _ _) (by omega) ?_; intro w5 hown5 hgrow5)
            | (at_builtin; refine wpList_append_fits_any _ rfl (.tmp 76) (.tmp 79) 35 rfl w2.heap.size 2 i0 1 Tryd.underlying35 hi hz1 w2.heap.size (i + j + (m - i)) l.length _ rfl hown5 _ (N - j) _ ((R.drop j).map (Value.int .i64)) rfl HDR.out (by intro h; first | cases h | (split at h <;> cases h)) (tail_cells (n := N) (c := c2) (i := j) (At.grown a2 hgrow5 (by omega)) (by omega) (by omega) (by intro h; first | rfl | simp [h])) (ints_oneCell _ _) (by omega) ?_; intro w6 hown6 hgrow6))
        all_goals
          go_ret
          have e : i + j + (m - i) + (N - j) = l.length := by omega
          have el : List.map (Value.int .i64) M ++ List.map (Value.int .i64) (L.drop i) ++ List.map (Value.int .i64) (R.drop j) = (M ++ L.drop i ++ R.drop j).map (Value.int .i64) := by simp
          rw [e, el] at hown6
          obtain ⟨q1, q2, q3, q4⟩ := own_of_row hown6
          have hB : Below w2.heap.size w2 w6 := (hnx.grown hgrow5 hnx.size (fun k hk => by cases hk; exact Nat.le_refl _)).grown hgrow6 (Nat.le_trans hnx.size hgrow5.size) (fun k hk => by cases hk; exact Nat.le_refl _)
          have hNew := New.of_own (w := w) (cap := l.length) (belw.trans (hB.mono belw.size)) (Nat.le_trans belw.size q2) q3 q4
          rw [← q1] at hNew
          refine ⟨_, ?_, M ++ L.drop i ++ R.drop j, hNew, HST.out.1, HST.out.2.trans HP.out⟩
          show Ending.returned (Value.slice _ (i + j + (m - i) + (N - j)) _) = _
          rw [e]

theorem row_cell {k : IntKind} {e : TypeId} {w : World} {base g n cap : Nat} {l : List Int} (h : w.ownsRow base e 1 (.slice (some ⟨g, 0, none⟩) n cap) n (l.map (Value.int k))) (i : Nat) (hi : i < l.length) :
    w.cell? ⟨g, i, none⟩ = some (.int k l[i]) := by
  have := (own_of_row h).2.2.2.cell i hi
  rwa [Nat.zero_add] at this

open Plain (Srt Asc Mg Dd) in
set_option maxHeartbeats 1600000 in
set_option maxRecDepth 100000 in
theorem setOf_any (v : Value) (l : List Int) (w : World) (hl : l.length ≤ 4194304) (hs : Sl .i64 w v l) :
    Calls Tryd.prog 19 #[v] w fun e w' => ∃ v' l', e = .returned v' ∧ New w w' v' l' ∧ Asc l' ∧ (∀ x, x ∈ l' ↔ x ∈ l) ∧ l'.length ≤ l.length := by
  obtain ⟨i0, hi, hz0, hz1, hz2⟩ := info_parts info2
  go_enter Tryd.func19, Tryd.ntmps19
  go_wp2_with fail
  refine (msort_any l.length v l w rfl hl hs).mono ?_
  rintro e w1 ⟨v1, S, rfl, N1, sS, pS⟩
  have HPS : Hid (S.Perm l) := pS
  have hlen : S.length ≤ l.length := by rw [pS.length_eq]; exact Nat.le_refl _
  have bel1 := N1.below
  obtain ⟨a, cap, rfl, hcap, hnone, hx⟩ := N1.sl
  clear N1 pS hs hnone
  go_wp2_with (at_make; refine wpList_make_own _ rfl _ _ 35 rfl w1.heap.size 2 i0 (.int .i64 0) 1 Tryd.underlying35 hi hz0 hz1 .i64 .i64 _ S.length rfl rfl (by simp) (by rw [hz2]; omega) (by unfold maxLen; omega) (Nat.le_refl _) ?_; intro w3 hown3 hg3)
  go_loopw [4, 14] (fun out si wr => ∃ (k q : Nat) (D : List Int), k ≤ S.length ∧ q = D.length ∧ si = .int .i64 k ∧ out = .slice (some ⟨w1.heap.size, 0, none⟩) q S.length ∧
        wr.ownsRow w1.heap.size 2 1 (.slice (some ⟨w1.heap.size, 0, none⟩) q S.length) q (D.map (Value.int .i64)) ∧ Dd S k D ∧ Below w1.heap.size w1 wr)
      (fun _ si _ => S.length - (intOf si).toNat)
  case atStart => exact ⟨0, 0, [], Nat.zero_le _, rfl, rfl, rfl, hown3, Dd.start S, (Below.refl _ _).grown hg3 (Nat.le_refl _) (fun k h => by cases h)⟩
  case round =>
    clear hown3 hg3
    obtain ⟨k, q, D, hk, hq, rfl, rfl, hown, hD, hnx⟩ := hrel
    have hDl := hD.len
    have hq1 : q ≤ D.length := by omega
    have hq2 : D.length ≤ q := by omega
    have HQ : Hid (q = D.length) := hq
    clear hq
    by_cases hlt : k < S.length
    · obtain ⟨b, off, rfl, hcell⟩ := hx (by intro h; simp [h] at hlt)
      have gc := cell_below hnx (hcell k hlt)
      clear hx hcell
      by_cases hd : D = []
      · have hq0 : ((q : Int) == 0) = true := by rw [beq_iff_eq]; have := HQ.out; simp [hd] at this; omega
        have hput := hD.put sS hlt (fun h => absurd hd h)
        go_wp2_with (at_builtin; refine wpList_append_fits _ rfl (.tmp 31) (.tmp 33) 35 rfl w1.heap.size 2 i0 1 Tryd.underlying35 hi hz1 w1.heap.size q S.length _ rfl (hown.alloc _) ⟨wr.heap.size, 0, none⟩ 1 1 [.int .i64 S[k]] rfl rfl (one_new wr _ 2) (one_cell1 rfl) (by omega) ?_; intro w5 hown5 hgrow5)
        go_roundw
        case rel => exact ⟨k + 1, q + 1, D ++ [S[k]], by omega, by simp; omega, by go_num, rfl, by simpa using hown5, hput, (hnx.alloc hnx.size _).grown hgrow5 (by simp; have := hnx.size; omega) (fun k hk => by cases hk; exact Nat.le_refl _)⟩
        case measure => simp [intOf]; omega
      · have hpos : 0 < D.length := List.length_pos_iff.2 hd
        have hq0 : ((q : Int) == 0) = false := by rw [beq_eq_false_iff_ne]; omega
        have hlast := row_cell hown (D.length - 1) (by omega)
        rw [← List.getLast_eq_getElem hd, ← HQ.out] at hlast
        have hqi : (q : Int) - 1 < q := by omega
        have hqj : 0 < q := by omega
        by_cases he : D.getLast hd = S[k]
        · have hskip := hD.skip sS hlt hd he
          have hb : (D.getLast hd != S[k]) = false := by simp [he]
          have HSK : Hid (Dd S (k + 1) D) := hskip
          generalize D.getLast hd = y at *
          clear he hskip
          go_wp2
          go_roundw
          case rel => exact ⟨k + 1, q, D, by omega, HQ.out, by go_num, rfl, hown, HSK.out, hnx⟩
          case measure => simp [intOf]; omega
        · have hput := hD.put sS hlt (fun h => he)
          have hb : (D.getLast hd != S[k]) = true := by simp [he]
          have HSK : Hid (Dd S (k + 1) (D ++ [S[k]])) := hput
          generalize D.getLast hd = y at *
          clear he hput
          go_wp2_with (at_builtin; refine wpList_append_fits _ rfl (.tmp 31) (.tmp 33) 35 rfl w1.heap.size 2 i0 1 Tryd.underlying35 hi hz1 w1.heap.size q S.length _ rfl (hown.alloc _) ⟨wr.heap.size, 0, none⟩ 1 1 [.int .i64 S[k]] rfl rfl (one_new wr _ 2) (one_cell1 rfl) (by omega) ?_; intro w5 hown5 hgrow5)
          go_roundw
          case rel => exact ⟨k + 1, q + 1, D ++ [S[k]], by omega, by simp; omega, by go_num, rfl, by simpa using hown5, HSK.out, (hnx.alloc hnx.size _).grown hgrow5 (by simp; have := hnx.size; omega) (fun k hk => by cases hk; exact Nat.le_refl _)⟩
          case measure => simp [intOf]; omega
    · go_wp2
      go_ret
      obtain ⟨q1, q2, q3, q4⟩ := own_of_row hown
      have hNew := New.of_own (w := w) (cap := S.length) (bel1.trans (hnx.mono bel1.size)) (Nat.le_trans bel1.size q2) q3 q4
      rw [← q1] at hNew
      refine ⟨_, D, rfl, hNew, hD.asc, fun x => ?_, by omega⟩
      rw [hD.mem x, List.take_of_length_le (by omega)]
      exact HPS.out.mem_iff
end Go.Proofs.Qxb6609120aDoor
