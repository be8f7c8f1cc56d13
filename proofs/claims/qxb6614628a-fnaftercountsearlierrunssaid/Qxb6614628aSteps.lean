/-
  THE WALKS: tableState.after, ZZafter, ZZnewRun, ZZnewTableState.
-/
import Derived.Test.Qxb6614628aRows
import Derived.WalkKit
import Derived.ProofKit
import Derived.LaidEql
import Derived.Deep.QuietTactic
import Derived.BigQuiet
import Derived.RowKit3
import Derived.Deep.OwnRows
namespace Go.Proofs.Qxb6614628a
open Go.RowKit

theorem run_equalIn_ptr_same {P : Program} (w : World) (d : Nat) {t te : TypeId} {j : TypeInfo} (a : Addr) (hp : P.underlying t = some (.pointer te)) (hte : P.info? te = some j) :
    (Op.equalIn (d + 1) t (.pointer (some a)) (.pointer (some a))).run P w = .ok true w := by
  simp [Op.equalIn, run_underlying hp, sizeOf, typeInfo, hte, run_sameAddr_same]
theorem run_equalIn_ptr_other {P : Program} (w : World) (d : Nat) {t te : TypeId} {j : TypeInfo} {a b : Addr} {ca cb : Array Value} {ta tb : TypeId} (hp : P.underlying t = some (.pointer te)) (hte : P.info? te = some j) (hsz : j.size ≠ 0)
    (hne : a ≠ b) (ha : w.heap[a.block]? = some (.cells ca ta (0, 0))) (hb : w.heap[b.block]? = some (.cells cb tb (0, 0))) :
    (Op.equalIn (d + 1) t (.pointer (some a)) (.pointer (some b))).run P w = .ok false w := by
  simp [Op.equalIn, run_underlying hp, sizeOf, typeInfo, hte, hsz, run_sameAddr_other w hne ha hb]
theorem run_eql_ptr_same {P : Program} (w : World) {t te : TypeId} {j : TypeInfo} (a : Addr) (hp : P.underlying t = some (.pointer te)) (hte : P.info? te = some j) :
    (binOp .eql t (.pointer (some a)) (.pointer (some a))).run P w = .ok (.bool true) w := by
  simp only [binOp]
  simp [Op.equal, Op.maxDepth, run_equalIn_ptr_same w 9999 a hp hte]
theorem run_eql_ptr_other {P : Program} (w : World) {t te : TypeId} {j : TypeInfo} {a b : Addr} {ca cb : Array Value} {ta tb : TypeId} (hp : P.underlying t = some (.pointer te)) (hte : P.info? te = some j) (hsz : j.size ≠ 0)
    (hne : a ≠ b) (ha : w.heap[a.block]? = some (.cells ca ta (0, 0))) (hb : w.heap[b.block]? = some (.cells cb tb (0, 0))) :
    (binOp .eql t (.pointer (some a)) (.pointer (some b))).run P w = .ok (.bool false) w := by
  simp only [binOp]
  simp [Op.equal, Op.maxDepth, run_equalIn_ptr_other w 9999 hp hte hsz hne ha hb]

theorem Try.info36 : (Try.prog.info? 36).map (fun i => i.size != 0) = some true := by kernel_rfl
theorem info36 : ∃ j, Try.prog.info? 36 = some j ∧ j.size ≠ 0 := by
  have h := Try.info36
  match hj : Try.prog.info? 36 with
  | none => rw [hj] at h; cases h
  | some j => rw [hj] at h; exact ⟨j, rfl, by simpa using h⟩

/-- The open runs lie in memory: the slice's cells in block B, the j-th run a block of its own, B + 1 + j; the table in block T. -/
structure Lay (B n T : Nat) (w : World) : Prop where
  tab : w.cell? ⟨T, 15, none⟩ = some (.slice (some ⟨B, 0, none⟩) n n)
  row : ∀ j, j < n → w.cell? ⟨B, j, none⟩ = some (.pointer (some ⟨B + 1 + j, 0, none⟩))
  run : ∀ j, j < n → ∃ c, w.heap[B + 1 + j]? = some (.cells c 36 (0, 0))

theorem Lay.eql {B n T : Nat} {w : World} (L : Lay B n T w) (i k : Nat) (hi : i < n) (hk : k < n) :
    (binOp .eql 23 (.pointer (some ⟨B + 1 + k, 0, none⟩)) (.pointer (some ⟨B + 1 + i, 0, none⟩))).run Try.prog w = .ok (.bool (decide (k = i))) w := by
  obtain ⟨j, hj, hz⟩ := info36
  by_cases h : k = i
  · subst h; simp [run_eql_ptr_same w _ Try.underlying23 hj]
  · obtain ⟨c1, h1⟩ := L.run k hk
    obtain ⟨c2, h2⟩ := L.run i hi
    rw [run_eql_ptr_other w Try.underlying23 hj hz (by simp) h1 h2]
    simp [h]

theorem after_any (B n T i j : Nat) (w : World) (L : Lay B n T w) (hn : n ≤ 256) (hi : i < n) (hj : j < n) :
    Calls Try.prog 10 #[.pointer (some ⟨T, 0, none⟩), .pointer (some ⟨B + 1 + i, 0, none⟩), .pointer (some ⟨B + 1 + j, 0, none⟩)] w fun e w' => e = .returned (.bool (decide (j < i))) ∧ w' = w := by
  have htab := L.tab
  go_enter Try.func10, Try.ntmps10
  go_wp2
  go_loop [14] (fun t => ∃ k : Nat, k ≤ n ∧ k ≤ i ∧ k ≤ j ∧ t = .int .i64 k) (fun t => n - (intOf t).toNat)
  case atStart => exact ⟨0, by omega, by omega, by omega, rfl⟩
  case round =>
    obtain ⟨k, hk, hki, hkj, rfl⟩ := hrel
    have hlt : k < n := by omega
    have hcell := L.row k hlt
    have e1 := L.eql i k hi hlt
    have e2 := L.eql j k hj hlt
    clear htab
    by_cases hi0 : k = i
    · subst hi0
      rw [decide_eq_true rfl] at e1
      clear e2
      go_wp2
      go_ret
      exact ⟨by simp; omega, rfl⟩
    · have d1 : decide (k = i) = false := by simpa using hi0
      rw [d1] at e1
      by_cases hj0 : k = j
      · subst hj0
        rw [decide_eq_true rfl] at e2
        go_wp2
        go_ret
        exact ⟨by simp; omega, rfl⟩
      · have d2 : decide (k = j) = false := by simpa using hj0
        rw [d2] at e2
        go_wp2
        go_round
        case rel => exact ⟨k + 1, by omega, by omega, by omega, by go_num⟩
        case measure => simp [intOf]; omega

theorem zzafter_any (B n T i j : Nat) (w : World) (L : Lay B n T w) (hn : n ≤ 256) (hi : i < n) (hj : j < n) :
    Calls Try.prog 7 #[.pointer (some ⟨T, 0, none⟩), .pointer (some ⟨B + 1 + i, 0, none⟩), .pointer (some ⟨B + 1 + j, 0, none⟩)] w fun e w' => e = .returned (.bool (decide (j < i))) ∧ w' = w := by
  go_enter Try.func7, Try.ntmps7
  go_wp2_with (go_at_call 10; refine (after_any B n T i j _ L hn hi hj).mono ?_; rintro e w' ⟨rfl, rfl⟩)
  go_ret
  exact ⟨rfl, rfl⟩

theorem newRun_any (w : World) : Calls Try.prog 5 #[] w fun e w' => e = .returned (.pointer (some ⟨w.heap.size, 0, none⟩)) ∧ ∃ c, w' = w.alloc (.cells c 36) := by
  go_enter Try.func5, Try.ntmps5
  go_wp2
  go_ret
  exact ⟨rfl, _, rfl⟩

theorem newTab_any (B n : Nat) (w : World) : Calls Try.prog 6 #[.slice (some ⟨B, 0, none⟩) n n] w fun e w' => e = .returned (.pointer (some ⟨w.heap.size, 0, none⟩)) ∧ ∃ c, c[15]? = some (.slice (some ⟨B, 0, none⟩) n n) ∧ w' = w.alloc (.cells c 44) := by
  go_enter Try.func6, Try.ntmps6
  go_wp2
  go_ret
  exact ⟨rfl, _, rfl, rfl⟩

/-- k of the runs are made. -/
structure Made (B n k : Nat) (w : World) : Prop where
  size : w.heap.size = B + 1 + k
  row : ∀ j, j < k → w.cell? ⟨B, j, none⟩ = some (.pointer (some ⟨B + 1 + j, 0, none⟩))
  run : ∀ j, j < k → ∃ c, w.heap[B + 1 + j]? = some (.cells c 36 (0, 0))
  room : ∀ j, j < n → ∃ v, w.cell? ⟨B, j, none⟩ = some v
  warm : ∀ j, j < n → w.frozen? ⟨B, j, none⟩ = false

theorem Made.start (w : World) (n : Nat) : Made w.heap.size n 0 (w.alloc (.cells (madeCells #[.pointer none] n) 23)) where
  size := by simp
  row := fun j h => by omega
  run := fun j h => by omega
  room := fun j h => by
    have : j < (madeCells #[Value.pointer none] n).size := by rw [size_madeCells]; exact h
    exact ⟨_, by simp only [World.cell?_alloc_new]; exact Array.getElem?_eq_getElem this⟩
  warm := fun j h => by simp

theorem Made.step {B n k : Nat} {w : World} (M : Made B n k w) (hk : k < n) (c : Array Value) :
    Made B n (k + 1) ((w.setCell ⟨B, k, none⟩ (.pointer (some ⟨B + 1 + k, 0, none⟩))).alloc (.cells c 36)) where
  size := by simp [M.size]; omega
  row := fun j h => by
    rw [World.cell?_alloc_lt _ _ _ (by simp [M.size]; omega)]
    by_cases e : j = k
    · subst e
      obtain ⟨v, hv⟩ := M.room j hk
      exact World.cell?_setCell_same _ _ _ hv
    · rw [World.cell?_setCell_other _ _ _ _ (by simp <;> omega)]
      exact M.row j (by omega)
  run := fun j h => by
    by_cases e : j = k
    · subst e
      refine ⟨c, ?_⟩
      have hs : (w.setCell ⟨B, j, none⟩ (.pointer (some ⟨B + 1 + j, 0, none⟩))).heap.size = B + 1 + j := by simp [M.size]
      generalize w.setCell ⟨B, j, none⟩ (.pointer (some ⟨B + 1 + j, 0, none⟩)) = w1 at hs ⊢
      show (w1.heap.push _)[B + 1 + j]? = _
      rw [← hs, Array.getElem?_push_size]
    · obtain ⟨c', hc'⟩ := M.run j (by omega)
      refine ⟨c', ?_⟩
      rw [Below.heap_alloc _ _ _ (by simp [M.size]; omega), Below.heap_setCell _ _ _ _ (by simp; omega)]
      exact hc'
  room := fun j h => by
    obtain ⟨v, hv⟩ := M.room j h
    rw [World.cell?_alloc_lt _ _ _ (by simp [M.size]; omega)]
    by_cases e : j = k
    · subst e; exact ⟨_, World.cell?_setCell_same _ _ _ hv⟩
    · rw [World.cell?_setCell_other _ _ _ _ (by simp <;> omega)]; exact ⟨v, hv⟩
  warm := fun j h => by
    rw [World.frozen?_alloc_old _ _ _ (by simp [M.size]; omega)]
    simpa using M.warm j h

theorem Made.lay {B n : Nat} {w : World} (M : Made B n n w) (c : Array Value) (hc : c[15]? = some (.slice (some ⟨B, 0, none⟩) n n)) : Lay B n w.heap.size (w.alloc (.cells c 44)) where
  tab := by simp [hc]
  row := fun j h => by rw [World.cell?_alloc_lt _ _ _ (by simp [M.size]; omega)]; exact M.row j h
  run := fun j h => by
    obtain ⟨c', hc'⟩ := M.run j h
    exact ⟨c', by rw [Below.heap_alloc _ _ _ (by rw [M.size]; omega)]; exact hc'⟩

theorem Lay.drewN {B n T : Nat} {w : World} (L : Lay B n T w) (m : Nat) : Lay B n T (w.drewN m) := ⟨L.tab, L.row, L.run⟩
end Go.Proofs.Qxb6614628a
