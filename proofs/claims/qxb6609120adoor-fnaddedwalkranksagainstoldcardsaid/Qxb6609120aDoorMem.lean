/-
  SLICES OF INTEGERS IN MEMORY, as the laws' own helpers read and make them; small walks: span, listMax, holdsList, zzOrdsOK.
-/
import Derived.Test.Qxb6609120aDoorRows
import Derived.WalkKit
import Derived.WalkSpells
import Derived.ProofKit
import Derived.OpenShut
import Derived.Deep.QuietTactic
import Derived.BigQuiet
import Derived.Deep.OwnRows
namespace Go.Proofs.Qxb6609120aDoor
open Go.RowKit

theorem ret_bool {a b : Bool} (h : a = b) : Ending.returned (.bool a) = .returned (.bool b) := by rw [h]
/-- The slice value v, whose elements are of the integer kind k, reads as the list l. -/
def Sl (k : IntKind) (w : World) (v : Value) (l : List Int) : Prop :=
  ∃ (a : Option Addr) (cap : Nat), v = .slice a l.length cap ∧ l.length ≤ cap ∧ (a = none → cap = 0) ∧
    (l ≠ [] → ∃ b off, a = some ⟨b, off, none⟩ ∧ ∀ i (h : i < l.length), w.cell? ⟨b, off + i, none⟩ = some (.int k l[i]))

/-- The same, not empty, laid open. -/
structure At (k : IntKind) (w : World) (b off : Nat) (l : List Int) : Prop where
  cell : ∀ i (h : i < l.length), w.cell? ⟨b, off + i, none⟩ = some (.int k l[i])

theorem At.lt {k : IntKind} {w : World} {b off : Nat} {l : List Int} (h : At k w b off l) (hl : l ≠ []) : b < w.heap.size := by
  have : 0 < l.length := List.length_pos_iff.2 hl
  exact World.block_lt_of_cell? w ⟨b, off + 0, none⟩ (h.cell 0 this)

theorem cell_below {w w' : World} (h : Below w.heap.size w w') {a : Addr} {v : Value} (hc : w.cell? a = some v) : w'.cell? a = some v := by
  rw [h.cell (World.block_lt_of_cell? w a hc)]; exact hc

theorem At.keep {k : IntKind} {w w' : World} {b off : Nat} {l : List Int} (h : At k w b off l) (hb : Below w.heap.size w w') : At k w' b off l :=
  ⟨fun i hi => cell_below hb (h.cell i hi)⟩

theorem At.drop {k : IntKind} {w : World} {b off : Nat} {l : List Int} (h : At k w b off l) (m : Nat) : At k w b (off + m) (l.drop m) :=
  ⟨fun i hi => by
    have hi' : m + i < l.length := by simpa [Nat.add_comm, Nat.lt_sub_iff_add_lt] using hi
    have := h.cell (m + i) hi'
    rw [Nat.add_assoc, this]; simp⟩
theorem At.take {k : IntKind} {w : World} {b off : Nat} {l : List Int} (h : At k w b off l) (m : Nat) : At k w b off (l.take m) :=
  ⟨fun i hi => by
    have hi' : i < l.length := by have := hi; simp at this; omega
    rw [h.cell i hi']; simp⟩

theorem Sl.keep {k : IntKind} {w w' : World} {v : Value} {l : List Int} (h : Sl k w v l) (hb : Below w.heap.size w w') : Sl k w' v l := by
  obtain ⟨a, cap, hv, hc, hn, hx⟩ := h
  refine ⟨a, cap, hv, hc, hn, fun hl => ?_⟩
  obtain ⟨b, off, ha, hcell⟩ := hx hl
  exact ⟨b, off, ha, fun i hi => cell_below hb (hcell i hi)⟩

theorem Sl.of_at {k : IntKind} {w : World} {b off cap : Nat} {l : List Int} (h : At k w b off l) (hc : l.length ≤ cap) : Sl k w (.slice (some ⟨b, off, none⟩) l.length cap) l :=
  ⟨_, cap, rfl, hc, by simp, fun _ => ⟨b, off, rfl, h.cell⟩⟩

theorem span_any (h : Nat) (hh : h ≤ 4) (w : World) : Calls Tryd.prog 50 #[.int .i64 (h : Int)] w fun e w' => e = .returned (.int .i64 ((4096 * 64 ^ h : Nat) : Int)) ∧ w' = w := by
  have h5 : h = 0 ∨ h = 1 ∨ h = 2 ∨ h = 3 ∨ h = 4 := by omega
  rcases h5 with rfl | rfl | rfl | rfl | rfl
  all_goals
    go_enter Tryd.func50, Tryd.ntmps50
    go_wp2
    go_ret
    exact ⟨rfl, rfl⟩

def lmax (h : Nat) : Nat := if h = 0 then 128 else 1024
theorem listMax_any (h : Nat) (w : World) : Calls Tryd.prog 71 #[.int .i64 (h : Int)] w fun e w' => e = .returned (.int .i64 ((lmax h : Nat) : Int)) ∧ w' = w := by
  by_cases h0 : h = 0
  · subst h0
    go_enter Tryd.func71, Tryd.ntmps71
    go_wp2
    go_ret
    exact ⟨rfl, rfl⟩
  · have hb : ((h : Int) == 0) = false := by rw [beq_eq_false_iff_ne]; omega
    unfold lmax
    rw [if_neg h0]
    go_enter Tryd.func71, Tryd.ntmps71
    go_wp2
    go_ret
    exact ⟨rfl, rfl⟩

/-- Each number is an ordinal: from 0 to 2^32 - 1. -/
def okB (zs : List Int) : Bool := zs.all fun x => decide (0 ≤ x) && decide (x < 4294967296)
theorem okB_take_succ (zs : List Int) (n : Nat) (h : n < zs.length) : okB (zs.take (n + 1)) = (okB (zs.take n) && (decide (0 ≤ zs[n]) && decide (zs[n] < 4294967296))) := by
  unfold okB
  rw [List.take_succ_eq_append_getElem h, List.all_append]
  simp
theorem okB_false_of_take (zs : List Int) (n : Nat) (h : okB (zs.take n) = false) : okB zs = false := by
  unfold okB at *
  rw [← List.take_append_drop n zs, List.all_append, h]; rfl

theorem ordsOK_any (v : Value) (zs : List Int) (w : World) (hs : Sl .i64 w v zs) (hl : zs.length ≤ 1048576) :
    Calls Tryd.prog 16 #[v] w fun e w' => e = .returned (.bool (okB zs)) ∧ w' = w := by
  obtain ⟨a, cap, rfl, hc, hn, hx⟩ := hs
  go_enter Tryd.func16, Tryd.ntmps16
  go_wp2
  go_loop [7] (fun i => ∃ n : Nat, n ≤ zs.length ∧ i = .int .i64 n ∧ okB (zs.take n) = true) (fun i => zs.length - (intOf i).toNat)
  case atStart => exact ⟨0, by omega, rfl, rfl⟩
  case round =>
    obtain ⟨n, hnl, rfl, hok⟩ := hrel
    by_cases hlt : n < zs.length
    · obtain ⟨b, off, rfl, hcell⟩ := hx (by intro h; simp [h] at hlt)
      have hcl := hcell n hlt
      have hsn := okB_take_succ zs n hlt
      rw [hok, Bool.true_and] at hsn
      clear hx hn
      have HS : Hid (okB (zs.take (n + 1)) = (decide (0 ≤ zs[n]) && decide (zs[n] < 4294967296))) := hsn
      clear hsn hok
      by_cases h1 : zs[n] < 0
      · have hf : Hid (okB zs = false) := okB_false_of_take zs (n + 1) (by rw [HS.out]; simp; omega)
        go_wp2
        go_ret
        exact ⟨ret_bool hf.out.symm, rfl⟩
      · by_cases h2 : 4294967296 ≤ zs[n]
        · have hf : Hid (okB zs = false) := okB_false_of_take zs (n + 1) (by rw [HS.out]; simp; omega)
          go_wp2
          go_ret
          exact ⟨ret_bool hf.out.symm, rfl⟩
        · go_wp2
          go_round
          case rel => exact ⟨n + 1, by omega, by go_num, by rw [HS.out]; simp; omega⟩
          case measure => simp [intOf]; omega
    · rw [List.take_of_length_le (by omega)] at hok
      have hf : Hid (okB zs = true) := hok
      clear hok
      go_wp2
      go_ret
      exact ⟨ret_bool hf.out.symm, rfl⟩
end Go.Proofs.Qxb6609120aDoor
