/-
  THE WALKS OF THE SHARED FUNCTIONS: Grant.Field, Grant.TermField (fmt's text told), decimal, isNumber.
-/
import Derived.Test.Qxb6614965aFmtRows
import Derived.Test.Qxb6614965aFmtPlain
import Derived.Stop.CallBack
import Derived.Stop.IfaceNil
import Derived.Stop.Texts
import Derived.Stop.JoinedTold
import Derived.Stop.FmtTextKit
import Derived.Stop.FmtTextWidths
import Derived.WalkKit
import Derived.WalkSpells
import Derived.ProofKit
import Derived.OpenShut
import Derived.Laws.BytesArg
import Derived.Laws.IdiomStrings
namespace Go.Proofs.Qxb6614965aFmt
open Go.RowKit Go.Extern.Stop Go.Stop Go.Extern Go.Kit

/-! ### What the model's fmt.Sprintf asks and answers, at this dump -/
theorem call14 (args : Array Value) (w : World) : (callFunc 14 args).run Tryf.prog w = ((FmtStop.sprintf #[9, 103] #[9] args).run Tryf.prog w).andThen fun v w' => .ok (.value v) w' :=
  run_callFunc_extern Tryf.func14 (by kernel_rfl) (by kernel_rfl) (by kernel_rfl) (by kernel_rfl) args w
theorem guard0 (name : String) (w : World) : (FmtStop.guard name).run Tryf.prog w = .ok () w := by kernel_rfl
theorem fmt1r (w : World) : (FmtDoors.printed ⟨#[118, 97, 108, 117, 97, 116, 105, 111, 110, 46, 116, 101, 114, 109, 115, 91, 37, 100, 93]⟩ 1).run Tryf.prog w = .ok [(0, 100, false)] w := by kernel_rfl
theorem fmt1 : FmtStop.printed? ⟨#[118, 97, 108, 117, 97, 116, 105, 111, 110, 46, 116, 101, 114, 109, 115, 91, 37, 100, 93]⟩ 1 = some [(0, 100, false)] := by kernel_rfl
def shape3 : List UInt8 := [5, 3, 0, 0, 0, 0, 0, 0, 0, 105, 110, 116]
theorem op3_100 (name : String) (x : Int) (w : World) : (FmtStop.operand name false 100 false (.iface 3 (.int .i64 x))).run Tryf.prog w = .ok (shape3, Go.Extern.Stop.digits 8 (x % 2 ^ 64).toNat) w := by kernel_rfl
attribute [local go_sem] call14 guard0 fmt1 fmt1r op3_100

/-- What fmt is asked. -/
def reading (k : Int) : List (List UInt8) :=
  [[118, 97, 108, 117, 97, 116, 105, 111, 110, 46, 116, 101, 114, 109, 115, 91, 37, 100, 93], shape3, digits 8 (k % 18446744073709551616).toNat]
theorem t_parse : (FmtText.parse [118, 97, 108, 117, 97, 116, 105, 111, 110, 46, 116, 101, 114, 109, 115, 91, 37, 100, 93]).map FmtText.glue = some [.lit [118, 97, 108, 117, 97, 116, 105, 111, 110, 46, 116, 101, 114, 109, 115, 91], .verb {} 100, .lit [93]] := by rfl
theorem t_text (k : Int) (hw : (Lit.int .i64 k).wf = true) : FmtText.text "fmt.Sprintf" (reading k) = some (Plain.path k) := by
  have hi := FmtText.operand_int_at (sh := shape3) (k := .i64) rfl rfl k hw
  rw [reading, FmtText.text_sprintf_glued t_parse (FmtText.operands_cons hi FmtText.operands_nil)]
  simp [FmtText.render, FmtText.printArg_d _ _ hw, Plain.path, Plain.head]

theorem told_path (F : Interp) (k : Int) (hw : (Lit.int .i64 k).wf = true) : FmtStop.textOf (F.told "fmt.Sprintf" (reading k) 0) = ⟨(Plain.path k).toArray⟩ := by
  have hl := FmtText.itoa_length_le hw
  have h := told_string F (t_text k hw) (by rw [Plain.path_len]; omega)
  have h2 := textOf_list F.told "fmt.Sprintf" (reading k)
  rw [h] at h2
  generalize FmtStop.textOf (F.told "fmt.Sprintf" (reading k) 0) = s at h2
  cases s
  rw [← h2]

/-- The string that a path has in the grant whose field is f. -/
def inGrant (f s : ByteArray) : ByteArray := ⟨(Plain.pre f.data.toList ++ s.data.toList).toArray⟩

theorem byteArray_ext {a b : ByteArray} (h : a.data.toList = b.data.toList) : a = b := by
  cases a; cases b; simp at h; rw [h]
theorem inGrant_top (f s : ByteArray) (h : f.toList.isEmpty = true) : inGrant f s = s := by
  rw [List.isEmpty_iff, ByteArray.toList_eq] at h
  apply byteArray_ext
  simp [inGrant, Plain.pre, h]
theorem inGrant_sub (f s : ByteArray) (h : f.toList.isEmpty = false) : inGrant f s = f ++ ⟨#[46]⟩ ++ s := by
  rw [List.isEmpty_eq_false_iff, ByteArray.toList_eq] at h
  apply byteArray_ext
  simp only [inGrant, Plain.pre, if_neg h]
  simp [ByteArray.data_append]

theorem field_any (g : Nat) (f s : ByteArray) (w : World) (hc : w.cell? ⟨g, 11, none⟩ = some (.string f)) (hf : f.size ≤ 1048576) (hs : s.size ≤ 1048576) :
    Calls Tryf.prog 13 #[.pointer (some ⟨g, 0, none⟩), .string s] w fun e w' => e = .returned (.string (inGrant f s)) ∧ w' = w := by
  go_enter Tryf.func13, Tryf.ntmps13
  go_wp2
  · rw [inGrant_top f s ‹_›]
    go_ret
    exact ⟨rfl, rfl⟩
  · rw [inGrant_sub f s ‹_›]
    go_ret
    exact ⟨rfl, rfl⟩

/-- The path as a string. -/
def pathS (k : Int) : ByteArray := ⟨(Plain.path k).toArray⟩
theorem pathS_size (k : Int) (hw : (Lit.int .i64 k).wf = true) : (pathS k).size ≤ 38 := by
  have hl := FmtText.itoa_length_le hw
  have : (pathS k).size = (Plain.path k).length := by simp [pathS, ByteArray.size]
  rw [this, Plain.path_len]; omega

set_option maxRecDepth 100000 in
theorem term_any (F : Interp) (g : Nat) (f : ByteArray) (k : Int) (w : World) (hF : F.told.answers w.tape) (hg : g < w.heap.size) (hc : w.cell? ⟨g, 11, none⟩ = some (.string f)) (hf : f.size ≤ 1048576) (hw : (Lit.int .i64 k).wf = true) :
    Calls Tryf.prog 6 #[.pointer (some ⟨g, 0, none⟩), .int .i64 k] w fun e w' => e = .returned (.string (inGrant f (pathS k))) ∧ Below w.heap.size w w' := by
  have hF' := answers_open hF
  have ht : Hid (FmtStop.textOf (F.told "fmt.Sprintf" (reading k) 0) = pathS k) := told_path F k hw
  have hp : Hid ((pathS k).size ≤ 38) := pathS_size k hw
  clear hw hF
  go_enter Tryf.func6, Tryf.ntmps6
  go_wp2_with fail
  have hq := ht.out
  unfold reading at hq
  rw [hq]
  clear hq ht
  refine (field_any g f (pathS k) _ ?_ hf ?_).mono ?_
  · show (w.alloc _).cell? _ = _
    rw [World.cell?_alloc_lt _ _ _ hg]; exact hc
  · have := hp.out; omega
  · rintro e w' ⟨rfl, rfl⟩
    go_wp2
    go_ret
    exact ⟨rfl, ((Below.refl _ _).alloc (Nat.le_refl _) _).drew⟩

/-! ### decimal -/
/-- The array of 24 bytes. -/
structure Buf (B : Nat) (w : World) : Prop where
  cell : ∀ j, j < 24 → ∃ c : UInt8, w.cell? ⟨B, j, none⟩ = some (.int .u8 (c.toNat : Int))
  warm : ∀ j, j < 24 → w.frozen? ⟨B, j, none⟩ = false

theorem Buf.start (w : World) : Buf w.heap.size (w.alloc (.cells (Array.replicate 24 (.int .u8 0)) 52)) where
  cell := fun j h => ⟨0, by simp [h]⟩
  warm := fun j h => by simp

theorem Buf.put {B : Nat} {w : World} (h : Buf B w) (i : Nat) (hi : i < 24) (n : Int) (h0 : 0 ≤ n) (h1 : n < 256) : Buf B (w.setCell ⟨B, i, none⟩ (.int .u8 n)) where
  cell := fun j hj => by
    by_cases e : j = i
    · subst e
      obtain ⟨c, hc⟩ := h.cell j hj
      refine ⟨UInt8.ofNat n.toNat, ?_⟩
      rw [World.cell?_setCell_same _ _ _ hc]
      congr 2
      simp; omega
    · rw [World.cell?_setCell_other _ _ _ _ (by simp <;> omega)]
      exact h.cell j hj
  warm := fun j hj => by simpa using h.warm j hj

theorem Buf.list {B : Nat} {w : World} (h : Buf B w) (off : Nat) : ∀ n, off + n ≤ 24 → ∃ l : List UInt8, l.length = n ∧ ∀ j (hj : j < l.length), w.cell? ⟨B, off + j, none⟩ = some (.int .u8 (l[j].toNat : Int))
  | 0, _ => ⟨[], rfl, fun j hj => by simp at hj⟩
  | n + 1, hn => by
    obtain ⟨l, hl, hc⟩ := Buf.list h off n (by omega)
    obtain ⟨c, hcc⟩ := h.cell (off + n) (by omega)
    refine ⟨l ++ [c], by simp [hl], fun j hj => ?_⟩
    simp at hj
    by_cases e : j < l.length
    · rw [List.getElem_append_left e]; exact hc j e
    · have : j = n := by omega
      subst this
      rw [List.getElem_append_right (by omega)]
      simp [hcc]

theorem Buf.text {B : Nat} {w : World} (h : Buf B w) (off n cap : Nat) (hn : off + n ≤ 24) : ∃ s : ByteArray, s.size = n ∧ (convert 41 9 (.slice (some ⟨B, off, none⟩) n cap)).run Tryf.prog w = .ok (.string s) w := by
  obtain ⟨l, hl, hc⟩ := h.list off n hn
  refine ⟨⟨l.toArray⟩, by simp [ByteArray.size, hl], ?_⟩
  have := run_convert_bytes_back (P := Tryf.prog) w 41 9 5 ⟨B, off, none⟩ cap l Tryf.underlying41 Tryf.underlying5 Tryf.underlying9 (fun j hj => by
    have hplain : (⟨B, off, none⟩ : Addr).add j = ⟨B, off + j, none⟩ := by unfold Addr.add; split <;> simp_all
    rw [hplain]; exact hc j hj)
  rw [hl] at this
  exact this

theorem wrap_neg (x : Int) (h0 : x < 0) (hx : (Lit.int .i64 x).wf = true) : IntKind.u64.wrap (-IntKind.u64.wrap x) = (x.natAbs : Int) := by
  have := bounds_i64 hx
  rw [IntKind.wrap_u64, IntKind.wrap_u64]; omega

set_option maxRecDepth 10000 in
theorem decimal_any (x : Int) (hx : (Lit.int .i64 x).wf = true) (w : World) :
    Calls Tryf.prog 8 #[.int .i64 x] w fun e w' => ∃ s : ByteArray, e = .returned (.string s) ∧ s.size = (Lib.itoa x).length ∧ Below w.heap.size w w' := by
  have hb := bounds_i64 hx
  have hxb : x.natAbs < 18446744073709551616 := by omega
  have hD : Lib.nDigits x.natAbs ≤ 20 := Lib.nDigits_le20 _ hxb
  by_cases h0 : x < 0
  · have hl : Hid ((Lib.itoa x).length = Lib.nDigits x.natAbs + 1) := by
      have := Plain.itoa_len_neg x.natAbs (by omega)
      rwa [show -(x.natAbs : Int) = x by omega] at this
    go_enter Tryf.func8, Tryf.ntmps8
    go_wp2
    rw [wrap_neg x h0 hx]
    clear hx hb
    go_loopw [4, 5] (fun i u wr => ∃ t v : Nat, i = .int .i64 t ∧ u = .int .u64 v ∧ v < 18446744073709551616 ∧ t + Lib.nDigits x.natAbs = 24 + Lib.nDigits v ∧ t ≤ 24 ∧ Buf w.heap.size wr ∧ Below w.heap.size w wr) (fun _ u _ => (intOf u).toNat)
    case atStart => exact ⟨24, x.natAbs, rfl, rfl, hxb, by omega, by omega, Buf.start w, (Below.refl _ _).alloc (Nat.le_refl _) _⟩
    case round =>
      obtain ⟨t, v, rfl, rfl, hv, ht, ht2, hB, hbel⟩ := hrel
      have hnp := Lib.nDigits_pos v
      obtain ⟨t, rfl⟩ : ∃ t', t = t' + 1 := ⟨t - 1, by omega⟩
      obtain ⟨c, hcell⟩ := hB.cell t (by omega)
      have hwarm := hB.warm t (by omega)
      by_cases h10 : v < 10
      · have hn := Lib.nDigits_small h10
        have HT : Hid (t + Lib.nDigits x.natAbs = 24) := by show _ = _; omega
        clear hn ht
        obtain ⟨t, rfl⟩ : ∃ t', t = t' + 1 := ⟨t - 1, by have := HT.out; omega⟩
        obtain ⟨c2, hcell2⟩ := hB.cell t (by omega)
        have hwarm2 := hB.warm t (by omega)
        have ht3 : (t : Int) ≤ 24 := by omega
        have hB2 := (hB.put (t + 1) (by omega) (48 + v % 10) (by omega) (by omega)).put t (by omega) 45 (by omega) (by omega)
        obtain ⟨s, hs, hconv⟩ := hB2.text t (24 - t) (24 - t) (by omega)
        have HS : Hid (s.size = 24 - t) := hs
        clear hs hB2
        go_wp2
        go_ret
        exact ⟨s, rfl, by rw [HS.out, hl.out]; have := HT.out; omega, (hbel.setCell (Nat.le_refl _) _).setCell (Nat.le_refl _) _⟩
      · have hn := Lib.nDigits_big h10
        have HT : Hid (t + Lib.nDigits x.natAbs = 24 + Lib.nDigits (v / 10)) := by show _ = _; omega
        clear hn ht
        go_wp2
        go_roundw
        case rel => exact ⟨t, v / 10, by go_num, by go_num, by omega, HT.out, by omega, hB.put t (by omega) (48 + v % 10) (by omega) (by omega), hbel.setCell (Nat.le_refl _) _⟩
        case measure => simp [intOf]; omega
  · have hl : Hid ((Lib.itoa x).length = Lib.nDigits x.natAbs) := by
      have := Plain.itoa_len_pos x.natAbs
      rwa [show (x.natAbs : Int) = x by omega] at this
    go_enter Tryf.func8, Tryf.ntmps8
    go_wp2
    clear hx hb
    go_loopw [4, 5] (fun i u wr => ∃ t v : Nat, i = .int .i64 t ∧ u = .int .u64 v ∧ v < 18446744073709551616 ∧ t + Lib.nDigits x.natAbs = 24 + Lib.nDigits v ∧ t ≤ 24 ∧ Buf w.heap.size wr ∧ Below w.heap.size w wr) (fun _ u _ => (intOf u).toNat)
    case atStart => exact ⟨24, x.natAbs, rfl, by congr 1; omega, hxb, by omega, by omega, Buf.start w, (Below.refl _ _).alloc (Nat.le_refl _) _⟩
    case round =>
      obtain ⟨t, v, rfl, rfl, hv, ht, ht2, hB, hbel⟩ := hrel
      have hnp := Lib.nDigits_pos v
      obtain ⟨t, rfl⟩ : ∃ t', t = t' + 1 := ⟨t - 1, by omega⟩
      obtain ⟨c, hcell⟩ := hB.cell t (by omega)
      have hwarm := hB.warm t (by omega)
      by_cases h10 : v < 10
      · have hn := Lib.nDigits_small h10
        have HT : Hid (t + Lib.nDigits x.natAbs = 24) := by show _ = _; omega
        clear hn ht
        have ht3 : (t : Int) ≤ 24 := by omega
        have hB2 := hB.put t (by omega) (48 + v % 10) (by omega) (by omega)
        obtain ⟨s, hs, hconv⟩ := hB2.text t (24 - t) (24 - t) (by omega)
        have HS : Hid (s.size = 24 - t) := hs
        clear hs hB2
        go_wp2
        go_ret
        exact ⟨s, rfl, by rw [HS.out, hl.out]; have := HT.out; omega, hbel.setCell (Nat.le_refl _) _⟩
      · have hn := Lib.nDigits_big h10
        have HT : Hid (t + Lib.nDigits x.natAbs = 24 + Lib.nDigits (v / 10)) := by show _ = _; omega
        clear hn ht
        go_wp2
        go_roundw
        case rel => exact ⟨t, v / 10, by go_num, by go_num, by omega, HT.out, by omega, hB.put t (by omega) (48 + v % 10) (by omega) (by omega), hbel.setCell (Nat.le_refl _) _⟩
        case measure => simp [intOf]; omega
end Go.Proofs.Qxb6614965aFmt
