/-
  rowNode.each: the closure is called with each ordinal, in order.
-/
import Derived.Test.Qxb6609120aDoorSeg
import Derived.Test.Qxb6609120aDoorEach0
namespace Go.Proofs.Qxb6609120aDoor
open Go.RowKit
open Plain (Srt Asc asc_ext)
set_option linter.unusedVariables false

/-- The table behind math/bits.TrailingZeros64. -/
def Tab (w : World) : Prop := TabAt (Tryd.lays29_ren.g 1) Lib.deBruijn64tab w

/-- What each may rely on: Inv l holds of the world when the ordinals l have been handed on. -/
structure Rel (g : FuncId) (c : Value) (ok : Nat → Prop) (w0 : World) (Inv : List Int → World → Prop) : Prop where
  enter : ∀ args w, (callFunc g args).run Tryd.prog w = .ok (.enter g args) w
  keep : ∀ l w', Inv l w' → ∀ b, ok b → b < w0.heap.size → w'.heap[b]? = w0.heap[b]?
  tab : ∀ l w', Inv l w' → Tab w'
  drew : ∀ l w' n, Inv l w' → Inv l (w'.drewN n)
  step : ∀ l x w', Inv l w' → l.length < 1099511627776 → 0 ≤ x → x < 4294967296 → Calls Tryd.prog g #[.int .i64 x, c] w' fun e w'' => e = .returned (.bool true) ∧ Inv (l ++ [x]) w''

set_option maxRecDepth 10000 in
theorem each_list (g : FuncId) (c : Value) (ok : Nat → Prop) (w0 : World) (Inv : List Int → World → Prop) (R : Rel g c ok w0 Inv) (x y : Int) (S pre : List Int) (b lb lo cap : Nat) (w : World) (hL : ListN w0 S b lb lo cap) (o1 : ok b) (o2 : ok lb) (h0 : ∀ x ∈ S, 0 ≤ x) (h32 : ∀ x ∈ S, x < 4294967296) (hpl : pre.length + S.length ≤ 1099511627776) (hI : Inv pre w) :
    Calls Tryd.prog 54 #[.pointer (some ⟨b, 0, none⟩), .int .i64 x, .int .i64 y, .func (.func g) #[] #[c]] w fun e w' => e = .returned (.bool true) ∧ Inv (pre ++ S) w' := by
  have hLw := hL.move (R.keep _ _ hI b o1 hL.cells.lt) (R.keep _ _ hI lb o2 (hL.row.lt hL.ne))
  have c0 := hLw.cells.kids
  have c1 := hLw.cells.words
  have c2 := hLw.cells.list
  have HR : Hid (Rel g c ok w0 Inv) := R
  have eg := R.enter
  have hfew := hL.few
  clear hLw R
  go_enter Tryd.func54, Tryd.ntmps54
  go_wp2_with fail
  go_loopw [85] (fun si wr => ∃ k : Nat, k ≤ S.length ∧ si = .int .i64 k ∧ Inv (pre ++ S.take k) wr) (fun si _ => S.length - (intOf si).toNat)
  case atStart => exact ⟨0, by omega, rfl, by simpa using hI⟩
  case round =>
    clear c0 c1 c2 hI
    obtain ⟨k, hk, rfl, hIk⟩ := hrel
    by_cases hlt : k < S.length
    · have gc := (hL.row.move (HR.out.keep _ _ hIk lb o2 (hL.row.lt hL.ne))).cell k hlt
      have hx0 := h0 S[k] (List.getElem_mem hlt)
      have hx1 := h32 S[k] (List.getElem_mem hlt)
      have HS : Hid (Calls Tryd.prog g #[.int .i64 S[k], c] wr fun e w'' => e = .returned (.bool true) ∧ Inv (pre ++ S.take (k + 1)) w'') := by
        have := HR.out.step _ S[k] wr hIk (by simp; omega) hx0 hx1
        rw [List.append_assoc, ← List.take_succ_eq_append_getElem hlt] at this
        exact this
      clear hIk h0 h32
      generalize S[k] = z at *
      go_wp2_with (refine HS.out.mono ?_; rintro _ w5 ⟨rfl, hI5⟩; have HI5 : Hid (Inv (pre ++ S.take (k + 1)) w5) := hI5; clear hI5 HS)
      go_roundw
      case rel => exact ⟨k + 1, by omega, by go_num, HI5.out⟩
      case measure => simp [intOf]; omega
    · have HI5 : Hid (Inv (pre ++ S.take k) wr) := hIk
      clear hIk
      go_wp2_with fail
      go_ret
      exact ⟨rfl, by have := HI5.out; rwa [List.take_of_length_le (by omega)] at this⟩

set_option maxRecDepth 10000 in
theorem each_words (g : FuncId) (c : Value) (ok : Nat → Prop) (w0 : World) (Inv : List Int → World → Prop) (R : Rel g c ok w0 Inv) (x : Int) (base : Nat) (S pre : List Int) (b wb : Nat) (W : Nat → Nat) (w : World) (hL : WordN w0 base S b wb W) (o1 : ok b) (o2 : ok wb) (hS : Ran S base (base + 4096)) (hb : base % 4096 = 0) (hbig : base + 4096 ≤ 1099511627776) (h32 : ∀ x ∈ S, x < 4294967296) (hpl : pre.length + S.length ≤ 1099511627776) (hI : Inv pre w) :
    Calls Tryd.prog 54 #[.pointer (some ⟨b, 0, none⟩), .int .i64 x, .int .i64 (base : Nat), .func (.func g) #[] #[c]] w fun e w' => e = .returned (.bool true) ∧ Inv (pre ++ S) w' := by
  have hLw := hL.move (R.keep _ _ hI b o1 hL.cells.lt) (R.keep _ _ hI wb o2 hL.words.lt_size)
  have c0 := hLw.cells.kids
  have c1 := hLw.cells.words
  have HR : Hid (Rel g c ok w0 Inv) := R
  have eg := R.enter
  clear hLw R
  go_enter Tryd.func54, Tryd.ntmps54
  go_wp2_with fail
  go_loopw [57] (fun si wr => ∃ i : Nat, i ≤ 64 ∧ si = .int .i64 i ∧ Inv (pre ++ bel S ((base + 64 * i : Nat) : Int)) wr) (fun si _ => 64 - (intOf si).toNat)
  case atStart => exact ⟨0, by omega, rfl, by rw [bel_none (fun x hx => by have := hS.lo x hx; omega)]; simpa using hI⟩
  case round =>
    clear c0 c1 hI
    obtain ⟨i, hi, rfl, hIi⟩ := hrel
    by_cases hlt : i < 64
    · have gc := (hL.words.move (HR.out.keep _ _ hIi wb o2 hL.words.lt_size)).cell i hlt
      have hvl := hL.words.lt i hlt
      have HII : Hid (Inv (pre ++ bel S ((base + 64 * i : Nat) : Int)) wr) := hIi
      have HV : Hid (∀ t0 t1, t1 ≤ 64 → t0 ≤ t1 → (∀ t, t0 ≤ t → t < t1 → (W i).testBit t = false) → bel S ((base + 64 * i + t1 : Nat) : Int) = bel S ((base + 64 * i + t0 : Nat) : Int)) := fun t0 t1 h1 h01 hno => word_skip hS hb hL.mem hlt h1 h01 hno
      have HO : Hid (∀ t, t < 64 → (W i).testBit t = true → ((base + 64 * i + t : Nat) : Int) ∈ S ∧ bel S ((base + 64 * i + (t + 1) : Nat) : Int) = bel S ((base + 64 * i + t : Nat) : Int) ++ [((base + 64 * i + t : Nat) : Int)]) := fun t ht hbit => word_one hS hb hL.mem hlt ht hbit
      clear hIi
      generalize W i = v at *
      have hii : ((i : Nat) : Int) < 64 := by omega
      go_wp2_with fail
      go_quiet (fail)
      have HI2 : Hid (Inv (pre ++ bel S ((base + 64 * i : Nat) : Int)) (wr.drewN nq)) := HR.out.drew _ _ nq HII.out
      generalize wr.drewN nq = wq at HI2 ⊢
      clear gc HII
      go_wp2_with fail
      go_loopw [13] (fun sr w2 => ∃ (r t0 : Nat), sr = .int .u64 r ∧ Left r v t0 ∧ Inv (pre ++ bel S ((base + 64 * i + t0 : Nat) : Int)) w2) (fun sr _ => (intOf sr).toNat)
      case atStart => exact ⟨v, 0, rfl, Left.start hvl, HI2.out⟩
      case round =>
        clear HI2
        obtain ⟨r, t0, rfl, hr, hI2⟩ := hrel
        by_cases h0 : r = 0
        · have hdn := (h0 ▸ hr : Left 0 v t0).done
          have HE : Hid (Inv (pre ++ bel S ((base + 64 * (i + 1) : Nat) : Int)) wr) := by
            have := HV.out t0 64 (Nat.le_refl _) hr.le (fun t h1 _ => hdn t h1)
            rw [show base + 64 * (i + 1) = base + 64 * i + 64 by omega]
            show Inv (pre ++ bel S _) wr
            rw [this]
            exact hI2
          subst h0
          clear hdn hr hI2 HV HO
          go_wp2_with fail
          go_roundw
          case rel => exact ⟨i + 1, by omega, by go_num, HE.out⟩
          case measure => simp [intOf]; omega
        · obtain ⟨hnx, q1, q2, q3, q4⟩ := hr.next h0
          have hrl := hr.lt
          obtain ⟨hin, hone⟩ := HO.out (Lib.ctz 64 r) q2 q3
          have hsk := HV.out t0 (Lib.ctz 64 r) (by omega) q1 q4
          have hx1 := h32 _ hin
          have HS : Hid (Calls Tryd.prog g #[.int .i64 ((base : Int) + (i : Int) * 64 + (Lib.ctz 64 r : Nat)), c] wr fun e w'' => e = .returned (.bool true) ∧ Inv (pre ++ bel S ((base + 64 * i + (Lib.ctz 64 r + 1) : Nat) : Int)) w'') := by
            have := HR.out.step _ ((base + 64 * i + Lib.ctz 64 r : Nat) : Int) wr hI2 (by have := bel_lt hin (m := ((base + 64 * i + t0 : Nat) : Int)) (by omega); rw [List.length_append]; omega) (by omega) hx1
            rw [List.append_assoc, ← hsk, ← hone] at this
            rw [show (base : Int) + (i : Int) * 64 + (Lib.ctz 64 r : Nat) = ((base + 64 * i + Lib.ctz 64 r : Nat) : Int) by omega]
            exact this
          have HT : Hid (Calls Tryd.prog 48 #[.int .u64 (r : Nat)] wr fun e w' => e = .returned (.int .i64 ((Lib.ctz 64 r : Nat) : Int)) ∧ w' = wr) := Any7.bits_TrailingZeros64 Tryd.lays29 r hrl wr (fun _ => HR.out.tab _ _ hI2)
          have HNX : Hid (Left (r &&& (r - 1)) v (Lib.ctz 64 r + 1)) := hnx
          have e2 : bits .and .u64 (r : Int) ((r : Int) - 1) = ((r &&& (r - 1) : Nat) : Int) := by
            rw [show (r : Int) - 1 = ((r - 1 : Nat) : Int) by omega]
            exact bits_and_u64_nat r (r - 1) hrl (by omega)
          have hrb : ((r : Int) != 0) = true := by simp; omega
          have hr1 : (1 : Int) ≤ (r : Int) := by omega
          have HLT : Hid (r &&& (r - 1) < r) := Nat.lt_of_le_of_lt Nat.and_le_right (by omega)
          clear hnx hone hsk hI2 hr hin HV HO q1 q3 q4
          generalize Lib.ctz 64 r = t at *
          generalize r &&& (r - 1) = r' at *
          go_wp2_with (first
            | (go_at_call 48; refine HT.out.mono ?_; rintro _ _ ⟨rfl, hwe⟩; have hwe := hwe.symm; subst hwe)
            | (refine HS.out.mono ?_; rintro _ w5 ⟨rfl, hI5⟩; have HI5 : Hid (Inv (pre ++ bel S ((base + 64 * i + (t + 1) : Nat) : Int)) w5) := hI5; clear hI5 HS))
          go_roundw
          case rel => exact ⟨r', t + 1, rfl, HNX.out, HI5.out⟩
          case measure => have := HLT.out; simp [intOf]; omega
    · have HE : Hid (Inv (pre ++ S) wr) := by
        have : i = 64 := by omega
        subst this
        show Inv _ _
        rwa [bel_all (fun x hx => by have := hS.hi x hx; omega)] at hIi
      clear hIi
      go_wp2_with fail
      go_ret
      exact ⟨rfl, HE.out⟩
end Go.Proofs.Qxb6609120aDoor
