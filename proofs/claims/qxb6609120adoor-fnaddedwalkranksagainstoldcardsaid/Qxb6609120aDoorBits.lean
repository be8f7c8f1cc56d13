/-
  setBits, leafWords: the bits of a leaf.
-/
import Derived.Test.Qxb6609120aDoorTree
import Derived.RegionTactic
import Derived.Laws.Bits64b
namespace Go.Proofs.Qxb6609120aDoor
open Go.RowKit
open Plain (Srt Asc)
set_option linter.unusedVariables false

/-- x's bit set. -/
def setW (W : Nat → Nat) (x : Int) : Nat → Nat := fun j => if j = x.toNat / 64 % 64 then W j ||| 2 ^ (x.toNat % 64) else W j

theorem and63_i64 (a : Nat) (h : a < 9223372036854775808) : bits .and .i64 (a : Int) 63 = ((a % 64 : Nat) : Int) := by
  have e1 : (BitVec.ofInt 64 (a : Int)).toNat = a := by simp; omega
  have e2 : (BitVec.ofInt 64 (63 : Int)).toNat = 63 := by decide
  have e : (BitVec.ofInt 64 (a : Int) &&& BitVec.ofInt 64 (63 : Int)).toNat = a % 64 := by
    rw [BitVec.toNat_and, e1, e2]; exact Nat.and_two_pow_sub_one_eq_mod a 6
  show IntKind.i64.wrap ((BitVec.ofInt 64 (a : Int) &&& BitVec.ofInt 64 (63 : Int)).toNat : Int) = _
  rw [e, IntKind.wrap_i64]; omega
theorem and63_u32 (a : Nat) (h : a < 4294967296) : bits .and .u32 (a : Int) 63 = ((a % 64 : Nat) : Int) := by
  have e1 : (BitVec.ofInt 32 (a : Int)).toNat = a := by simp; omega
  have e2 : (BitVec.ofInt 32 (63 : Int)).toNat = 63 := by decide
  have e : (BitVec.ofInt 32 (a : Int) &&& BitVec.ofInt 32 (63 : Int)).toNat = a % 64 := by
    rw [BitVec.toNat_and, e1, e2]; exact Nat.and_two_pow_sub_one_eq_mod a 6
  show IntKind.u32.wrap ((BitVec.ofInt 32 (a : Int) &&& BitVec.ofInt 32 (63 : Int)).toNat : Int) = _
  rw [e]
  simp [IntKind.wrap, IntKind.bits, IntKind.signed]; omega
theorem two_pow_lt (t : Nat) (h : t < 64) : 2 ^ t < 18446744073709551616 := Nat.pow_lt_pow_right (by decide : 1 < 2) h
theorem shl1 (t : Nat) (h : t < 64) : IntKind.u64.wrap ((2 : Int) ^ t) = (2 : Int) ^ t := by
  have e : (2 : Int) ^ t = ((2 ^ t : Nat) : Int) := by simp
  rw [e, IntKind.wrap_u64]
  exact Int.emod_eq_of_lt (Int.natCast_nonneg _) (Int.ofNat_lt.2 (two_pow_lt t h))
theorem or_u64 (a t : Nat) (ha : a < 18446744073709551616) (h : t < 64) : bits .or .u64 (a : Int) ((2 : Int) ^ t) = ((a ||| 2 ^ t : Nat) : Int) := by
  have : (2 : Int) ^ t = ((2 ^ t : Nat) : Int) := by simp
  rw [this, bits_or_u64_nat a (2 ^ t) ha (two_pow_lt t h)]
theorem or_lt (a t : Nat) (ha : a < 18446744073709551616) (h : t < 64) : a ||| 2 ^ t < 18446744073709551616 := Nat.or_lt_two_pow (n := 64) ha (two_pow_lt t h)

theorem setW_at (V : Nat → Nat) (y : Int) : setW V y (y.toNat / 64 % 64) = V (y.toNat / 64 % 64) ||| 2 ^ (y.toNat % 64) := by unfold setW; rw [if_pos rfl]
theorem setW_other (V : Nat → Nat) (y : Int) {j : Nat} (h : ¬ j = y.toNat / 64 % 64) : setW V y j = V j := by unfold setW; rw [if_neg h]
theorem setW_bit (V : Nat → Nat) (y x : Int) : bit (setW V y) x = (bit V x || (y.toNat % 4096 == x.toNat % 4096)) := by
  unfold bit
  by_cases h : x.toNat / 64 % 64 = y.toNat / 64 % 64
  · rw [h, setW_at, Nat.testBit_or, Nat.testBit_two_pow]
    congr 1
    rw [Bool.eq_iff_iff, decide_eq_true_eq, beq_iff_eq]
    omega
  · rw [setW_other V y h]
    have : (y.toNat % 4096 == x.toNat % 4096) = false := by rw [beq_eq_false_iff_ne]; omega
    rw [this, Bool.or_false]

/-- Is x's place among those of l? -/
def hit (l : List Int) (x : Int) : Bool := l.any fun y => y.toNat % 4096 == x.toNat % 4096
theorem hit_take_succ (l : List Int) (k : Nat) (hk : k < l.length) (x : Int) : hit (l.take (k + 1)) x = (hit (l.take k) x || (l[k].toNat % 4096 == x.toNat % 4096)) := by
  unfold hit
  rw [List.take_succ_eq_append_getElem hk, List.any_append]; simp

theorem grownBy_setCell {w wr : World} {g : Nat} (h : w.grownBy wr (some g)) (j : Nat) (v : Value) : w.grownBy (wr.setCell ⟨g, j, none⟩ v).drew (some g) :=
  ⟨h.os, h.tape, h.output, by simpa using h.size, fun k hk hne => by
    show (wr.setCell ⟨g, j, none⟩ v).heap[k]? = _
    rw [Below.heap_setCell _ _ _ _ (by intro e; exact hne (by rw [e]))]
    exact h.block k hk hne⟩

theorem Words.set {w : World} {wb : Nat} {V : Nat → Nat} (h : Words w wb V) (x j t : Nat) (hj : j = x / 64 % 64) (ht : t = x % 64) : Words (w.setCell ⟨wb, j, none⟩ (.int .u64 (bits .or .u64 (V j : Int) ((2 : Int) ^ t)))).drew wb (setW V (x : Int)) where
  cell := fun i hi => by
    show (w.setCell ⟨wb, j, none⟩ _).cell? _ = _
    have hj64 : j < 64 := by omega
    by_cases e : i = j
    · subst e
      rw [World.cell?_setCell_same _ _ _ (h.cell i hi), or_u64 _ _ (h.lt i hi) (by omega)]
      have : setW V (x : Int) i = V i ||| 2 ^ t := by rw [hj, ht]; exact setW_at V (x : Int)
      rw [this]
    · rw [World.cell?_setCell_other _ _ _ _ (by simp <;> omega), setW_other V (x : Int) (by simp; omega)]
      exact h.cell i hi
  lt := fun i hi => by
    by_cases e : i = x / 64 % 64
    · have : setW V (x : Int) i = V i ||| 2 ^ (x % 64) := by rw [e]; exact setW_at V (x : Int)
      rw [this]; exact or_lt _ _ (h.lt i hi) (by omega)
    · rw [setW_other V (x : Int) (by simpa using e)]; exact h.lt i hi

/-- Words that may be written. -/
structure Warm (w : World) (wb : Nat) : Prop where
  warm : ∀ i, i < 64 → w.frozen? ⟨wb, i, none⟩ = false
theorem Warm.set {w : World} {wb : Nat} (h : Warm w wb) (a : Addr) (v : Value) : Warm (w.setCell a v).drew wb := ⟨fun i hi => by
  show (w.setCell a v).frozen? _ = _
  rw [World.frozen?_setCell]; exact h.warm i hi⟩

set_option maxRecDepth 10000 in
theorem setBits64_any (wb : Nat) (W : Nat → Nat) (ob oo ocap : Nat) (O : List Int) (w : World) (hW : Words w wb W) (hwm : Warm w wb) (hO : At .i64 w ob oo O) (hne : ob ≠ wb) (hr : ∀ x ∈ O, 0 ≤ x ∧ x < 4294967296) (hl : O.length ≤ 1048576) :
    Calls Tryd.prog 73 #[.pointer (some ⟨wb, 0, none⟩), .slice (some ⟨ob, oo, none⟩) O.length ocap] w fun e w' => e = .returned (.tuple #[]) ∧ ∃ V, Words w' wb V ∧ (∀ x, bit V x = (bit W x || hit O x)) ∧ Warm w' wb ∧ w.grownBy w' (some wb) := by
  go_enter Tryd.func73, Tryd.ntmps73
  go_wp2
  go_loopw [8] (fun si wr => ∃ (k : Nat) (V : Nat → Nat), k ≤ O.length ∧ si = .int .i64 k ∧ Words wr wb V ∧ (∀ x, bit V x = (bit W x || hit (O.take k) x)) ∧ Warm wr wb ∧ w.grownBy wr (some wb)) (fun si _ => O.length - (intOf si).toNat)
  case atStart => exact ⟨0, W, by omega, rfl, hW, by simp [hit], hwm, World.grownBy.refl _ _⟩
  case round =>
    obtain ⟨k, V, hk, rfl, hV, hbit, hvm, hgr⟩ := hrel
    have HB : Hid (∀ x, bit V x = (bit W x || hit (O.take k) x)) := hbit
    clear hbit
    by_cases hlt : k < O.length
    · have gc := hgr.cell (hO.cell k hlt) (by intro e; exact hne (Option.some.inj e))
      obtain ⟨hx0, hx1⟩ := hr O[k] (List.getElem_mem hlt)
      have HH := fun x => hit_take_succ O k hlt x
      have HH' : Hid (∀ x, hit (O.take (k + 1)) x = (hit (O.take k) x || (O[k].toNat % 4096 == x.toNat % 4096))) := HH
      clear HH
      generalize O[k] = x at *
      obtain ⟨x, rfl⟩ := Int.eq_ofNat_of_zero_le hx0
      obtain ⟨j, hj⟩ : ∃ j, j = x / 64 % 64 := ⟨_, rfl⟩
      obtain ⟨t, ht⟩ : ∃ t, t = x % 64 := ⟨_, rfl⟩
      have hj64 : j < 64 := by omega
      have ht64 : t < 64 := by omega
      have e1 : bits .and .i64 ((x : Int) / 64) 63 = (j : Int) := by
        have := and63_i64 (x / 64) (by omega)
        rw [hj, ← this]; rfl
      have e2 : bits .and .i64 (x : Int) 63 = (t : Int) := by rw [ht]; exact and63_i64 x (by omega)
      have HJ : Hid (j = x / 64 % 64) := hj
      have HT : Hid (t = x % 64) := ht
      have gw := hV.cell j hj64
      have gf := hvm.warm j hj64
      have e3 := shl1 t ht64
      clear hj ht
      go_wp2
      go_region
      go_wp2
      go_roundw
      case rel => exact ⟨k + 1, setW V (x : Int), by omega, by go_num, hV.set x j t HJ.out HT.out, fun y => by rw [setW_bit, HB.out y, HH'.out y, Bool.or_assoc], hvm.set _ _, grownBy_setCell hgr _ _⟩
      case measure => simp [intOf]; omega
    · go_wp2
      go_end0
      exact ⟨rfl, V, hV, fun x => by rw [HB.out x, List.take_of_length_le (by omega)], hvm, hgr⟩

set_option maxRecDepth 10000 in
theorem setBits32_any (wb : Nat) (W : Nat → Nat) (ob oo ocap : Nat) (O : List Int) (w : World) (hW : Words w wb W) (hwm : Warm w wb) (hO : At .u32 w ob oo O) (hne : ob ≠ wb) (hr : ∀ x ∈ O, 0 ≤ x ∧ x < 4294967296) (hl : O.length ≤ 1048576) :
    Calls Tryd.prog 66 #[.pointer (some ⟨wb, 0, none⟩), .slice (some ⟨ob, oo, none⟩) O.length ocap] w fun e w' => e = .returned (.tuple #[]) ∧ ∃ V, Words w' wb V ∧ (∀ x, bit V x = (bit W x || hit O x)) ∧ Warm w' wb ∧ w.grownBy w' (some wb) := by
  go_enter Tryd.func66, Tryd.ntmps66
  go_wp2
  go_loopw [8] (fun si wr => ∃ (k : Nat) (V : Nat → Nat), k ≤ O.length ∧ si = .int .i64 k ∧ Words wr wb V ∧ (∀ x, bit V x = (bit W x || hit (O.take k) x)) ∧ Warm wr wb ∧ w.grownBy wr (some wb)) (fun si _ => O.length - (intOf si).toNat)
  case atStart => exact ⟨0, W, by omega, rfl, hW, by simp [hit], hwm, World.grownBy.refl _ _⟩
  case round =>
    obtain ⟨k, V, hk, rfl, hV, hbit, hvm, hgr⟩ := hrel
    have HB : Hid (∀ x, bit V x = (bit W x || hit (O.take k) x)) := hbit
    clear hbit
    by_cases hlt : k < O.length
    · have gc := hgr.cell (hO.cell k hlt) (by intro e; exact hne (Option.some.inj e))
      obtain ⟨hx0, hx1⟩ := hr O[k] (List.getElem_mem hlt)
      have HH := fun x => hit_take_succ O k hlt x
      have HH' : Hid (∀ x, hit (O.take (k + 1)) x = (hit (O.take k) x || (O[k].toNat % 4096 == x.toNat % 4096))) := HH
      clear HH
      generalize O[k] = x at *
      obtain ⟨x, rfl⟩ := Int.eq_ofNat_of_zero_le hx0
      obtain ⟨j, hj⟩ : ∃ j, j = x / 64 % 64 := ⟨_, rfl⟩
      obtain ⟨t, ht⟩ : ∃ t, t = x % 64 := ⟨_, rfl⟩
      have hj64 : j < 64 := by omega
      have ht64 : t < 64 := by omega
      have e1 : bits .and .u32 ((x : Int) / 64) 63 = (j : Int) := by
        have := and63_u32 (x / 64) (by omega)
        rw [hj, ← this]; rfl
      have e2 : bits .and .u32 (x : Int) 63 = (t : Int) := by rw [ht]; exact and63_u32 x (by omega)
      have HJ : Hid (j = x / 64 % 64) := hj
      have HT : Hid (t = x % 64) := ht
      have gw := hV.cell j hj64
      have gf := hvm.warm j hj64
      have e3 := shl1 t ht64
      clear hj ht
      go_wp2
      go_region
      go_wp2
      go_roundw
      case rel => exact ⟨k + 1, setW V (x : Int), by omega, by go_num, hV.set x j t HJ.out HT.out, fun y => by rw [setW_bit, HB.out y, HH'.out y, Bool.or_assoc], hvm.set _ _, grownBy_setCell hgr _ _⟩
      case measure => simp [intOf]; omega
    · go_wp2
      go_end0
      exact ⟨rfl, V, hV, fun x => by rw [HB.out x, List.take_of_length_le (by omega)], hvm, hgr⟩

/-! ### Whole arrays of 64 -/
/-- The 64 words as cells. -/
def wcells (V : Nat → Nat) : List Value := (List.range 64).map fun i => Value.int .u64 (V i : Int)
theorem wcells_length (V : Nat → Nat) : (wcells V).length = 64 := by simp [wcells]
theorem wcells_at (V : Nat → Nat) (i : Nat) (h : i < 64) : (wcells V)[i]? = some (.int .u64 (V i : Int)) := by simp [wcells, h]
theorem size_wc (V : Nat → Nat) : (wcells V).toArray.size = 64 := by rw [List.size_toArray, wcells_length]
theorem size90 : (Tryd.prog.info? 90).map (·.size) = some 64 := by kernel_rfl
/-- What 'new([64]uint64)' leaves. -/
structure NewW (w w' : World) : Prop where
  size : w'.heap.size = w.heap.size + 1
  words : Words w' w.heap.size (fun _ => 0)
  warm : Warm w' w.heap.size
  below : Below w.heap.size w w'
theorem zeros64 : (#[Value.int .u64 0, .int .u64 0, .int .u64 0, .int .u64 0, .int .u64 0, .int .u64 0, .int .u64 0, .int .u64 0, .int .u64 0, .int .u64 0, .int .u64 0, .int .u64 0, .int .u64 0, .int .u64 0, .int .u64 0, .int .u64 0, .int .u64 0, .int .u64 0, .int .u64 0, .int .u64 0, .int .u64 0, .int .u64 0, .int .u64 0, .int .u64 0, .int .u64 0, .int .u64 0, .int .u64 0, .int .u64 0, .int .u64 0, .int .u64 0, .int .u64 0, .int .u64 0, .int .u64 0, .int .u64 0, .int .u64 0, .int .u64 0, .int .u64 0, .int .u64 0, .int .u64 0, .int .u64 0, .int .u64 0, .int .u64 0, .int .u64 0, .int .u64 0, .int .u64 0, .int .u64 0, .int .u64 0, .int .u64 0, .int .u64 0, .int .u64 0, .int .u64 0, .int .u64 0, .int .u64 0, .int .u64 0, .int .u64 0, .int .u64 0, .int .u64 0, .int .u64 0, .int .u64 0, .int .u64 0, .int .u64 0, .int .u64 0, .int .u64 0, .int .u64 0] : Array Value) = Array.replicate 64 (.int .u64 0) := rfl
theorem run_alloc90 (w : World) : (Instr.alloc 90 true (.tuple #[])).run Tryd.prog w = .ok (.pointer (some ⟨w.heap.size, 0, none⟩)) (w.alloc (.cells (Array.replicate 64 (.int .u64 0)) 90)) := by
  rw [← zeros64]
  simp [Instr.alloc, Tryd.zeroValue90, go_sem]
theorem newW (w : World) : NewW w (w.alloc (.cells (Array.replicate 64 (.int .u64 0)) 90)) where
  size := by simp
  words := ⟨fun i hi => by simp [hi], fun i hi => by simp⟩
  warm := ⟨fun i hi => by simp⟩
  below := (Below.refl _ _).alloc (Nat.le_refl _) _
theorem wpList_alloc90 {ops : Array Oper} {rest : List Oper} {o : Oper} {a : Act} {w : World} {Q : Exit → Act → World → Prop} (hgd : o.guard = none) (ho : o.op = Op.alloc 90)
    (h : ∀ w', NewW w w' → wpList Tryd.prog ops Q rest (a.put o.dst (.pointer (some ⟨w.heap.size, 0, none⟩))) w') : wpList Tryd.prog ops Q (o :: rest) a w := by
  refine wpList_plain hgd fun K hK => ?_
  unfold Oper.wp
  simp [execOp, ho, run_alloc90, Result.andThen]
  exact hK _ _ (h _ (newW w))

theorem below_setCells {B : Nat} {a : World} (b : Nat) (hb : B ≤ b) : ∀ (vs : List Value) (o : Nat) (w : World), Below B a w → Below B a (w.setCells b o vs)
  | [], _, _, h => h
  | v :: vs, o, w, h => below_setCells b hb vs (o + 1) (w.setCell ⟨b, o, none⟩ v) (h.setCell hb v)
theorem Words.range {w : World} {wb : Nat} {V : Nat → Nat} (h : Words w wb V) : w.rangeAt wb 0 (wcells V) := fun j v hj => by
  have hj' : j < 64 := by have := (List.getElem?_eq_some_iff.1 hj).1; simpa [wcells_length] using this
  rw [wcells_at V j hj'] at hj
  rw [Nat.zero_add, h.cell j hj', hj]
theorem results_cell1 {fn : Func} {p : Tmp} {ty : TypeId} (h : fn.results = #[.cell p ty]) (tmps : Array Value) (P : Program) (w : World) :
    (results fn tmps).run P w = ((asAddr (tmps.getD p undef)).run P w).andThen fun a w₁ => (loadVar ty a).run P w₁ := by
  simp only [results, h]
  simp [Sem.run_bind, Result.andThen]
theorem words_one (V : Nat → Nat) : (wcells V).toArray.all (·.oneCell') = true := by
  rw [Array.all_eq_true_iff_forall_mem]
  intro v hv
  simp [wcells] at hv
  obtain ⟨i, _, rfl⟩ := hv
  rfl

/-- x is among the ordinals exactly where its place is (both in one leaf's span). -/
theorem hit_iff {S : List Int} {base : Nat} (hS : Ran S base (base + spn 0)) {x : Int} (h0 : (base : Int) ≤ x) (h1 : x < (base : Int) + 4096) : hit S x = true ↔ x ∈ S := by
  unfold hit
  rw [List.any_eq_true]
  constructor
  · rintro ⟨y, hy, he⟩
    have h2 := hS.lo y hy
    have h3 := hS.hi y hy
    have h4 : spn 0 = 4096 := rfl
    rw [beq_iff_eq] at he
    have : x = y := by omega
    rw [this]; exact hy
  · intro h
    exact ⟨x, h, by simp⟩
theorem bit_zero (x : Int) : bit (fun _ => 0) x = false := by simp [bit]

/-- What leafWords hands back. -/
structure LeafW (base : Nat) (S : List Int) (V : Nat → Nat) : Prop where
  lt : ∀ i, i < 64 → V i < 18446744073709551616
  mem : ∀ x : Int, (base : Int) ≤ x → x < (base : Int) + 4096 → (bit V x = true ↔ x ∈ S)

/-- The result's array, behind the store. -/
theorem load_back (w : World) (R : Nat) (V : Nat → Nat) (ht : w.there R 0 64) : (loadVar 90 ⟨R, 0, none⟩).run Tryd.prog (w.setCells R 0 (wcells V)) = .ok (.agg (wcells V).toArray) (w.setCells R 0 (wcells V)) :=
  run_loadVar_mid _ R 0 90 (wcells V) _ (World.rangeAt_setCells_same w R 0 (wcells V) (by rw [wcells_length]; exact ht)) Tryd.underlying90 rfl (by rw [wcells_length]; exact size90)
theorem there_of {w : World} {wb : Nat} {V : Nat → Nat} (h : Words w wb V) (hw : Warm w wb) : w.there wb 0 64 := fun j hj => by
  rw [Nat.zero_add]; exact ⟨by rw [h.cell j hj]; rfl, hw.warm j hj⟩
theorem Warm.keep {w w' : World} {wb : Nat} (h : Warm w wb) (hlt : wb < w.heap.size) (hb : Below w.heap.size w w') : Warm w' wb := ⟨fun i hi => by
  rw [hb.frozen (p := ⟨wb, i, none⟩) hlt]; exact h.warm i hi⟩
theorem there_keep {w w' : World} {wb : Nat} {V : Nat → Nat} (h : Words w wb V) (hw : Warm w wb) (hb : Below w.heap.size w w') : w'.there wb 0 64 := there_of (h.keep hb) (hw.keep h.lt_size hb)
theorem Words.of_setCells {w : World} {wb : Nat} {V W : Nat → Nat} (h : Words w wb V) (hw : Warm w wb) (hW : ∀ i, i < 64 → W i < 18446744073709551616) : Words (w.setCells wb 0 (wcells W)) wb W where
  cell := fun i hi => by
    have := World.rangeAt_setCells_same w wb 0 (wcells W) (by rw [wcells_length]; exact there_of h hw) i _ (wcells_at W i hi)
    rwa [Nat.zero_add] at this
  lt := hW
theorem Warm.of_setCells {w : World} {wb : Nat} (hw : Warm w wb) (b o : Nat) (vs : List Value) : Warm (w.setCells b o vs) wb := ⟨fun i hi => by
  rw [World.frozen?_setCells]; exact hw.warm i hi⟩

set_option maxRecDepth 10000 in
theorem leafWords_nil (w : World) : Calls Tryd.prog 47 #[.pointer none] w fun e w' => e = .returned (.agg (wcells (fun _ => 0)).toArray) ∧ Below w.heap.size w w' := by
  have tok1 : True := trivial
  go_enter Tryd.func47, Tryd.ntmps47
  go_wp2_with (first
    | (have _t := tok1; refine wpList_alloc90 rfl rfl ?_; intro w1 N1; clear tok1 _t)
    | (refine wpList_alloc90 rfl rfl ?_; intro w2 N2)
    | (refine wpList_load_mid rfl 90 (.tmp 3) rfl w1.heap.size 0 rfl (wcells (fun _ => 0)) _ N2.words.range Tryd.underlying90 rfl (by rw [wcells_length]; exact size90) ?_)
    | (refine wpList_store_mid rfl 90 (.tmp 2) (.tmp 26) rfl w.heap.size 0 _ rfl rfl ?_ (by rw [size_wc]; exact size90) (words_one _) ?_))
  · rw [size_wc]; exact there_keep N1.words N1.warm N2.below
  · have ht : w2.there w.heap.size 0 64 := there_keep N1.words N1.warm N2.below
    refine bodyPost_ret (v := .agg (wcells (fun _ => 0)).toArray) ?_ rfl ⟨rfl, below_setCells _ (Nat.le_refl _) _ _ _ (N1.below.trans (N2.below.mono N1.below.size))⟩
    rw [results_cell1 Tryd.results47]
    simp [asAddr, Act.put, load_back w2 w.heap.size (fun _ => 0) ht]
end Go.Proofs.Qxb6609120aDoor
