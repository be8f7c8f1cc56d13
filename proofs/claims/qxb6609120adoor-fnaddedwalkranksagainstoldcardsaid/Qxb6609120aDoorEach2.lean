/-
  rowNode.each, whole.
-/
import Derived.Test.Qxb6609120aDoorEach
namespace Go.Proofs.Qxb6609120aDoor
open Go.RowKit
open Plain (Srt Asc asc_ext)
set_option linter.unusedVariables false

/-- each, at height h. -/
def EachAt (g : FuncId) (c : Value) (ok : Nat → Prop) (w0 : World) (Inv : List Int → World → Prop) (h : Nat) : Prop :=
  ∀ (base : Nat) (p : Option Addr) (S pre : List Int) (w : World), Node ok h w0 base p S → base % 4096 = 0 → base + spn h ≤ 1099511627776 → (∀ x ∈ S, x < 4294967296) → pre.length + S.length ≤ 1099511627776 → Inv pre w →
    Calls Tryd.prog 54 #[.pointer p, .int .i64 (h : Nat), .int .i64 (base : Nat), .func (.func g) #[] #[c]] w fun e w' => e = .returned (.bool true) ∧ Inv (pre ++ S) w'

theorem each_nil (g : FuncId) (c : Value) (x y : Int) (w : World) : Calls Tryd.prog 54 #[.pointer none, .int .i64 x, .int .i64 y, .func (.func g) #[] #[c]] w fun e w' => e = .returned (.bool true) ∧ w' = w := by
  go_enter Tryd.func54, Tryd.ntmps54
  go_wp2_with fail
  go_ret
  exact ⟨rfl, rfl⟩

set_option maxRecDepth 10000 in
theorem each_kids (g : FuncId) (c : Value) (ok : Nat → Prop) (w0 : World) (Inv : List Int → World → Prop) (R : Rel g c ok w0 Inv) (h : Nat) (hh : h ≤ 3) (ih : EachAt g c ok w0 Inv h) (base : Nat) (S pre : List Int) (b kb : Nat) (K : Nat → Option Addr) (L : Nat → List Int) (w : World)
    (hc : NCell w0 b (some ⟨kb, 0, none⟩) none (.slice none 0 0)) (hK : Kids w0 kb K) (hN : ∀ i, i < 64 → Node ok h w0 (base + i * spn h) (K i) (L i)) (hL : ∀ x, x ∈ S ↔ ∃ i, i < 64 ∧ x ∈ L i) (o1 : ok b) (o2 : ok kb) (hS : Ran S base (base + spn (h + 1))) (hb : base % 4096 = 0) (hbig : base + spn (h + 1) ≤ 1099511627776) (h32 : ∀ x ∈ S, x < 4294967296) (hpl : pre.length + S.length ≤ 1099511627776) (hI : Inv pre w) :
    Calls Tryd.prog 54 #[.pointer (some ⟨b, 0, none⟩), .int .i64 ((h : Int) + 1), .int .i64 (base : Nat), .func (.func g) #[] #[c]] w fun e w' => e = .returned (.bool true) ∧ Inv (pre ++ S) w' := by
  have hcw := hc.move (R.keep _ _ hI b o1 hc.lt)
  have c0 := hcw.kids
  have HR : Hid (Rel g c ok w0 Inv) := R
  have hsp := spn_succ h
  have hwr := wrap_h h (by omega)
  have hspan : ∀ w, Calls Tryd.prog 50 #[.int .i64 (h : Int)] w fun e w' => e = .returned (.int .i64 ((spn h : Nat) : Int)) ∧ w' = w := span_any h (by omega)
  have HSTEP : Hid (∀ i wr, i < 64 → Inv (pre ++ bel S ((base + i * spn h : Nat) : Int)) wr → Calls Tryd.prog 54 #[.pointer (K i), .int .i64 (h : Nat), .int .i64 ((base + i * spn h : Nat) : Int), .func (.func g) #[] #[c]] wr fun e w' => e = .returned (.bool true) ∧ Inv (pre ++ bel S ((base + (i + 1) * spn h : Nat) : Int)) w') := fun i wr hi hIi => by
    have hle : (i + 1) * spn h ≤ 64 * spn h := Nat.mul_le_mul_right _ (by omega)
    rw [Nat.add_mul, Nat.one_mul] at hle
    have hmod : (base + i * spn h) % 4096 = 0 := by
      unfold spn
      rw [show i * (4096 * 64 ^ h) = 4096 * (i * 64 ^ h) by rw [← Nat.mul_assoc, Nat.mul_comm i 4096, Nat.mul_assoc], Nat.add_mul_mod_self_left]
      exact hb
    have hadd : bel S ((base + (i + 1) * spn h : Nat) : Int) = bel S ((base + i * spn h : Nat) : Int) ++ L i := by
      refine bel_add hS.asc (hN i hi).ran.asc (by rw [Nat.add_mul]; omega) (fun x => ?_)
      rw [Nat.add_mul, Nat.one_mul]
      constructor
      · intro hx
        have h1 := (hN i hi).ran.lo x hx
        have h2 := (hN i hi).ran.hi x hx
        exact ⟨(hL x).2 ⟨i, hi, hx⟩, by omega, by omega⟩
      · rintro ⟨hx, h1, h2⟩
        obtain ⟨j, hj, hxj⟩ := (hL x).1 hx
        have h3 := (hN j hj).ran.lo x hxj
        have h4 := (hN j hj).ran.hi x hxj
        have : j = i := by
          rcases Nat.lt_trichotomy j i with hlt | he | hlt
          · have : (j + 1) * spn h ≤ i * spn h := Nat.mul_le_mul_right _ hlt
            rw [Nat.add_mul, Nat.one_mul] at this
            omega
          · exact he
          · have : (i + 1) * spn h ≤ j * spn h := Nat.mul_le_mul_right _ hlt
            rw [Nat.add_mul, Nat.one_mul] at this
            omega
        exact this ▸ hxj
    have := ih (base + i * spn h) (K i) (L i) (pre ++ bel S ((base + i * spn h : Nat) : Int)) wr (hN i hi) hmod (by omega) (fun x hx => h32 x ((hL x).2 ⟨i, hi, hx⟩)) (by
      have h1 := bel_len S ((base + (i + 1) * spn h : Nat) : Int)
      rw [hadd, List.length_append] at h1
      rw [List.length_append]
      omega) hIi
    rw [List.append_assoc, ← hadd] at this
    exact this
  have HK : Hid (∀ i l wr, i < 64 → Inv l wr → wr.cell? ⟨kb, i, none⟩ = some (.pointer (K i))) := fun i l wr hi hIl => (hK.move (HR.out.keep _ _ hIl kb o2 hK.lt)) i hi
  have HD : Hid (∀ l w' n, Inv l w' → Inv l (w'.drewN n)) := R.drew
  have HS0 : Hid (bel S ((base : Nat) : Int) = []) := bel_none (fun x hx => hS.lo x hx)
  have HS1 : Hid (bel S ((base + 64 * spn h : Nat) : Int) = S) := bel_all (fun x hx => by have := hS.hi x hx; omega)
  have hmul : ∀ i : Nat, i < 64 → i * spn h ≤ 64 * spn h := fun i hi => Nat.mul_le_mul_right _ (by omega)
  have hb64 : base + 64 * spn h ≤ 1099511627776 := by omega
  clear hcw R hN hL hK hc h32 hS ih hsp hbig hb
  generalize spn h = sp at *
  go_enter Tryd.func54, Tryd.ntmps54
  go_wp2_with (go_at_call 50; refine (hspan _).mono ?_; rintro _ _ ⟨rfl, hwe⟩; have hwe := hwe.symm; subst hwe)
  go_loopw [30] (fun si wr => ∃ i : Nat, i ≤ 64 ∧ si = .int .i64 i ∧ Inv (pre ++ bel S ((base + i * sp : Nat) : Int)) wr) (fun si _ => 64 - (intOf si).toNat)
  case atStart => exact ⟨0, by omega, rfl, by rw [Nat.zero_mul, Nat.add_zero, HS0.out]; simpa using hI⟩
  case round =>
    clear c0 hI
    obtain ⟨i, hi, rfl, hIi⟩ := hrel
    by_cases hlt : i < 64
    · have gc := HK.out i _ _ hlt hIi
      have hm := hmul i hlt
      have hii : ((i : Nat) : Int) < 64 := by omega
      obtain ⟨st, hst⟩ : ∃ st, st = i * sp := ⟨_, rfl⟩
      have e1 : (i : Int) * (sp : Int) = (st : Int) := by rw [hst]; simp
      have hs1 : st ≤ 64 * sp := by omega
      have HI2 : Hid (Inv (pre ++ bel S ((base + i * sp : Nat) : Int)) wr) := hIi
      have HST : Hid (st = i * sp) := hst
      clear hIi hst hm hmul
      go_wp2_with fail
      go_quiet (fail)
      have HI3 := HD.out _ _ nq HI2.out
      generalize wr.drewN nq = wq at HI3 ⊢
      have HC := HSTEP.out i wq hlt HI3
      rw [← HST.out] at HC
      rw [show ((base + st : Nat) : Int) = (base : Int) + (st : Int) by omega] at HC
      have HC' : Hid (Calls Tryd.prog 54 #[.pointer (K i), .int .i64 (h : Nat), .int .i64 ((base : Int) + (st : Int)), .func (.func g) #[] #[c]] wq fun e w' => e = .returned (.bool true) ∧ Inv (pre ++ bel S ((base + (i + 1) * sp : Nat) : Int)) w') := HC
      clear HC HI3 HI2 gc
      go_wp2_with (go_at_call 54; refine HC'.out.mono ?_; rintro _ w5 ⟨rfl, hI5⟩; have HI5 : Hid (Inv (pre ++ bel S ((base + (i + 1) * sp : Nat) : Int)) w5) := hI5; clear hI5 HC')
      go_roundw
      case rel => exact ⟨i + 1, by omega, by go_num, HI5.out⟩
      case measure => simp [intOf]; omega
    · have HE : Hid (Inv (pre ++ S) wr) := by
        have : i = 64 := by omega
        subst this
        show Inv _ _
        rwa [HS1.out] at hIi
      clear hIi
      go_wp2_with fail
      go_ret
      exact ⟨rfl, HE.out⟩

theorem each_any (g : FuncId) (c : Value) (ok : Nat → Prop) (w0 : World) (Inv : List Int → World → Prop) (R : Rel g c ok w0 Inv) : ∀ h, h ≤ 4 → EachAt g c ok w0 Inv h
  | 0, _ => fun base p S pre w hn hb hbig h32 hpl hI => by
    rcases hn.2 with ⟨rfl, rfl⟩ | ⟨b, lb, lo, lc, rfl, hl, o1, o2⟩ | ⟨b, wb, W, rfl, hw, o1, o2⟩
    · refine (each_nil g c _ _ w).mono ?_
      rintro e w' ⟨rfl, rfl⟩
      exact ⟨rfl, by simpa using hI⟩
    · exact each_list g c ok w0 Inv R _ _ S pre b lb lo lc w hl o1 o2 (fun x hx => by have := hn.1.lo x hx; omega) h32 hpl hI
    · exact each_words g c ok w0 Inv R _ base S pre b wb W w hw o1 o2 hn.1 hb hbig h32 hpl hI
  | h + 1, hh => fun base p S pre w hn hb hbig h32 hpl hI => by
    rcases hn.2 with ⟨rfl, rfl⟩ | ⟨b, lb, lo, lc, rfl, hl, o1, o2⟩ | ⟨b, kb, K, L, rfl, hc, hk, hN, hL, o1, o2⟩
    · refine (each_nil g c _ _ w).mono ?_
      rintro e w' ⟨rfl, rfl⟩
      exact ⟨rfl, by simpa using hI⟩
    · exact each_list g c ok w0 Inv R _ _ S pre b lb lo lc w hl o1 o2 (fun x hx => by have := hn.1.lo x hx; omega) h32 hpl hI
    · exact each_kids g c ok w0 Inv R h (by omega) (each_any g c ok w0 Inv R h (by omega)) base S pre b kb K L w hc hk hN hL o1 o2 hn.1 hb hbig h32 hpl hI
end Go.Proofs.Qxb6609120aDoor
