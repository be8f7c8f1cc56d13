/-
  addedWalk.walk at a leaf of bits.
-/
import Derived.Test.Qxb6609120aDoorWords
namespace Go.Proofs.Qxb6609120aDoor
open Go.RowKit
open Plain (Srt Asc asc_ext)
set_option linter.unusedVariables false

theorem Words.other {w : World} {c wb : Nat} {V : Nat → Nat} (h : Words w c V) (hne : c ≠ wb) (vs : List Value) : Words (w.setCells wb 0 vs) c V :=
  ⟨fun i hi => by rw [cell_setCells_other (o := 0) (w := w) hne]; exact h.cell i hi, h.lt⟩
/-- The two arrays that walk makes. -/
structure TwoW (w w6 : World) (sb ob : Nat) (VS VO : Nat → Nat) : Prop where
  s : Words w6 sb VS
  o : Words w6 ob VO
  below : Below w.heap.size w w6
  s0 : w.heap.size ≤ sb
  o0 : w.heap.size ≤ ob

set_option maxHeartbeats 2000000 in
set_option maxRecDepth 10000 in
theorem walk_words (wb gb B : Nat) (ok : Nat → Prop) (w : World) (Y : List Int) (b x : Int) (H : Wk wb gb B ok w Y b) (hbw : Hid (wrap64 b = b)) (base : Nat) (N S O : List Int) (nb nw : Nat) (W : Nat → Nat) (ps po : Option Addr) (hL : WordN w base N nb nw W) (o1 : ok nb) (o2 : ok nw) (hN : Ran N base (base + 4096)) (hS : Node ok 0 w base ps S) (hO : Node ok 0 w base po O) (hSN : ∀ x ∈ S, x ∈ N) (hOS : ∀ x ∈ O, x ∈ S) (hb : base % 4096 = 0) (hbig : base + 4096 ≤ 1099511627776) (h32 : ∀ x ∈ N, x < 4294967296) (hY : Y.length + N.length ≤ 1099511627776) (hq : (binOp .eql 38 (.pointer (some ⟨nb, 0, none⟩)) (.pointer ps)).run Tryd.prog w = .ok (.bool false) w) :
    Calls Tryd.prog 37 #[.pointer (some ⟨wb, 0, none⟩), .pointer (some ⟨nb, 0, none⟩), .pointer ps, .pointer po, .int .i64 x, .int .i64 (base : Nat)] w fun e w' => e = .returned (.bool true) ∧ Wk wb gb B ok w' (Y ++ rk N S O b) (wrap64 (b + (O.length : Int))) ∧ Fr ok w w' := by
  have tok1 : True := trivial
  have tok2 : True := trivial
  have tok3 : True := trivial
  have c1 := hL.cells.words
  have c2 := hL.cells.list
  have hne := neq_slice w 69 109 none 0 0 Tryd.underlying69
  have HW := hid_of H
  have HC := hid_of (leafWords_any w base ps S (fun x hx => h32 x (hSN x hx)) hS)
  have HO := hid_of (fun w1 (hb1 : Below w.heap.size w w1) => leafWords_any w1 base po O (fun x hx => h32 x (hSN x (hOS x hx))) (hO.keep hb1))
  have HSR := hid_of hS.ran
  have HOR := hid_of hO.ran
  have HL := hid_of hL
  clear H hL hS hO
  go_enter Tryd.func37, Tryd.ntmps37
  go_wp2_with (first
    | (have _t := tok1; go_at_call 47; refine HC.out.mono ?_; rintro _ w1 ⟨VS, rfl, LS, b1⟩; clear tok1 _t)
    | (go_at_call 47; refine (HO.out w1 b1).mono ?_; rintro _ w2 ⟨VO, rfl, LO, b2⟩)
    | (have _t := tok2; refine wpList_alloc90 rfl rfl ?_; intro w3 N3; clear tok2 _t)
    | (refine wpList_alloc90 rfl rfl ?_; intro w4 N4)
    | (have _t := tok3
       refine wpList_store_mid rfl 90 (.tmp 13) (.tmp 61) rfl w2.heap.size 0 _ rfl rfl (by rw [size_wc]; exact there_back' N3 N4.below) (by rw [size_wc]; exact size90) (words_one _) ?_
       have S5 := setW_back' N3 N4.below LS.lt
       have W5 : Words (w4.setCells w2.heap.size 0 (wcells VS).toArray.toList) w3.heap.size (fun _ => 0) := N4.words.other (by have := N3.size; omega) _
       have M5 := S5.warm _ N4.warm
       generalize w4.setCells w2.heap.size 0 (wcells VS).toArray.toList = w5 at S5 W5 M5 ⊢
       clear tok3 _t)
    | (refine wpList_store_mid rfl 90 (.tmp 14) (.tmp 63) rfl w3.heap.size 0 _ rfl rfl (by rw [size_wc]; exact there_of W5 M5) (by rw [size_wc]; exact size90) (words_one _) ?_
       have S6 := setW_of W5 M5 LO.lt
       have W6 : Words (w5.setCells w3.heap.size 0 (wcells VO).toArray.toList) w2.heap.size VS := S5.words.other (by have := N3.size; omega) _
       have T6 : TwoW w (w5.setCells w3.heap.size 0 (wcells VO).toArray.toList) w2.heap.size w3.heap.size VS VO := ⟨W6, S6.words, S6.below _ _ (Nat.le_trans (Nat.le_trans b1.size b2.size) N3.below.size) (S5.below _ _ (Nat.le_trans b1.size b2.size) (((b1.trans (b2.mono b1.size)).trans (N3.below.mono (Nat.le_trans b1.size b2.size))).trans (N4.below.mono (Nat.le_trans (Nat.le_trans b1.size b2.size) N3.below.size)))), Nat.le_trans b1.size b2.size, Nat.le_trans (Nat.le_trans b1.size b2.size) N3.below.size⟩
       generalize w5.setCells w3.heap.size 0 (wcells VO).toArray.toList = w6 at T6 ⊢
       have d1 := cell_below T6.below c1
       clear S5 W5 M5 S6 W6))
  have b26 := T6.below
  have HSM := hid_of (fun (x : Int) (h0 : (base : Int) ≤ x) (h1 : x < (base : Int) + 4096) => (LS.mem x h0 h1).symm)
  have HOM := hid_of (fun (x : Int) (h0 : (base : Int) ≤ x) (h1 : x < (base : Int) + 4096) => (LO.mem x h0 h1).symm)
  have HSL := hid_of LS.lt
  have HOL := hid_of LO.lt
  clear LS LO N3 N4 b1 b2
  generalize w2.heap.size = sb at *
  generalize w3.heap.size = ob at *
  have hW6 : Wk wb gb B (fun k => ok k ∨ w.heap.size ≤ k ∧ k < w6.heap.size) w6 Y b := HW.out.grow b26 (fun k hk => hk) (.inl HW.out.okT)
  have oks : (fun k => ok k ∨ w.heap.size ≤ k ∧ k < w6.heap.size) sb := .inr ⟨T6.s0, T6.s.lt_size⟩
  have oko : (fun k => ok k ∨ w.heap.size ≤ k ∧ k < w6.heap.size) ob := .inr ⟨T6.o0, T6.o.lt_size⟩
  have okn : (fun k => ok k ∨ w.heap.size ≤ k ∧ k < w6.heap.size) nw := .inl o2
  have HFIN : Hid (∀ wr, Wk wb gb B (fun k => ok k ∨ w.heap.size ≤ k ∧ k < w6.heap.size) wr (Y ++ rk N S O b) (wrap64 (b + (O.length : Int))) → Fr (fun k => ok k ∨ w.heap.size ≤ k ∧ k < w6.heap.size) w6 wr → Wk wb gb B ok wr (Y ++ rk N S O b) (wrap64 (b + (O.length : Int))) ∧ Fr ok w wr) := fun wr h1 h2 => ⟨h1.narrow (fun k hk => .inl hk) HW.out.okT, (Fr.of_below b26 HW.out.lt).trans (h2.narrow (fun k hk => .inl hk))⟩
  have HWN : Hid (∀ wr, Fr (fun k => ok k ∨ w.heap.size ≤ k ∧ k < w6.heap.size) w6 wr → Words wr nw W ∧ Words wr sb VS ∧ Words wr ob VO) := fun wr hf => ⟨(HL.out.words.keep b26).move (hf.block nw okn), T6.s.move (hf.block sb oks), T6.o.move (hf.block ob oko)⟩
  clear oks oko okn
  generalize (fun k => ok k ∨ w.heap.size ≤ k ∧ k < w6.heap.size) = ok2 at *
  have hstart : Wk wb gb B ok2 w6 (Y ++ rk (bel N ((base + 64 * 0 : Nat) : Int)) S O b) (wrap64 (b + ((bel O ((base + 64 * 0 : Nat) : Int)).length : Int))) := by
    rw [bel_none (fun x hx => by have := hN.lo x hx; omega), bel_none (fun x hx => by have := HOR.out.lo x hx; omega), rk_nil, List.append_nil, show b + (([] : List Int).length : Int) = b by simp, hbw.out]
    exact hW6
  have HNR := hid_of hN
  have HNM := hid_of HL.out.mem
  have HWL := hid_of HL.out.words.lt
  have H32 := hid_of h32
  clear hW6 c1 c2 hne hq d1 hN h32 hSN hOS hbw HC HO HL o1 o2 T6 b26 HW
  go_loopw [68] (fun si wr => ∃ i : Nat, i ≤ 64 ∧ si = .int .i64 i ∧ Wk wb gb B ok2 wr (Y ++ rk (bel N ((base + 64 * i : Nat) : Int)) S O b) (wrap64 (b + ((bel O ((base + 64 * i : Nat) : Int)).length : Int))) ∧ Fr ok2 w6 wr) (fun si _ => 64 - (intOf si).toNat)
  case atStart => exact ⟨0, by omega, rfl, hstart, Fr.refl _ _⟩
  case round =>
    clear hstart
    obtain ⟨i, hi, rfl, hWi, hFi⟩ := hrel
    by_cases hlt : i < 64
    · obtain ⟨q1, q2, q3⟩ := HWN.out wr hFi
      have gc := q1.cell i hlt
      have hii : ((i : Nat) : Int) < 64 := by omega
      have HI := hid_of hWi
      have HFI := hid_of hFi
      have KV := hid_of (fun t0 t1 h1 h01 hno => words_skip (b := b) (O := O) HNR.out hb HNM.out HSM.out HSL.out hlt (t0 := t0) (t1 := t1) h1 h01 hno)
      have KO := hid_of (fun t ht hv => words_one' (b := b) (O := O) HNR.out hb HNM.out HSM.out HSL.out hlt (t := t) ht hv)
      have KR := hid_of (fun t ht => words_rank (b := b) HOR.out hb HOM.out hlt (t := t) ht)
      have KE := hid_of (words_next (b := b) HOR.out hb HOM.out hlt)
      have gs := q2.cell i hlt
      have go := q3.cell i hlt
      have hwl := HWL.out i hlt
      have hsl := HSL.out i hlt
      have hol := HOL.out i hlt
      have ea := u64_andNot_nat (W i) (VS i) hwl hsl
      rw [show W i &&& (18446744073709551615 - VS i) = andn (W i) (VS i) by rfl] at ea
      have hvl := andn_lt (b := VS i) hwl
      have HGO : Hid (∀ wr, Fr ok2 w6 wr → wr.cell? ⟨ob, i, none⟩ = some (.int .u64 (VO i : Int))) := fun wr hf => (HWN.out wr hf).2.2.cell i hlt
      clear hWi hFi q1 q2 q3
      generalize andn (W i) (VS i) = v at *
      generalize W i = wi at *
      generalize VS i = si at *
      generalize VO i = oi at *
      go_wp2_with fail
      go_quiet (fail)
      have HI2 := hid_of (HI.out.keep (below_drewN wr nq))
      have HF2 := hid_of (HFI.out.trans (Fr.of_below (below_drewN wr nq) HI.out.lt))
      have gs2 : (wr.drewN nq).cell? ⟨sb, i, none⟩ = some (.int .u64 (si : Int)) := gs
      generalize wr.drewN nq = wq at HI2 HF2 gs2 ⊢
      clear gc gs go HI HFI
      go_wp2_with fail
      go_loopw [17] (fun sr w2 => ∃ (r t0 : Nat), sr = .int .u64 r ∧ Left r v t0 ∧ Wk wb gb B ok2 w2 (Y ++ rk (bel N ((base + 64 * i + t0 : Nat) : Int)) S O b) (wrap64 (b + ((bel O ((base + 64 * i : Nat) : Int)).length : Int))) ∧ Fr ok2 w6 w2) (fun sr _ => (intOf sr).toNat)
      case atStart => exact ⟨v, 0, rfl, Left.start hvl, HI2.out, HF2.out⟩
      case round =>
        clear gs2 HI2 HF2 ea
        obtain ⟨r, t0, rfl, hr, hW2, hF2⟩ := hrel
        have c0 := hW2.c0
        have c1 := hW2.c1
        have f1 := hW2.fw 1
        have go2 := HGO.out wr hF2
        have HW2 := hid_of hW2
        have HF2 := hid_of hF2
        by_cases h0 : r = 0
        · have hdn := (h0 ▸ hr : Left 0 v t0).done
          have e64 := KV.out t0 64 (Nat.le_refl _) hr.le (fun t h1 _ => hdn t h1)
          rw [show base + 64 * i + 64 = base + 64 * (i + 1) by omega] at e64
          have HO1 := hid_of (ones_any oi hol wr.drew)
          have HFN : Hid (∀ w', w' = (wr.setCell ⟨wb, 1, none⟩ (.int .i64 (wrap64 (wrap64 (b + ((bel O ((base + 64 * i : Nat) : Int)).length : Int)) + (cnt oi 64 : Nat))))).drew → Wk wb gb B ok2 w' (Y ++ rk (bel N ((base + 64 * (i + 1) : Nat) : Int)) S O b) (wrap64 (b + ((bel O ((base + 64 * (i + 1) : Nat) : Int)).length : Int))) ∧ Fr ok2 w6 w') := fun w' e => by
            subst e
            rw [KE.out]
            obtain ⟨v0', v', l', hV⟩ := HW2.out
            rw [← e64] at hV
            have h1 := hV.setB (wrap64 (b + ((bel O ((base + 64 * (i + 1) : Nat) : Int)).length : Int)))
            have hd1 := (Below.refl (wr.setCell ⟨wb, 1, none⟩ (.int .i64 (wrap64 (b + ((bel O ((base + 64 * (i + 1) : Nat) : Int)).length : Int))))).heap.size (wr.setCell ⟨wb, 1, none⟩ (.int .i64 (wrap64 (b + ((bel O ((base + 64 * (i + 1) : Nat) : Int)).length : Int)))))).drew
            exact ⟨⟨v0', v', l', h1.keep hd1⟩, (HF2.out.trans (hV.setW 1 _)).trans (Fr.of_below hd1 h1.lt)⟩
          subst h0
          clear hdn hr hW2 hF2 KV KO KR KE e64
          generalize cnt oi 64 = n at *
          generalize wrap64 (b + ((bel O ((base + 64 * i : Nat) : Int)).length : Int)) = bb at *
          go_wp2_with fail
          go_region_with (go_at_call 49; refine HO1.out.mono ?_; rintro _ _ ⟨rfl, hwe⟩; have hwe := hwe.symm; subst hwe)
          all_goals
            go_wp2_with fail
            go_roundw
            case rel => exact ⟨i + 1, by omega, by go_num, (HFN.out _ rfl).1, (HFN.out _ rfl).2⟩
            case measure => simp [intOf]; omega
        · obtain ⟨hnx, q1, q2, q3, q4⟩ := hr.next h0
          have hrl := hr.lt
          obtain ⟨hin, hone⟩ := KO.out (Lib.ctz 64 r) q2 q3
          have hsk := KV.out t0 (Lib.ctz 64 r) (by omega) q1 q4
          have hrank := KR.out (Lib.ctz 64 r) q2
          have hx1 := H32.out _ hin
          have HT := hid_of (Any7.bits_TrailingZeros64 Tryd.lays29 r hrl wr (fun _ => hW2.tab))
          have HO1 := hid_of (fun n => ones_any (oi % 2 ^ Lib.ctz 64 r) (Nat.lt_of_le_of_lt (Nat.mod_le _ _) hol) (wr.drewN n))
          have HNX := hid_of hnx
          have e2 : bits .and .u64 (r : Int) ((r : Int) - 1) = ((r &&& (r - 1) : Nat) : Int) := by
            rw [show (r : Int) - 1 = ((r - 1 : Nat) : Int) by omega]
            exact bits_and_u64_nat r (r - 1) hrl (by omega)
          have hrb : ((r : Int) != 0) = true := by simp; omega
          have hr1 : (1 : Int) ≤ (r : Int) := by omega
          have HLT := hid_of (Nat.lt_of_le_of_lt (Nat.and_le_right (n := r) (m := r - 1)) (show r - 1 < r by omega))
          have HY : Hid (∀ n, Calls Tryd.prog 36 #[.int .i64 (wrap64 ((base : Int) + (i : Int) * 64 + (Lib.ctz 64 r : Nat) - wrap64 (wrap64 (b + ((bel O ((base + 64 * i : Nat) : Int)).length : Int)) + (cnt (oi % 2 ^ Lib.ctz 64 r) 64 : Nat)))), .pointer (some ⟨gb, 0, none⟩)] (wr.drewN n) fun e w' => e = .returned (.bool true) ∧ Wk wb gb B ok2 w' (Y ++ rk (bel N ((base + 64 * i + (Lib.ctz 64 r + 1) : Nat) : Int)) S O b) (wrap64 (b + ((bel O ((base + 64 * i : Nat) : Int)).length : Int))) ∧ Fr ok2 w6 w') := fun n => by
            rw [show (base : Int) + (i : Int) * 64 + (Lib.ctz 64 r : Nat) = ((base + 64 * i + Lib.ctz 64 r : Nat) : Int) by omega, ← hrank]
            have hk := hW2.keep (below_drewN wr n)
            refine (yield_any wb gb B ok2 (wr.drewN n) _ _ (rank O b ((base + 64 * i + Lib.ctz 64 r : Nat) : Int)) hk ?_).mono ?_
            · have l1 := rk_len (bel N ((base + 64 * i + t0 : Nat) : Int)) S O b
              have l2 := bel_lt hin (m := ((base + 64 * i + t0 : Nat) : Int)) (by omega)
              rw [List.length_append]
              omega
            · rintro e w' ⟨rfl, hW', hF'⟩
              refine ⟨rfl, ?_, (HF2.out.trans (Fr.of_below (below_drewN wr n) hW2.lt)).trans hF'⟩
              rw [hone, hsk, ← List.append_assoc]
              exact hW'
          have e3 := shl1 (Lib.ctz 64 r) q2
          have ep : (2 : Int) ^ Lib.ctz 64 r = ((2 ^ Lib.ctz 64 r : Nat) : Int) := by simp
          have p0 : 0 < 2 ^ Lib.ctz 64 r := Nat.pow_pos (by decide)
          have p1 : 2 ^ Lib.ctz 64 r < 18446744073709551616 := two_pow_lt _ q2
          have e5 : IntKind.u64.wrap ((2 : Int) ^ Lib.ctz 64 r - 1) = (2 : Int) ^ Lib.ctz 64 r - 1 := by
            rw [ep]; exact u64_id (by omega) (by omega)
          have e6 : bits .and .u64 (oi : Int) ((2 : Int) ^ Lib.ctz 64 r - 1) = ((oi % 2 ^ Lib.ctz 64 r : Nat) : Int) := by
            rw [ep, show ((2 ^ Lib.ctz 64 r : Nat) : Int) - 1 = ((2 ^ Lib.ctz 64 r - 1 : Nat) : Int) by omega, bits_and_u64_nat oi _ hol (by omega), Nat.and_two_pow_sub_one_eq_mod]
          clear hnx hone hsk hW2 hF2 hr hin KV KO KR KE q1 q3 q4 hrank ep p0 p1
          generalize Lib.ctz 64 r = t at *
          generalize r &&& (r - 1) = r' at *
          generalize cnt (oi % 2 ^ t) 64 = n at *
          generalize oi % 2 ^ t = om at *
          generalize wrap64 (b + ((bel O ((base + 64 * i : Nat) : Int)).length : Int)) = bb at *
          go_wp2_with (go_at_call 48; refine HT.out.mono ?_; rintro _ _ ⟨rfl, hwe⟩; have hwe := hwe.symm; subst hwe)
          go_quiet ((go_at_call 49; exact Calls.quiet_of_same (HO1.out _)))
          have c02 : (wr.drewN nq).cell? ⟨wb, 0, none⟩ = some (.func (.func 36) #[] #[.pointer (some ⟨gb, 0, none⟩)]) := c0
          have HY2 := hid_of (HY.out nq)
          generalize wr.drewN nq = wq at c02 HY2 ⊢
          clear c0 c1 f1 go2 HW2 HF2 HY HT HO1
          go_wp2_with (refine HY2.out.mono ?_; rintro _ w5 ⟨rfl, hW5, hF5⟩; have HW5 := hid_of hW5; have HF5 := hid_of hF5; clear hW5 hF5 HY2)
          go_roundw
          case rel => exact ⟨r', t + 1, rfl, HNX.out, HW5.out, HF5.out⟩
          case measure => have := HLT.out; simp [intOf]; omega
    · have hk : i = 64 := by omega
      subst hk
      have e1 : bel N ((base + 64 * 64 : Nat) : Int) = N := bel_all (fun x hx => by have := HNR.out.hi x hx; omega)
      have e2 : bel O ((base + 64 * 64 : Nat) : Int) = O := bel_all (fun x hx => by have := HOR.out.hi x hx; have e : spn 0 = 4096 := rfl; rw [e] at this; omega)
      rw [e1, e2] at hWi
      have HE := hid_of (HFIN.out wr hWi hFi)
      clear e1 e2 hWi hFi
      go_wp2_with fail
      go_ret
      exact ⟨rfl, HE.out⟩
end Go.Proofs.Qxb6609120aDoor
