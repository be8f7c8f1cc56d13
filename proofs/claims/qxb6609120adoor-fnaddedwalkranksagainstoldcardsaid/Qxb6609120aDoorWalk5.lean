/-
  addedWalk.walk, whole.
-/
import Derived.Test.Qxb6609120aDoorWalk4
namespace Go.Proofs.Qxb6609120aDoor
open Go.RowKit
open Plain (Srt Asc asc_ext)
set_option linter.unusedVariables false

set_option maxHeartbeats 1000000 in
set_option maxRecDepth 10000 in
theorem walk_kids (wb gb B h : Nat) (hh : h ≤ 3) (ih : WalkAt wb gb B h) (ok : Nat → Prop) (base : Nat) (ps po : Option Addr) (N S O Y : List Int) (b : Int) (w : World) (nb kb : Nat) (K : Nat → Option Addr) (L : Nat → List Int) (hc : NCell w nb (some ⟨kb, 0, none⟩) none (.slice none 0 0)) (hK : Kids w kb K) (o1 : ok nb) (o2 : ok kb) (hN : Ran N base (base + spn (h + 1))) (hNd : ∀ i, i < 64 → Node ok h w (base + i * spn h) (K i) (L i)) (hL : ∀ x, x ∈ N ↔ ∃ i, i < 64 ∧ x ∈ L i) (hS : Node ok (h + 1) w base ps S) (hO : Node ok (h + 1) w base po O) (hSN : ∀ x ∈ S, x ∈ N) (hOS : ∀ x ∈ O, x ∈ S) (hb : base % 4096 = 0) (hbig : base + spn (h + 1) ≤ 1099511627776) (h32 : ∀ x ∈ N, x < 4294967296) (hY : Y.length + N.length ≤ 1099511627776) (hbw : Hid (wrap64 b = b)) (H : Wk wb gb B ok w Y b) (hq : (binOp .eql 38 (.pointer (some ⟨nb, 0, none⟩)) (.pointer ps)).run Tryd.prog w = .ok (.bool false) w) :
    Calls Tryd.prog 37 #[.pointer (some ⟨wb, 0, none⟩), .pointer (some ⟨nb, 0, none⟩), .pointer ps, .pointer po, .int .i64 ((h : Int) + 1), .int .i64 (base : Nat)] w fun e w' => e = .returned (.bool true) ∧ Wk wb gb B ok w' (Y ++ rk N S O b) (wrap64 (b + (O.length : Int))) ∧ Fr ok w w' := by
  have c0 := hc.kids
  have c1 := hc.words
  have c2 := hc.list
  have hne := neq_slice w 69 109 none 0 0 Tryd.underlying69
  have hwr := wrap_h h (by omega)
  have hsp := spn_succ h
  have hspan : ∀ w, Calls Tryd.prog 50 #[.int .i64 (h : Int)] w fun e w' => e = .returned (.int .i64 ((spn h : Nat) : Int)) ∧ w' = w := span_any h (by omega)
  have HSTEP := hid_of (fun i wq hi hW hF => kid_step (b := b) (i := i) (wq := wq) ih hN hNd hL hS hO hSN hOS hb hbig h32 hY hi hW hF)
  have HK : Hid (∀ i wr, i < 64 → Fr ok w wr → wr.cell? ⟨kb, i, none⟩ = some (.pointer (K i))) := fun i wr hi hF => hK.move (hF.block kb o2) i hi
  have hstart : Wk wb gb B ok w (Y ++ rk (bel N ((base + 0 * spn h : Nat) : Int)) S O b) (wrap64 (b + ((bel O ((base + 0 * spn h : Nat) : Int)).length : Int))) := by
    rw [bel_none (fun x hx => by have := hN.lo x hx; omega), bel_none (fun x hx => by have := hO.ran.lo x hx; omega), rk_nil, List.append_nil, show b + (([] : List Int).length : Int) = b by simp, hbw.out]
    exact H
  have HFIN : Hid (∀ wr, Wk wb gb B ok wr (Y ++ rk (bel N ((base + 64 * spn h : Nat) : Int)) S O b) (wrap64 (b + ((bel O ((base + 64 * spn h : Nat) : Int)).length : Int))) → Wk wb gb B ok wr (Y ++ rk N S O b) (wrap64 (b + (O.length : Int)))) := fun wr h => by
    rwa [bel_all (fun x hx => by have := hN.hi x hx; omega), bel_all (fun x hx => by have := hO.ran.hi x hx; omega)] at h
  have hmul : ∀ i : Nat, i < 64 → i * spn h ≤ 64 * spn h := fun i hi => Nat.mul_le_mul_right _ (by omega)
  have hb64 : base + 64 * spn h ≤ 1099511627776 := by omega
  clear hN hNd hL hS hO hSN hOS hbig h32 hY H hc hK hsp ih hbw
  generalize spn h = sp at *
  go_enter Tryd.func37, Tryd.ntmps37
  go_wp2_with (go_at_call 50; refine (hspan _).mono ?_; rintro _ _ ⟨rfl, hwe⟩; have hwe := hwe.symm; subst hwe)
  go_loopw [133] (fun si wr => ∃ i : Nat, i ≤ 64 ∧ si = .int .i64 i ∧ Wk wb gb B ok wr (Y ++ rk (bel N ((base + i * sp : Nat) : Int)) S O b) (wrap64 (b + ((bel O ((base + i * sp : Nat) : Int)).length : Int))) ∧ Fr ok w wr) (fun si _ => 64 - (intOf si).toNat)
  case atStart => exact ⟨0, by omega, rfl, hstart, Fr.refl _ _⟩
  case round =>
    clear c0 c1 c2 hne hq hstart
    obtain ⟨i, hi, rfl, hWi, hFi⟩ := hrel
    by_cases hlt : i < 64
    · have gc := HK.out i wr hlt hFi
      have hm := hmul i hlt
      have hii : ((i : Nat) : Int) < 64 := by omega
      obtain ⟨st, hst⟩ : ∃ st, st = i * sp := ⟨_, rfl⟩
      have e1 : (i : Int) * (sp : Int) = (st : Int) := by rw [hst]; simp
      have hs1 : st ≤ 64 * sp := by omega
      have HI := hid_of hWi
      have HF := hid_of hFi
      have HST := hid_of hst
      clear hWi hFi hst hm hmul
      go_wp2_with fail
      go_quiet (fail)
      have HC := HSTEP.out i (wr.drewN nq) hlt (HI.out.keep (below_drewN wr nq)) (HF.out.trans (Fr.of_below (below_drewN wr nq) HI.out.lt))
      generalize wr.drewN nq = wq at HC ⊢
      rw [← HST.out, show ((base + st : Nat) : Int) = (base : Int) + (st : Int) by omega] at HC
      have HC1 := hid_of HC
      clear HC HI HF gc
      have tok : True := trivial
      go_wp2_with (first
        | (have _t := tok
           go_at_call 51
           refine HC1.out.mono ?_
           rintro _ w1 ⟨p1, rfl, hC2⟩
           have HC2 := hid_of hC2
           clear hC2 HC1 tok _t)
        | (go_at_call 51
           refine HC2.out.mono ?_
           rintro _ w2 ⟨p2, rfl, hC3⟩
           have HC3 := hid_of hC3
           clear hC3 HC2)
        | (go_at_call 37
           refine HC3.out.mono ?_
           rintro _ w3 ⟨rfl, hW3, hF3⟩
           have HW3 := hid_of hW3
           have HF3 := hid_of hF3
           clear hW3 hF3 HC3))
      go_roundw
      case rel => exact ⟨i + 1, by omega, by go_num, HW3.out, HF3.out⟩
      case measure => simp [intOf]; omega
    · have hk : i = 64 := by omega
      subst hk
      have HE := hid_of (HFIN.out wr hWi)
      clear hWi
      go_wp2_with fail
      go_ret
      exact ⟨rfl, HE.out, hFi⟩

theorem eqIn_nn {P : Program} (w : World) (d : Nat) {t te : TypeId} (hp : P.underlying t = some (.pointer te)) :
    (Op.equalIn (d + 1) t (.pointer none) (.pointer none)).run P w = .ok true w := by
  simp [Op.equalIn, run_underlying hp]
/-- n and since are one node. -/
theorem walk_same {wb gb B h : Nat} {ok : Nat → Prop} {base : Nat} {pn po : Option Addr} {N S O Y : List Int} {b : Int} {w : World} (hN : Node ok h w base pn N) (hS : Node ok h w base pn S) (hO : Node ok h w base po O) (hb : base % 4096 = 0) (hl : O.length ≤ 1099511627776) (H : Wk wb gb B ok w Y b) :
    Calls Tryd.prog 37 #[.pointer (some ⟨wb, 0, none⟩), .pointer pn, .pointer pn, .pointer po, .int .i64 (h : Nat), .int .i64 (base : Nat)] w fun e w' => e = .returned (.bool true) ∧ Wk wb gb B ok w' (Y ++ rk N S O b) (wrap64 (b + (O.length : Int))) ∧ Fr ok w w' := by
  have e := hN.det hS
  subst e
  rw [rk_none (fun x hx => hx), List.append_nil]
  obtain ⟨j, hj, hz⟩ := info88s
  refine walk_skip wb gb B ok w Y b H h _ _ base O pn pn po hO true ?_ (.inl rfl) hb hl
  rcases hN.obj with rfl | ⟨nb, cs, t, rfl, _⟩
  · simp only [binOp]
    simp [Op.equal, Op.maxDepth, eqIn_nn w 9999 Tryd.underlying38]
  · exact eql_same w _ Tryd.underlying38 hj
theorem eqIn_ns {P : Program} (w : World) (d : Nat) {t te : TypeId} (a : Addr) (hp : P.underlying t = some (.pointer te)) :
    (Op.equalIn (d + 1) t (.pointer none) (.pointer (some a))).run P w = .ok false w := by
  simp [Op.equalIn, run_underlying hp]
/-- n is nil. -/
theorem walk_none {wb gb B h : Nat} {ok : Nat → Prop} {base : Nat} {ps po : Option Addr} {S O Y : List Int} {b : Int} {w : World} (hS : Node ok h w base ps S) (hO : Node ok h w base po O) (hne : ps ≠ none) (hb : base % 4096 = 0) (hl : O.length ≤ 1099511627776) (H : Wk wb gb B ok w Y b) :
    Calls Tryd.prog 37 #[.pointer (some ⟨wb, 0, none⟩), .pointer none, .pointer ps, .pointer po, .int .i64 (h : Nat), .int .i64 (base : Nat)] w fun e w' => e = .returned (.bool true) ∧ Wk wb gb B ok w' (Y ++ rk [] S O b) (wrap64 (b + (O.length : Int))) ∧ Fr ok w w' := by
  rw [rk_nil, List.append_nil]
  refine walk_skip wb gb B ok w Y b H h _ _ base O none ps po hO false ?_ (.inr ⟨rfl, rfl⟩) hb hl
  rcases hS.obj with rfl | ⟨nb, cs, t, rfl, _⟩
  · exact absurd rfl hne
  · simp only [binOp]
    simp [Op.equal, Op.maxDepth, eqIn_ns w 9999 _ Tryd.underlying38]
/-- walk(n, since, old, height, base). -/
theorem walk_any (wb gb B : Nat) : ∀ h, h ≤ 4 → WalkAt wb gb B h
  | 0, _ => fun ok base pn ps po N S O Y b w hN hS hO hSN hOS hb hbig h32 hY hbw H => by
    have hOl : O.length ≤ 1099511627776 := by
      have := asc_len hO.ran.asc (fun x hx => hO.ran.lo x hx) (fun x hx => hO.ran.hi x hx) (by omega)
      omega
    by_cases hps : ps = pn
    · subst hps
      exact walk_same hN hS hO hb hOl H
    · rcases hN.2 with ⟨rfl, rfl⟩ | ⟨nb, lb, lo, lc, rfl, hl, o1, o2⟩ | ⟨nb, nw, W, rfl, hw, o1, o2⟩
      · exact walk_none hS hO hps hb hOl H
      · exact walk_list wb gb B ok w Y b H hbw 0 base (by omega) N S O nb lb lo lc ps po hl o1 o2 hN.ran hS hO hSN hOS hb hbig h32 hY (node_ne hl.cells hS hps)
      · exact walk_words wb gb B ok w Y b _ H hbw base N S O nb nw W ps po hw o1 o2 hN.ran hS hO hSN hOS hb hbig h32 hY (node_ne hw.cells hS hps)
  | h + 1, hh => fun ok base pn ps po N S O Y b w hN hS hO hSN hOS hb hbig h32 hY hbw H => by
    have hOl : O.length ≤ 1099511627776 := by
      have := asc_len hO.ran.asc (fun x hx => hO.ran.lo x hx) (fun x hx => hO.ran.hi x hx) (by omega)
      omega
    by_cases hps : ps = pn
    · subst hps
      exact walk_same hN hS hO hb hOl H
    · rcases hN.2 with ⟨rfl, rfl⟩ | ⟨nb, lb, lo, lc, rfl, hl, o1, o2⟩ | ⟨nb, kb, K, L, rfl, hc, hk, hNd, hL, o1, o2⟩
      · exact walk_none hS hO hps hb hOl H
      · exact walk_list wb gb B ok w Y b H hbw (h + 1) base hh N S O nb lb lo lc ps po hl o1 o2 hN.ran hS hO hSN hOS hb hbig h32 hY (node_ne hl.cells hS hps)
      · exact walk_kids wb gb B h (by omega) (walk_any wb gb B h (by omega)) ok base ps po N S O Y b w nb kb K L hc hk o1 o2 hN.ran hNd hL hS hO hSN hOS hb hbig h32 hY hbw H (node_ne hc hS hps)
end Go.Proofs.Qxb6609120aDoor
