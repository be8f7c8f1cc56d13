/-
  addedWalk.walkList: a list node beside what since and old hold there.
-/
import Derived.Test.Qxb6609120aDoorRank
namespace Go.Proofs.Qxb6609120aDoor
open Go.RowKit
open Plain (Srt Asc asc_ext)
set_option linter.unusedVariables false

/-- The listed slice, opened: from its place on through the loop. -/
theorem Src.open {wb gb B : Nat} {ok : Nat → Prop} {w : World} {Y : List Int} {b : Int} {v0 : Value} {v : Nat → Value} {l : Nat → List Int} {f : Nat} {sv : Value} {S : List Int} (H : Src ok w v l f sv S) (hf : f = 2 ∨ f = 3) (hW : WkV wb gb B ok w Y b v0 v l) :
    ∃ lb lo, Rest lb lo S 0 sv ∧ ∀ wr Y' b' v0', WkV wb gb B ok wr Y' b' v0' v l → Fr ok w wr → At .u32 wr lb lo S := by
  rcases H with ⟨nb, lb, lo, cap, hL, o1, o2, rfl⟩ | ⟨rfl, rfl⟩
  · exact ⟨lb, lo, ⟨_, cap, rfl, hL.cap, fun h => (by cases h), fun _ => rfl⟩, fun wr Y' b' v0' _ hfr => hL.row.move (hfr.block lb o2)⟩
  · have ho := hW.o f hf
    rcases ho.2 with ⟨hv, hn⟩ | ⟨g, cap, cur, hv, _⟩
    · have h0 : l f = [] := List.length_eq_zero_iff.1 hn
      rw [hv, h0]
      exact ⟨0, 0, ⟨none, 0, rfl, Nat.le_refl _, fun _ => rfl, fun h => (by simp at h)⟩, fun wr _ _ _ _ _ => ⟨fun i hi => by simp at hi⟩⟩
    · rw [hv] at ho
      obtain ⟨_, q2, _⟩ := owns_at ho
      refine ⟨g, 0, ⟨some ⟨g, 0, none⟩, cap, by rw [hv]; rfl, by omega, fun h => (by cases h), fun _ => rfl⟩, fun wr Y' b' v0' hW' _ => ?_⟩
      have ho' := hW'.o f hf
      rw [hv] at ho'
      exact (owns_at ho').2.2
theorem Rest.tail {lb lo : Nat} {L : List Int} {i n c : Nat} {a0 : Option Addr} (H : Rest lb lo L i (.slice a0 n c)) (hi : i < L.length) (a : Option Addr) (ha : ¬ c = 1 → a = some ⟨lb, lo + i + 1, none⟩) (hn : a = none → c - 1 = 0) : Rest lb lo L (i + 1) (.slice a (n - 1) (c - 1)) := by
  obtain ⟨a', c', hv, h1, h2, h3⟩ := H.form
  injection hv with e1 e2 e3
  subst e2
  subst e3
  exact Rest.next hi h1 a ha hn
theorem Rest.tail1 {lb lo : Nat} {L : List Int} {i n c : Nat} {a0 : Option Addr} (H : Rest lb lo L i (.slice a0 n c)) (hi : i < L.length) (hc : c = 1) (a : Option Addr) : Rest lb lo L (i + 1) (.slice a (n - 1) 0) := by
  obtain ⟨a', c', hv, h1, h2, h3⟩ := H.form
  injection hv with e1 e2 e3
  subst e2
  subst e3
  exact ⟨a, 0, by rw [Nat.sub_sub], by omega, fun _ => rfl, fun h => by omega⟩
theorem Rest.len {lb lo : Nat} {L : List Int} {i n c : Nat} {a0 : Option Addr} (H : Rest lb lo L i (.slice a0 n c)) : n = L.length - i ∧ n ≤ c ∧ (i < L.length → a0 = some ⟨lb, lo + i, none⟩) := by
  obtain ⟨a', c', hv, h1, h2, h3⟩ := H.form
  injection hv with e1 e2 e3
  subst e1
  subst e2
  subst e3
  exact ⟨rfl, h1, h3⟩

/-- Where the loop stands. -/
structure Lp (wb gb B : Nat) (ok : Nat → Prop) (w2 : World) (Y : List Int) (b : Int) (v : Nat → Value) (l : Nat → List Int) (N S O : List Int) (lb lo lb' lo' : Nat) (s13 s14 : Value) (k : Nat) (wr : World) : Prop where
  out : ∃ a c v0, Rest lb lo S a s13 ∧ Rest lb' lo' O c s14 ∧ Mt N S k a ∧ Mt N O k c ∧ WkV wb gb B ok wr (Y ++ rk (N.take k) S O b) (wrap64 (b + (c : Int))) v0 v l
  fr : Fr ok w2 wr
  le : k ≤ N.length

theorem Src.re {ok : Nat → Prop} {w : World} {v v' : Nat → Value} {l l' : Nat → List Int} {f : Nat} {sv : Value} {S : List Int} (H : Src ok w v l f sv S) (hv : v' f = v f) (hl : l' f = l f) : Src ok w v' l' f sv S := by
  unfold Src
  rw [hv, hl]
  exact H
section
variable {wb gb B : Nat} {ok : Nat → Prop} {w2 wr : World} {Y : List Int} {b : Int} {v0 : Value} {v : Nat → Value} {l : Nat → List Int} {N S O : List Int} {lb lo lb' lo' : Nat} {s13 s14 s13' s14' : Value} {k a c : Nat}
/-- In since and in old. -/
theorem lp_both (R1 : Rest lb lo S (a + 1) s13') (R2 : Rest lb' lo' O (c + 1) s14') (M1 : Mt N S k a) (M2 : Mt N O k c) (W : WkV wb gb B ok wr (Y ++ rk (N.take k) S O b) (wrap64 (b + (c : Int))) v0 v l) (fr : Fr ok w2 wr) (hN : Asc N) (hS : Asc S) (hO : Asc O) (hk : k < N.length) (ha : a < S.length) (ea : S[a] = N[k]) (hc : c < O.length) (ec : O[c] = N[k]) :
    Lp wb gb B ok w2 Y b v l N S O lb lo lb' lo' s13' s14' (k + 1) (wr.setCell ⟨wb, 1, none⟩ (.int .i64 (wrap64 (wrap64 (b + (c : Int)) + 1)))) := by
  refine ⟨⟨a + 1, c + 1, v0, R1, R2, M1.hit hS hk ha ea, M2.hit hO hk hc ec, ?_⟩, fr.trans (W.setW 1 _), hk⟩
  have := W.setB (wrap64 (wrap64 (b + (c : Int)) + 1))
  rw [w64_a1] at this
  rw [rk_take hk, rk_in (by rw [← ea]; exact List.getElem_mem ha), List.append_nil, w64_a1, show ((c + 1 : Nat) : Int) = (c : Int) + 1 by omega]
  exact this
/-- In since alone. -/
theorem lp_since (R1 : Rest lb lo S (a + 1) s13') (R2 : Rest lb' lo' O c s14) (M1 : Mt N S k a) (M2 : Mt N O k c) (W : WkV wb gb B ok wr (Y ++ rk (N.take k) S O b) (wrap64 (b + (c : Int))) v0 v l) (fr : Fr ok w2 wr) (hN : Asc N) (hS : Asc S) (hO : Asc O) (hk : k < N.length) (ha : a < S.length) (ea : S[a] = N[k]) (ec : ∀ hc : c < O.length, O[c] ≠ N[k]) :
    Lp wb gb B ok w2 Y b v l N S O lb lo lb' lo' s13' s14 (k + 1) wr := by
  refine ⟨⟨a + 1, c, v0, R1, R2, M1.hit hS hk ha ea, (M2.miss hN hO hk ec).1, ?_⟩, fr, hk⟩
  rw [rk_take hk, rk_in (by rw [← ea]; exact List.getElem_mem ha), List.append_nil]
  exact W
/-- In neither: the rank is yielded. -/
theorem lp_new {wq : World} (hq : Below wr.heap.size wr wq) (R1 : Rest lb lo S a s13) (R2 : Rest lb' lo' O c s14) (M1 : Mt N S k a) (M2 : Mt N O k c) (W : WkV wb gb B ok wr (Y ++ rk (N.take k) S O b) (wrap64 (b + (c : Int))) v0 v l) (fr : Fr ok w2 wr) (hN : Asc N) (hS : Asc S) (hO : Asc O) (hk : k < N.length) (ea : ∀ ha : a < S.length, S[a] ≠ N[k]) (ec : ∀ hc : c < O.length, O[c] ≠ N[k]) (hY : Y.length + N.length ≤ 1099511627776) :
    Calls Tryd.prog 36 #[.int .i64 (wrap64 (N[k] - wrap64 (b + (c : Int)))), .pointer (some ⟨gb, 0, none⟩)] wq fun e w' => e = .returned (.bool true) ∧ Lp wb gb B ok w2 Y b v l N S O lb lo lb' lo' s13 s14 (k + 1) w' ∧ w'.cell? ⟨wb, 0, none⟩ = some (.func (.func 36) #[] #[.pointer (some ⟨gb, 0, none⟩)]) ∧ w'.cell? ⟨wb, 1, none⟩ = some (.int .i64 (wrap64 (b + (c : Int)))) := by
  obtain ⟨m1, hno⟩ := M1.miss hN hS hk ea
  refine (yieldV_any wb gb B ok wq _ _ (wrap64 (N[k] - wrap64 (b + (c : Int)))) v0 v l (W.keep hq) ?_).mono ?_
  · have := rk_len (N.take k) S O b
    rw [List.length_append]
    rw [List.length_take] at this
    omega
  · rintro e w' ⟨rfl, ⟨v0', W'⟩, fr'⟩
    refine ⟨rfl, ⟨⟨a, c, v0', R1, R2, m1, (M2.miss hN hO hk ec).1, ?_⟩, (fr.trans (Fr.of_below hq W.lt)).trans fr', hk⟩, W'.c0, W'.c1⟩
    rw [rk_take hk, rk_out hno, ← List.append_assoc]
    unfold rank
    rw [M2.count hN hO hk]
    exact W'
theorem lp_end (H : Lp wb gb B ok w2 Y b v l N S O lb lo lb' lo' s13 s14 N.length wr) : Wk wb gb B ok wr (Y ++ rk N S O b) (wrap64 (b + (O.length : Int))) := by
  obtain ⟨⟨a, c, v0, _, _, _, M2, W⟩, _, _⟩ := H
  have := M2.done
  subst this
  rw [List.take_length] at W
  exact ⟨v0, v, l, W⟩
end

theorem lp_measure {k n : Nat} (h : k < n) : n - (intOf (.int .i64 ((k : Int) + 1))).toNat < n - (intOf (.int .i64 (k : Int))).toNat := by simp [intOf]; omega
theorem conv_sub {x y : Int} (h0 : 0 ≤ x) (h1 : x < 4294967296) : IntKind.i64.wrap (IntKind.i64.wrap x - y) = wrap64 (x - y) := by
  have e : IntKind.i64.wrap x = x := by simp only [IntKind.wrap_i64]; omega
  rw [e, IntKind.wrap_i64]
  unfold wrap64
  rfl
theorem len_pos {n A a : Nat} (h : n = A - a) (ha : a < A) : (0 : Int) < (n : Int) ∧ 0 < n ∧ (1 : Int) ≤ (n : Int) := by omega
theorem len_zero {n A a : Nat} (h : n = A - a) (ha : A ≤ a) : n = 0 := by omega
set_option maxHeartbeats 8000000 in
set_option maxRecDepth 10000 in
theorem walkList_any (wb gb B : Nat) (ok : Nat → Prop) (w : World) (Y : List Int) (b : Int) (H : Wk wb gb B ok w Y b) (hbw : Hid (wrap64 b = b)) (h base : Nat) (hh : h ≤ 4) (N S O : List Int) (nb lbn lon capn : Nat) (ps po : Option Addr) (hL : ListN w N nb lbn lon capn) (o1 : ok nb) (o2 : ok lbn) (hN : Ran N base (base + spn h)) (hS : Node ok h w base ps S) (hO : Node ok h w base po O) (hSN : ∀ x ∈ S, x ∈ N) (hOS : ∀ x ∈ O, x ∈ S) (hb : base % 4096 = 0) (hbig : base + spn h ≤ 1099511627776) (h32 : ∀ x ∈ N, x < 4294967296) (hY : Y.length + N.length ≤ 1099511627776) :
    Calls Tryd.prog 46 #[.pointer (some ⟨wb, 0, none⟩), .slice (some ⟨lbn, lon, none⟩) N.length capn, .pointer ps, .pointer po, .int .i64 (h : Nat), .int .i64 (base : Nat)] w fun e w' => e = .returned (.bool true) ∧ Wk wb gb B ok w' (Y ++ rk N S O b) (wrap64 (b + (O.length : Int))) ∧ Fr ok w w' := by
  obtain ⟨v0, v, l, H⟩ := H
  have tok : True := trivial
  have hd := (Below.refl w.heap.size w).drew
  have fr0 : Fr ok w w.drew := Fr.of_below hd H.lt
  have HW : Hid (WkV wb gb B ok w Y b v0 v l) := H
  have HS : Hid (Node ok h w base ps S) := hS
  have HO : Hid (Node ok h w base po O) := hO
  have HL : Hid (ListN w N nb lbn lon capn) := hL
  have hNr := hN
  have hcap := hL.cap
  have hfew := hL.few
  have hC := hid_of (listed_any wb gb B ok w.drew Y b v0 v l 2 (.inl rfl) (H.keep hd) h base hh S ps (hS.fr fr0) hb hbig (fun x hx => h32 x (hSN x hx)))
  clear H hS hO hL hN
  go_enter Tryd.func46, Tryd.ntmps46
  go_wp2_with fail
  go_region_held3 (fun _ => True) (first | trivial)
    (first
      | (have _t := tok
         go_at_call 65
         refine hC.out.mono ?_
         rintro _ w1 ⟨sv, rfl, L1⟩
         obtain ⟨v1, l1, W1, hv1, S1⟩ := L1.out
         have fr1 := L1.fr
         have hD := hid_of (listed_any wb gb B ok w1 Y b v0 v1 l1 3 (.inr rfl) W1 h base hh O po (HO.out.fr (fr0.trans fr1)) hb hbig (fun x hx => h32 x (hSN x (hOS x hx))))
         clear tok _t)
      | (go_at_call 65
         refine hD.out.mono ?_
         rintro _ w2 ⟨ov, rfl, L2⟩))
  have fr2 := L2.fr
  obtain ⟨v2, l2, W2, hv2, S2⟩ := L2.out
  obtain ⟨lb, lo, R1, A1⟩ := ((S1.fr fr2).re (hv2 2 (by decide)).1 (hv2 2 (by decide)).2).open (.inl rfl) W2
  obtain ⟨lb', lo', R2, A2⟩ := S2.open (.inr rfl) W2
  have hSa : Asc S := HS.out.ran.asc
  have hOa : Asc O := HO.out.ran.asc
  have hNa : Asc N := hNr.asc
  have h0 : ∀ x ∈ N, 0 ≤ x := fun x hx => by have := hNr.lo x hx; omega
  have frA : Fr ok w w2 := (fr0.trans fr1).trans fr2
  have hstart : Lp wb gb B ok w2 Y b v2 l2 N S O lb lo lb' lo' sv ov 0 w2 := ⟨⟨0, 0, v0, R1, R2, Mt.start hSN, Mt.start (fun x hx => hSN x (hOS x hx)), by
    rw [List.take_zero, rk_nil, List.append_nil, show b + ((0 : Nat) : Int) = b by omega, hbw.out]
    exact W2⟩, Fr.refl _ _, Nat.zero_le _⟩
  have HA1 := hid_of A1
  have HA2 := hid_of A2
  have HFR := hid_of frA
  have HOS := hid_of hOS
  have hrow : Hid (∀ wr, Fr ok w2 wr → At .u32 wr lbn lon N) := fun wr hf => HL.out.row.move ((frA.trans hf).block lbn o2)
  clear hC hD L1 L2 W1 W2 S1 S2 hv1 hv2 A1 A2 R1 R2 fr1 fr2 fr0 frA HW HS HO HL hNr hSN hOS hbig hd
  go_wp2_with fail
  go_loopw [13, 14, 34] (fun s13 s14 si wr => ∃ k : Nat, si = .int .i64 k ∧ Lp wb gb B ok w2 Y b v2 l2 N S O lb lo lb' lo' s13 s14 k wr) (fun _ _ si _ => N.length - (intOf si).toNat)
  case atStart => exact ⟨0, rfl, hstart⟩
  case round =>
    clear hstart
    obtain ⟨k, rfl, hLp⟩ := hrel
    have hkle := hLp.le
    have HLP := hid_of hLp
    by_cases hlt : k < N.length
    · obtain ⟨⟨a, c, v0', R1, R2, M1, M2, W⟩, frk, _⟩ := hLp
      obtain ⟨a1, q1, e1, r1, r2, r3⟩ := R1.form
      obtain ⟨a2, q2, e2, t1, t2, t3⟩ := R2.form
      subst e1
      subst e2
      obtain ⟨n1, hn1⟩ : ∃ n1, n1 = S.length - a := ⟨_, rfl⟩
      obtain ⟨n2, hn2⟩ : ∃ n2, n2 = O.length - c := ⟨_, rfl⟩
      rw [← hn1] at R1 r1 ⊢
      rw [← hn2] at R2 t1 ⊢
      have HN1 := hid_of hn1
      have HN2 := hid_of hn2
      clear hn1 hn2
      have gx := (hrow.out wr frk).cell k hlt
      have hx0 := h0 N[k] (List.getElem_mem hlt)
      have hx1 := h32 N[k] (List.getElem_mem hlt)
      have hkN : (k : Int) < (N.length : Int) := by omega
      have c0 := W.c0
      have c1 := W.c1
      have f1 := W.fw 1
      have KB : Hid (∀ s13' s14' (ha : a < S.length) (ea : S[a] = N[k]) (hc : c < O.length) (ec : O[c] = N[k]), Rest lb lo S (a + 1) s13' → Rest lb' lo' O (c + 1) s14' → Lp wb gb B ok w2 Y b v2 l2 N S O lb lo lb' lo' s13' s14' (k + 1) (wr.setCell ⟨wb, 1, none⟩ (.int .i64 (wrap64 (wrap64 (b + (c : Int)) + 1))))) := fun s13' s14' ha ea hc ec R1' R2' => lp_both R1' R2' M1 M2 W frk hNa hSa hOa hlt ha ea hc ec
      have KS : Hid (∀ n s13' (ha : a < S.length) (ea : S[a] = N[k]) (ec : ∀ hc : c < O.length, O[c] ≠ N[k]), Rest lb lo S (a + 1) s13' → Lp wb gb B ok w2 Y b v2 l2 N S O lb lo lb' lo' s13' (.slice a2 n2 q2) (k + 1) (wr.drewN n)) := fun n s13' ha ea ec R1' => lp_since R1' R2 M1 M2 (W.keep (below_drewN wr n)) (frk.trans (Fr.of_below (below_drewN wr n) W.lt)) hNa hSa hOa hlt ha ea ec
      have KN : Hid (∀ (ea : ∀ ha : a < S.length, S[a] ≠ N[k]) (ec : ∀ hc : c < O.length, O[c] ≠ N[k]), Calls Tryd.prog 36 #[.int .i64 (wrap64 (N[k] - wrap64 (b + (c : Int)))), .pointer (some ⟨gb, 0, none⟩)] wr.drew fun e w' => e = .returned (.bool true) ∧ Lp wb gb B ok w2 Y b v2 l2 N S O lb lo lb' lo' (.slice a1 n1 q1) (.slice a2 n2 q2) (k + 1) w' ∧ w'.cell? ⟨wb, 0, none⟩ = some (.func (.func 36) #[] #[.pointer (some ⟨gb, 0, none⟩)]) ∧ w'.cell? ⟨wb, 1, none⟩ = some (.int .i64 (wrap64 (b + (c : Int))))) := fun ea ec => lp_new (Below.refl _ _).drew R1 R2 M1 M2 W frk hNa hSa hOa hlt ea ec hY
      have MN : (∀ ha : a < S.length, S[a] ≠ N[k]) → N[k] ∉ S := fun e => (M1.miss hNa hSa hlt e).2
      have hSO : N[k] ∈ O → N[k] ∈ S := fun hx => HOS.out _ hx
      have T1 := hid_of R1
      have T2 := hid_of R2
      have gS : ∀ ha : a < S.length, wr.cell? ⟨lb, lo + a, none⟩ = some (.int .u32 S[a]) := fun ha => (HA1.out wr _ _ _ W frk).cell a ha
      have gO : ∀ hc : c < O.length, wr.cell? ⟨lb', lo' + c, none⟩ = some (.int .u32 O[c]) := fun hc => (HA2.out wr _ _ _ W frk).cell c hc
      clear R1 R2 M1 M2 W frk HLP
      obtain ⟨x, hx⟩ : ∃ x, x = N[k] := ⟨_, rfl⟩
      rw [← hx] at gx hx0 hx1
      have HX := hid_of hx
      clear hrow
      rcases Nat.lt_or_ge a S.length with hsa | hsa
      · by_cases hse : S[a] = N[k]
        · skip
          obtain rfl := r3 hsa
          have gS1 := gS hsa
          rw [hse, ← hx] at gS1
          have HSE := hid_of hse
          obtain ⟨p1, p2, p3⟩ := len_pos HN1.out hsa
          clear hse
          rcases Nat.lt_or_ge c O.length with hoc | hoc
          · by_cases hoe : O[c] = N[k]
            · skip
              obtain rfl := t3 hoc
              have gO1 := gO hoc
              rw [hoe, ← hx] at gO1
              have HOE := hid_of hoe
              obtain ⟨u1, u2, u3⟩ := len_pos HN2.out hoc
              clear hoe
              clear gS gO r3 t3 hx h0 h32 MN hSO
              go_wp2_with fail
              all_goals
                go_roundw
                case rel => exact ⟨k + 1, by go_num, KB.out _ _ hsa HSE.out hoc HOE.out (T1.out.tail hsa _ (by intro h; first | rfl | simp [h] | omega) (by intro h; first | omega | cases h | (split at h <;> cases h))) (T2.out.tail hoc _ (by intro h; first | rfl | simp [h] | omega) (by intro h; first | omega | cases h | (split at h <;> cases h)))⟩
                case measure => exact lp_measure hlt
            · skip
              obtain rfl := t3 hoc
              have gO1 := gO hoc
              have b2 : (O[c] == x) = false := by rw [beq_eq_false_iff_ne, hx]; exact hoe
              have HOE : Hid (∀ hc : c < O.length, O[c] ≠ N[k]) := fun _ => hoe
              obtain ⟨u1, u2, _⟩ := len_pos HN2.out hoc
              generalize O[c] = yO at gO1 b2
              clear hoe
              clear gS gO r3 t3 hx h0 h32 MN hSO
              go_wp2_with fail
              all_goals
                go_quiet (fail)
                go_wp2_with fail
                go_roundw
                case rel => exact ⟨k + 1, by go_num, KS.out _ _ hsa HSE.out HOE.out (by first | exact T1.out.tail1 hsa (by assumption) _ | exact T1.out.tail hsa _ (by intro h; first | rfl | simp [h] | omega) (by intro h; first | omega | cases h | (split at h <;> cases h)))⟩
                case measure => exact lp_measure hlt
          · skip
            have HOE : Hid (∀ hc : c < O.length, O[c] ≠ N[k]) := fun hc => absurd hc (Nat.not_lt.2 hoc)
            have z2 : n2 = 0 := len_zero HN2.out hoc
            subst z2
            clear gS gO r3 t3 hx h0 h32 MN hSO
            go_wp2_with fail
            all_goals
              go_quiet (fail)
              go_wp2_with fail
              go_roundw
              case rel => exact ⟨k + 1, by go_num, KS.out _ _ hsa HSE.out HOE.out (by first | exact T1.out.tail1 hsa (by assumption) _ | exact T1.out.tail hsa _ (by intro h; first | rfl | simp [h] | omega) (by intro h; first | omega | cases h | (split at h <;> cases h)))⟩
              case measure => exact lp_measure hlt
        · have HNS := MN (fun _ => hse)
          obtain rfl := r3 hsa
          have gS1 := gS hsa
          have b1 : (S[a] == x) = false := by rw [beq_eq_false_iff_ne, hx]; exact hse
          have HSE : Hid (∀ ha : a < S.length, S[a] ≠ N[k]) := fun _ => hse
          obtain ⟨p1, p2, _⟩ := len_pos HN1.out hsa
          generalize S[a] = yS at gS1 b1
          clear hse
          rcases Nat.lt_or_ge c O.length with hoc | hoc
          · by_cases hoe : O[c] = N[k]
            · exact absurd (hSO (by rw [← hoe]; exact List.getElem_mem hoc)) HNS
            · skip
              obtain rfl := t3 hoc
              have gO1 := gO hoc
              have b2 : (O[c] == x) = false := by rw [beq_eq_false_iff_ne, hx]; exact hoe
              have HOE : Hid (∀ hc : c < O.length, O[c] ≠ N[k]) := fun _ => hoe
              obtain ⟨u1, u2, _⟩ := len_pos HN2.out hoc
              generalize O[c] = yO at gO1 b2
              clear hoe
              have KN1 := KN.out HSE.out HOE.out
              rw [← hx, ← conv_sub hx0 hx1] at KN1
              have KN2 := hid_of KN1
              clear KN1
              clear gS gO r3 t3 hx h0 h32 MN hSO
              go_wp2_with fail
              go_region_held3 (fun w' => w'.cell? ⟨wb, 0, none⟩ = some (.func (.func 36) #[] #[.pointer (some ⟨gb, 0, none⟩)]) ∧ w'.cell? ⟨wb, 1, none⟩ = some (.int .i64 (wrap64 (b + (c : Int)))))
                (first | exact ⟨c0, c1⟩ | exact ⟨hc5, hd5⟩) ((refine KN2.out.mono ?_; rintro _ w5 ⟨rfl, hL5, hc5, hd5⟩))
              go_wp2_with fail
              go_roundw
              case rel => exact ⟨k + 1, by go_num, hL5⟩
              case measure => exact lp_measure hlt
          · skip
            have HOE : Hid (∀ hc : c < O.length, O[c] ≠ N[k]) := fun hc => absurd hc (Nat.not_lt.2 hoc)
            have z2 : n2 = 0 := len_zero HN2.out hoc
            subst z2
            have KN1 := KN.out HSE.out HOE.out
            rw [← hx, ← conv_sub hx0 hx1] at KN1
            have KN2 := hid_of KN1
            clear KN1
            clear gS gO r3 t3 hx h0 h32 MN hSO
            go_wp2_with fail
            go_region_held3 (fun w' => w'.cell? ⟨wb, 0, none⟩ = some (.func (.func 36) #[] #[.pointer (some ⟨gb, 0, none⟩)]) ∧ w'.cell? ⟨wb, 1, none⟩ = some (.int .i64 (wrap64 (b + (c : Int)))))
              (first | exact ⟨c0, c1⟩ | exact ⟨hc5, hd5⟩) ((refine KN2.out.mono ?_; rintro _ w5 ⟨rfl, hL5, hc5, hd5⟩))
            go_wp2_with fail
            go_roundw
            case rel => exact ⟨k + 1, by go_num, hL5⟩
            case measure => exact lp_measure hlt
      · have HNS := MN (fun ha => absurd ha (Nat.not_lt.2 hsa))
        have HSE : Hid (∀ ha : a < S.length, S[a] ≠ N[k]) := fun ha => absurd ha (Nat.not_lt.2 hsa)
        have z1 : n1 = 0 := len_zero HN1.out hsa
        subst z1
        rcases Nat.lt_or_ge c O.length with hoc | hoc
        · by_cases hoe : O[c] = N[k]
          · exact absurd (hSO (by rw [← hoe]; exact List.getElem_mem hoc)) HNS
          · skip
            obtain rfl := t3 hoc
            have gO1 := gO hoc
            have b2 : (O[c] == x) = false := by rw [beq_eq_false_iff_ne, hx]; exact hoe
            have HOE : Hid (∀ hc : c < O.length, O[c] ≠ N[k]) := fun _ => hoe
            obtain ⟨u1, u2, _⟩ := len_pos HN2.out hoc
            generalize O[c] = yO at gO1 b2
            clear hoe
            have KN1 := KN.out HSE.out HOE.out
            rw [← hx, ← conv_sub hx0 hx1] at KN1
            have KN2 := hid_of KN1
            clear KN1
            clear gS gO r3 t3 hx h0 h32 MN hSO
            go_wp2_with fail
            go_region_held3 (fun w' => w'.cell? ⟨wb, 0, none⟩ = some (.func (.func 36) #[] #[.pointer (some ⟨gb, 0, none⟩)]) ∧ w'.cell? ⟨wb, 1, none⟩ = some (.int .i64 (wrap64 (b + (c : Int)))))
              (first | exact ⟨c0, c1⟩ | exact ⟨hc5, hd5⟩) ((refine KN2.out.mono ?_; rintro _ w5 ⟨rfl, hL5, hc5, hd5⟩))
            go_wp2_with fail
            go_roundw
            case rel => exact ⟨k + 1, by go_num, hL5⟩
            case measure => exact lp_measure hlt
        · skip
          have HOE : Hid (∀ hc : c < O.length, O[c] ≠ N[k]) := fun hc => absurd hc (Nat.not_lt.2 hoc)
          have z2 : n2 = 0 := len_zero HN2.out hoc
          subst z2
          have KN1 := KN.out HSE.out HOE.out
          rw [← hx, ← conv_sub hx0 hx1] at KN1
          have KN2 := hid_of KN1
          clear KN1
          clear gS gO r3 t3 hx h0 h32 MN hSO
          go_wp2_with fail
          go_region_held3 (fun w' => w'.cell? ⟨wb, 0, none⟩ = some (.func (.func 36) #[] #[.pointer (some ⟨gb, 0, none⟩)]) ∧ w'.cell? ⟨wb, 1, none⟩ = some (.int .i64 (wrap64 (b + (c : Int)))))
            (first | exact ⟨c0, c1⟩ | exact ⟨hc5, hd5⟩) ((refine KN2.out.mono ?_; rintro _ w5 ⟨rfl, hL5, hc5, hd5⟩))
          go_wp2_with fail
          go_roundw
          case rel => exact ⟨k + 1, by go_num, hL5⟩
          case measure => exact lp_measure hlt
    · have hk : k = N.length := by omega
      subst hk
      clear hLp
      go_wp2_with fail
      go_ret
      exact ⟨rfl, lp_end HLP.out, HFR.out.trans HLP.out.fr⟩
end Go.Proofs.Qxb6609120aDoor
