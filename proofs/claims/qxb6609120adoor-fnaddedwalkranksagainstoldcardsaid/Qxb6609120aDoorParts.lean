/-
  eachPart: the runs of ordinals that lie in one child's span.
-/
import Derived.Test.Qxb6609120aDoorUnion
import Derived.Test.Qxb6609120aDoorSearch
namespace Go.Proofs.Qxb6609120aDoor
open Go.RowKit
open Plain (Srt Asc)
set_option linter.unusedVariables false

/-- The run of O from m up to n lies in child i's span; what lies before it is below that span. -/
structure Part (O : List Int) (base sub m n i : Nat) : Prop where
  lt : m < n
  le : n ≤ O.length
  lo : ∀ x ∈ (O.drop m).take (n - m), ((base + i * sub : Nat) : Int) ≤ x
  hi : ∀ x ∈ (O.drop m).take (n - m), x < ((base + i * sub + sub : Nat) : Int)
  before : ∀ x ∈ O.take m, x < ((base + i * sub : Nat) : Int)
/-- Between two runs. -/
structure Gap (O : List Int) (base sub m : Nat) : Prop where
  le : m ≤ O.length
  mid : ∃ q : Nat, (∀ x ∈ O.take m, x < ((base + q * sub : Nat) : Int)) ∧ (∀ x ∈ O.drop m, ((base + q * sub : Nat) : Int) ≤ x)
theorem Gap.start {O : List Int} {base sub : Nat} (h : ∀ x ∈ O, (base : Int) ≤ x) : Gap O base sub 0 :=
  ⟨Nat.zero_le _, 0, by simp, by simpa using h⟩
theorem Gap.part {O : List Int} {base sub m i e : Nat} (h : Gap O base sub m) (hs : Srt O) (hm : m < O.length) (hb : (base : Int) ≤ O[m]) (hsub : 0 < sub) (hi : i = (O[m].toNat - base) / sub)
    (he : Cut (O.drop m) ((base + i * sub + sub : Nat) : Int) e) : 0 < e ∧ Part O base sub m (m + e) i ∧ Gap O base sub (m + e) := by
  obtain ⟨q, hq1, hq2⟩ := h.mid
  have h0 : 0 < O.length - m := by omega
  have hlen : (O.drop m).length = O.length - m := by simp
  have hd : i * sub ≤ O[m].toNat - base := by rw [hi]; exact Nat.div_mul_le_self _ _
  have hd2 : O[m].toNat - base < i * sub + sub := by
    have h1 := Nat.mod_lt (O[m].toNat - base) hsub
    have h2 := Nat.div_add_mod (O[m].toNat - base) sub
    rw [← hi, Nat.mul_comm] at h2; omega
  have hO1 : ((base + i * sub : Nat) : Int) ≤ O[m] := by omega
  have hO2 : O[m] < ((base + i * sub + sub : Nat) : Int) := by omega
  have hmem : O[m] ∈ O.drop m := by
    rw [List.drop_eq_getElem_cons hm]; exact List.mem_cons_self
  have hqi : q ≤ i := by
    have h1 := hq2 _ hmem
    have h2 : q * sub < (i + 1) * sub := by rw [Nat.add_mul, Nat.one_mul]; omega
    have h3 := Nat.lt_of_mul_lt_mul_right h2
    omega
  have hqs : q * sub ≤ i * sub := Nat.mul_le_mul_right _ hqi
  have hall : ∀ x ∈ O.drop m, ((base + i * sub : Nat) : Int) ≤ x := by
    intro x hx
    obtain ⟨t, ht, rfl⟩ := List.getElem_of_mem hx
    rw [List.getElem_drop]
    by_cases e0 : t = 0
    · subst e0; simpa using hO1
    · have := List.pairwise_iff_getElem.1 hs m (m + t) hm (by omega) (by omega); omega
  have he0 : 0 < e := by
    by_cases hz : e = 0
    · have := he.above 0 (by omega) (by omega)
      simp at this; omega
    · omega
  have hel := he.le
  refine ⟨he0, ⟨by omega, by omega, ?_, ?_, ?_⟩, ⟨by omega, i + 1, ?_, ?_⟩⟩
  · intro x hx; exact hall x (List.mem_of_mem_take hx)
  · intro x hx
    rw [Nat.add_sub_cancel_left] at hx
    obtain ⟨t, ht, rfl⟩ := List.getElem_of_mem hx
    simp at ht
    have := he.below t (by omega) (by omega)
    simpa using this
  · intro x hx; have := hq1 x hx; omega
  · intro x hx
    have e1 : (i + 1) * sub = i * sub + sub := by rw [Nat.add_mul, Nat.one_mul]
    obtain ⟨t, ht, rfl⟩ := List.getElem_of_mem hx
    simp at ht
    by_cases htm : t < m
    · have hm' : O[t] ∈ O.take m := by
        rw [List.mem_take_iff_getElem]; exact ⟨t, by omega, rfl⟩
      have := hq1 _ hm'
      rw [List.getElem_take, e1]; omega
    · have := he.below (t - m) (by omega) (by omega)
      simp only [List.getElem_drop, show m + (t - m) = t by omega] at this
      rw [List.getElem_take, e1]; omega
  · intro x hx
    have e1 : (i + 1) * sub = i * sub + sub := by rw [Nat.add_mul, Nat.one_mul]
    obtain ⟨t, ht, rfl⟩ := List.getElem_of_mem hx
    simp at ht
    have := he.above (e + t) (by omega) (by omega)
    simp only [List.getElem_drop] at this ⊢
    rw [e1, ← Nat.add_assoc]
    simpa [Nat.add_assoc] using this

set_option maxRecDepth 10000 in
theorem eachPart64_any (g : FuncId) (eg : ∀ args w, (callFunc g args).run Tryd.prog w = .ok (.enter g args) w) (c1 c2 : Value) (ob oo ocap : Nat) (O : List Int) (base sub : Nat) (Inv : Nat → World → Prop) (w : World)
    (hsub : 0 < sub) (hbig : base + 64 * sub ≤ 1099511627776) (hs : Srt O) (hlo : ∀ x ∈ O, (base : Int) ≤ x) (hhi : ∀ x ∈ O, x < ((base + 64 * sub : Nat) : Int)) (hl : O.length ≤ 1048576) (hoc : O.length ≤ ocap)
    (hat : ∀ m w, Inv m w → At .i64 w ob oo O) (h0 : Inv 0 w)
    (hstep : ∀ m n i cp w, i < 64 → Part O base sub m n i → n - m ≤ cp → Inv m w → Calls Tryd.prog g #[.int .i64 (i : Nat), .int .i64 ((base + i * sub : Nat) : Int), .slice (some ⟨ob, oo + m, none⟩) (n - m) cp, c1, c2] w fun e w' => e = .returned (.tuple #[]) ∧ Inv n w') :
    Calls Tryd.prog 77 #[.slice (some ⟨ob, oo, none⟩) O.length ocap, .int .i64 (base : Nat), .int .i64 (sub : Nat), .func (.func g) #[] #[c1, c2]] w fun e w' => e = .returned (.tuple #[]) ∧ Inv O.length w' := by
  have hgen : ∀ v, Rest ob oo O 0 v → Calls Tryd.prog 77 #[v, .int .i64 (base : Nat), .int .i64 (sub : Nat), .func (.func g) #[] #[c1, c2]] w fun e w' => e = .returned (.tuple #[]) ∧ Inv O.length w' := by
    intro v hv
    go_enter Tryd.func77, Tryd.ntmps77
    go_wp2_with fail
    go_loopw [0] (fun vs wr => ∃ m, Rest ob oo O m vs ∧ Gap O base sub m ∧ Inv m wr) (fun vs _ => slLen vs)
    case atStart => exact ⟨0, hv, Gap.start hlo, h0⟩
    case round =>
      clear hv
      obtain ⟨m, hR, hG, hI⟩ := hrel
      obtain ⟨a, c, rfl, r1, r2, r3⟩ := hR.form
      have HG : Hid (Gap O base sub m) := hG
      have HI : Hid (Inv m wr) := hI
      have hmle := hG.le
      clear hR hG hI
      by_cases hlt : m < O.length
      · obtain rfl := r3 hlt
        have gn : (0 : Int) < ((O.length - m : Nat) : Int) := by omega
        have gn' : 0 < O.length - m := by omega
        have gc := (hat m wr HI.out).cell m hlt
        have hx0 := hlo O[m] (List.getElem_mem hlt)
        have hx1 := hhi O[m] (List.getElem_mem hlt)
        have HP := fun i e hi he => HG.out.part (i := i) (e := e) hs hlt hx0 hsub hi he
        have HP' : Hid (∀ (i e : Nat), i = (O[m].toNat - base) / sub → Cut (O.drop m) ((base + i * sub + sub : Nat) : Int) e → 0 < e ∧ Part O base sub m (m + e) i ∧ Gap O base sub (m + e)) := HP
        clear HP r2 r3
        generalize O[m] = x at *
        obtain ⟨x, rfl⟩ := Int.eq_ofNat_of_zero_le (show 0 ≤ x by omega)
        obtain ⟨i, hi⟩ : ∃ i, i = (x - base) / sub := ⟨_, rfl⟩
        have hi64 : i < 64 := by rw [hi]; exact (Nat.div_lt_iff_lt_mul hsub).2 (by omega)
        have e1 : Int.tdiv ((x : Int) - (base : Int)) (sub : Int) = (i : Int) := by
          rw [show (x : Int) - (base : Int) = ((x - base : Nat) : Int) by omega, ← Int.ofNat_tdiv, ← hi]
        obtain ⟨st, hst⟩ : ∃ st, st = i * sub := ⟨_, rfl⟩
        have hstl : st ≤ 64 * sub := by rw [hst]; exact Nat.mul_le_mul_right _ (by omega)
        have e2 : (i : Int) * (sub : Int) = (st : Int) := by rw [hst]; simp
        have HP2 : Hid (∀ e : Nat, Cut (O.drop m) ((base + i * sub + sub : Nat) : Int) e → 0 < e ∧ Part O base sub m (m + e) i ∧ Gap O base sub (m + e)) := fun e he => HP'.out i e (by simpa using hi) he
        have HST : Hid (st = i * sub) := hst
        have hdl : (O.drop m).length = O.length - m := by simp
        have hse : Calls Tryd.prog 99 #[.slice (some ⟨ob, oo + m, none⟩) (O.length - m) c, .int .i64 ((base : Int) + (st : Int) + (sub : Int))] wr fun e w' => ∃ i : Nat, e = .returned (.int .i64 (i : Int)) ∧ Cut (O.drop m) (((base + st + sub : Nat) : Int)) i ∧ w' = wr := by
          have := search64_any ob (oo + m) c (O.drop m) ((base + st + sub : Nat) : Int) wr ((hat m wr HI.out).drop m) (List.Pairwise.sublist (List.drop_sublist m O) hs) (by omega)
          rw [hdl] at this
          exact this
        have HSE : Hid (Calls Tryd.prog 99 #[.slice (some ⟨ob, oo + m, none⟩) (O.length - m) c, .int .i64 ((base : Int) + (st : Int) + (sub : Int))] wr fun e w' => ∃ i : Nat, e = .returned (.int .i64 (i : Int)) ∧ Cut (O.drop m) (((base + st + sub : Nat) : Int)) i ∧ w' = wr) := hse
        clear hse HP' hst hi hdl
        have HX : Hid (∀ e, e ≤ c → Part O base sub m (m + e) i → Calls Tryd.prog g #[.int .i64 (i : Nat), .int .i64 ((base : Int) + (st : Int)), .slice (some ⟨ob, oo + m, none⟩) e c, c1, c2] wr fun e' w' => e' = .returned (.tuple #[]) ∧ Inv (m + e) w') := fun e hec hp => by
          have := hstep m (m + e) i c wr hi64 hp (by omega) HI.out
          rw [Nat.add_sub_cancel_left, ← HST.out] at this
          exact this
        clear hstep hat hlo hhi h0
        go_wp2_with (first
          | (go_at_call 99
             refine HSE.out.mono ?_
             rintro _ _ ⟨e, rfl, hC, rfl⟩
             have hel : e ≤ O.length - m := by have := hC.le; rwa [List.length_drop] at this
             rw [HST.out] at hC
             obtain ⟨he0, hpart, hgap⟩ := HP2.out e hC
             have hec : e ≤ c := by omega
             have HX2 := HX.out e hec hpart
             have HX3 : Hid (Calls Tryd.prog g #[.int .i64 (i : Nat), .int .i64 ((base : Int) + (st : Int)), .slice (some ⟨ob, oo + m, none⟩) e c, c1, c2] _ fun e' w' => e' = .returned (.tuple #[]) ∧ Inv (m + e) w') := HX2
             have HGP : Hid (Gap O base sub (m + e)) := hgap
             have hen : (e : Int) ≤ ((O.length - m : Nat) : Int) := by omega
             clear hC HX2 hpart hgap HP2 HX HSE)
          | (refine HX3.out.mono ?_
             rintro _ w5 ⟨rfl, hI5⟩
             have HI5 : Hid (Inv (m + e) w5) := hI5
             clear hI5 HX3))
        all_goals
          go_roundw
          case rel => exact ⟨m + e, ⟨_, c - e, by rw [show O.length - (m + e) = O.length - m - e by omega], by omega, by intro h; first | omega | cases h | (split at h <;> cases h), fun h => by first | rfl | (rw [if_neg (by omega), Nat.add_assoc]) | (rw [Nat.add_assoc])⟩, HGP.out, HI5.out⟩
          case measure => simp [slLen]; omega
      · have hz : O.length - m = 0 := by omega
        rw [hz] at *
        go_wp2_with (fail)
        go_end0
        have : m = O.length := by omega
        exact ⟨rfl, this ▸ HI.out⟩
  exact hgen _ ⟨_, _, rfl, by omega, by simp, by simp⟩
set_option maxRecDepth 10000 in
theorem eachPart32_any (g : FuncId) (eg : ∀ args w, (callFunc g args).run Tryd.prog w = .ok (.enter g args) w) (c1 c2 : Value) (ob oo ocap : Nat) (O : List Int) (base sub : Nat) (Inv : Nat → World → Prop) (w : World)
    (hsub : 0 < sub) (hbig : base + 64 * sub ≤ 1099511627776) (hs : Srt O) (hlo : ∀ x ∈ O, (base : Int) ≤ x) (hhi : ∀ x ∈ O, x < ((base + 64 * sub : Nat) : Int)) (hr : ∀ x ∈ O, 0 ≤ x ∧ x < 4294967296) (hl : O.length ≤ 1048576) (hoc : O.length ≤ ocap)
    (hat : ∀ m w, Inv m w → At .u32 w ob oo O) (h0 : Inv 0 w)
    (hstep : ∀ m n i cp w, i < 64 → Part O base sub m n i → n - m ≤ cp → Inv m w → Calls Tryd.prog g #[.int .i64 (i : Nat), .int .i64 ((base + i * sub : Nat) : Int), .slice (some ⟨ob, oo + m, none⟩) (n - m) cp, c1, c2] w fun e w' => e = .returned (.tuple #[]) ∧ Inv n w') :
    Calls Tryd.prog 74 #[.slice (some ⟨ob, oo, none⟩) O.length ocap, .int .i64 (base : Nat), .int .i64 (sub : Nat), .func (.func g) #[] #[c1, c2]] w fun e w' => e = .returned (.tuple #[]) ∧ Inv O.length w' := by
  have hgen : ∀ v, Rest ob oo O 0 v → Calls Tryd.prog 74 #[v, .int .i64 (base : Nat), .int .i64 (sub : Nat), .func (.func g) #[] #[c1, c2]] w fun e w' => e = .returned (.tuple #[]) ∧ Inv O.length w' := by
    intro v hv
    go_enter Tryd.func74, Tryd.ntmps74
    go_wp2_with fail
    go_loopw [0] (fun vs wr => ∃ m, Rest ob oo O m vs ∧ Gap O base sub m ∧ Inv m wr) (fun vs _ => slLen vs)
    case atStart => exact ⟨0, hv, Gap.start hlo, h0⟩
    case round =>
      clear hv
      obtain ⟨m, hR, hG, hI⟩ := hrel
      obtain ⟨a, c, rfl, r1, r2, r3⟩ := hR.form
      have HG : Hid (Gap O base sub m) := hG
      have HI : Hid (Inv m wr) := hI
      have hmle := hG.le
      clear hR hG hI
      by_cases hlt : m < O.length
      · obtain rfl := r3 hlt
        have gn : (0 : Int) < ((O.length - m : Nat) : Int) := by omega
        have gn' : 0 < O.length - m := by omega
        have gc := (hat m wr HI.out).cell m hlt
        have hx0 := hlo O[m] (List.getElem_mem hlt)
        have hx1 := hhi O[m] (List.getElem_mem hlt)
        have hx2 := (hr O[m] (List.getElem_mem hlt)).2
        have HP := fun i e hi he => HG.out.part (i := i) (e := e) hs hlt hx0 hsub hi he
        have HP' : Hid (∀ (i e : Nat), i = (O[m].toNat - base) / sub → Cut (O.drop m) ((base + i * sub + sub : Nat) : Int) e → 0 < e ∧ Part O base sub m (m + e) i ∧ Gap O base sub (m + e)) := HP
        clear HP r2 r3
        generalize O[m] = x at *
        obtain ⟨x, rfl⟩ := Int.eq_ofNat_of_zero_le (show 0 ≤ x by omega)
        obtain ⟨i, hi⟩ : ∃ i, i = (x - base) / sub := ⟨_, rfl⟩
        have hi64 : i < 64 := by rw [hi]; exact (Nat.div_lt_iff_lt_mul hsub).2 (by omega)
        have e1 : Int.tdiv ((x : Int) - (base : Int)) (sub : Int) = (i : Int) := by
          rw [show (x : Int) - (base : Int) = ((x - base : Nat) : Int) by omega, ← Int.ofNat_tdiv, ← hi]
        obtain ⟨st, hst⟩ : ∃ st, st = i * sub := ⟨_, rfl⟩
        have hstl : st ≤ 64 * sub := by rw [hst]; exact Nat.mul_le_mul_right _ (by omega)
        have e2 : (i : Int) * (sub : Int) = (st : Int) := by rw [hst]; simp
        have HP2 : Hid (∀ e : Nat, Cut (O.drop m) ((base + i * sub + sub : Nat) : Int) e → 0 < e ∧ Part O base sub m (m + e) i ∧ Gap O base sub (m + e)) := fun e he => HP'.out i e (by simpa using hi) he
        have HST : Hid (st = i * sub) := hst
        have hdl : (O.drop m).length = O.length - m := by simp
        have hse : Calls Tryd.prog 67 #[.slice (some ⟨ob, oo + m, none⟩) (O.length - m) c, .int .i64 ((base : Int) + (st : Int) + (sub : Int))] wr fun e w' => ∃ i : Nat, e = .returned (.int .i64 (i : Int)) ∧ Cut (O.drop m) (((base + st + sub : Nat) : Int)) i ∧ w' = wr := by
          have := search32_any ob (oo + m) c (O.drop m) ((base + st + sub : Nat) : Int) wr ((hat m wr HI.out).drop m) (List.Pairwise.sublist (List.drop_sublist m O) hs) (fun x hx => hr x (List.mem_of_mem_drop hx)) (by omega)
          rw [hdl] at this
          exact this
        have HSE : Hid (Calls Tryd.prog 67 #[.slice (some ⟨ob, oo + m, none⟩) (O.length - m) c, .int .i64 ((base : Int) + (st : Int) + (sub : Int))] wr fun e w' => ∃ i : Nat, e = .returned (.int .i64 (i : Int)) ∧ Cut (O.drop m) (((base + st + sub : Nat) : Int)) i ∧ w' = wr) := hse
        clear hse HP' hst hi hdl
        have HX : Hid (∀ e, e ≤ c → Part O base sub m (m + e) i → Calls Tryd.prog g #[.int .i64 (i : Nat), .int .i64 ((base : Int) + (st : Int)), .slice (some ⟨ob, oo + m, none⟩) e c, c1, c2] wr fun e' w' => e' = .returned (.tuple #[]) ∧ Inv (m + e) w') := fun e hec hp => by
          have := hstep m (m + e) i c wr hi64 hp (by omega) HI.out
          rw [Nat.add_sub_cancel_left, ← HST.out] at this
          exact this
        clear hstep hat hlo hhi h0 hr
        go_wp2_with (first
          | (go_at_call 67
             refine HSE.out.mono ?_
             rintro _ _ ⟨e, rfl, hC, rfl⟩
             have hel : e ≤ O.length - m := by have := hC.le; rwa [List.length_drop] at this
             rw [HST.out] at hC
             obtain ⟨he0, hpart, hgap⟩ := HP2.out e hC
             have hec : e ≤ c := by omega
             have HX2 := HX.out e hec hpart
             have HX3 : Hid (Calls Tryd.prog g #[.int .i64 (i : Nat), .int .i64 ((base : Int) + (st : Int)), .slice (some ⟨ob, oo + m, none⟩) e c, c1, c2] _ fun e' w' => e' = .returned (.tuple #[]) ∧ Inv (m + e) w') := HX2
             have HGP : Hid (Gap O base sub (m + e)) := hgap
             have hen : (e : Int) ≤ ((O.length - m : Nat) : Int) := by omega
             clear hC HX2 hpart hgap HP2 HX HSE)
          | (refine HX3.out.mono ?_
             rintro _ w5 ⟨rfl, hI5⟩
             have HI5 : Hid (Inv (m + e) w5) := hI5
             clear hI5 HX3))
        all_goals
          go_roundw
          case rel => exact ⟨m + e, ⟨_, c - e, by rw [show O.length - (m + e) = O.length - m - e by omega], by omega, by intro h; first | omega | cases h | (split at h <;> cases h), fun h => by first | rfl | (rw [if_neg (by omega), Nat.add_assoc]) | (rw [Nat.add_assoc])⟩, HGP.out, HI5.out⟩
          case measure => simp [slLen]; omega
      · have hz : O.length - m = 0 := by omega
        rw [hz] at *
        go_wp2_with (fail)
        go_end0
        have : m = O.length := by omega
        exact ⟨rfl, this ▸ HI.out⟩
  exact hgen _ ⟨_, _, rfl, by omega, by simp, by simp⟩
end Go.Proofs.Qxb6609120aDoor
