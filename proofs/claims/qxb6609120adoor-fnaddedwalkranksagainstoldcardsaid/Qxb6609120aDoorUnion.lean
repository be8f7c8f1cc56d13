/-
  union: an ascending list of uint32 and ordered ordinals, into a new list.
-/
import Derived.Test.Qxb6609120aDoorTree
namespace Go.Proofs.Qxb6609120aDoor
open Go.RowKit
open Plain (Srt Asc Un)
set_option linter.unusedVariables false

theorem info109 : (Tryd.prog.info? 109).map (fun i => (i.zero, i.size, i.bytes)) = some (some (.int .u32 0), 1, 4) := by kernel_rfl

/-- The list that is left: its slice value. -/
structure Rest (lb lo : Nat) (L : List Int) (i : Nat) (v : Value) : Prop where
  form : ∃ a c, v = .slice a (L.length - i) c ∧ L.length - i ≤ c ∧ (a = none → c = 0) ∧ (i < L.length → a = some ⟨lb, lo + i, none⟩)

theorem wrap32_ord (x : Int) (h0 : 0 ≤ x) (h1 : x < 4294967296) : IntKind.u32.wrap x = x := by
  simp [IntKind.wrap, IntKind.bits, IntKind.signed]; omega

def slLen : Value → Nat
  | .slice _ n _ => n
  | _ => 0
theorem Rest.next {lb lo : Nat} {L : List Int} {i c : Nat} (hi : i < L.length) (hc : L.length - i ≤ c) (a : Option Addr) (ha : ¬ c = 1 → a = some ⟨lb, lo + i + 1, none⟩) (hn : a = none → c - 1 = 0) : Rest lb lo L (i + 1) (.slice a (L.length - i - 1) (c - 1)) :=
  ⟨a, c - 1, by rw [show L.length - (i + 1) = L.length - i - 1 by omega], by omega, hn, fun h => by rw [ha (by omega), Nat.add_assoc]⟩

set_option maxHeartbeats 3200000 in
set_option maxRecDepth 100000 in
theorem union_any (v : Value) (lb lo : Nat) (L O : List Int) (ob oo ocap : Nat) (w : World) (hv : Rest lb lo L 0 v) (hrow : L ≠ [] → At .u32 w lb lo L) (hL : Asc L) (hO : Srt O) (hOr : ∀ x ∈ O, 0 ≤ x ∧ x < 4294967296)
    (hor : At .i64 w ob oo O) (hll : L.length + O.length ≤ 1024) (hoc : O.length ≤ ocap) :
    Calls Tryd.prog 72 #[v, .slice (some ⟨ob, oo, none⟩) O.length ocap] w fun e w' => ∃ b cap U, e = .returned (.slice (some ⟨b, 0, none⟩) U.length cap) ∧ At .u32 w' b 0 U ∧ U.length ≤ cap ∧ Asc U ∧ (∀ x, x ∈ U ↔ x ∈ L ∨ x ∈ O) ∧ U.length ≤ L.length + O.length ∧ Below w.heap.size w w' ∧ w.heap.size ≤ b := by
  obtain ⟨i0, hi, hz0, hz1, hz2⟩ := info_parts info109
  obtain ⟨a, c, rfl, hc1, hc2, hc3⟩ := hv.form
  have hR0 : Rest lb lo L 0 (.slice a (L.length - 0) c) := hv
  rw [Nat.sub_zero] at *
  clear hv hc1 hc2 hc3
  go_enter Tryd.func72, Tryd.ntmps72
  go_wp2_with (at_make; refine wpList_make_own _ rfl _ _ 69 rfl w.heap.size 109 i0 (.int .u32 0) 1 Tryd.underlying69 hi hz0 hz1 .i64 .i64 _ (L.length + O.length) rfl rfl (by simp) (by rw [hz2]; omega) (by unfold maxLen; omega) (Nat.le_refl _) ?_; intro w3 hown3 hg3)
  go_loopw [0, 5, 17] (fun ls out si wr => ∃ (i k q : Nat) (U : List Int), i ≤ L.length ∧ k ≤ O.length ∧ q = U.length ∧ Rest lb lo L i ls ∧ si = .int .i64 k ∧ out = .slice (some ⟨w.heap.size, 0, none⟩) q (L.length + O.length) ∧
        wr.ownsRow w.heap.size 109 1 (.slice (some ⟨w.heap.size, 0, none⟩) q (L.length + O.length)) q (U.map (Value.int .u32)) ∧ Un L O i k U ∧ Below w.heap.size w wr)
      (fun _ _ si _ => O.length - (intOf si).toNat)
  case atStart => exact ⟨0, 0, 0, [], Nat.zero_le _, Nat.zero_le _, rfl, hR0, rfl, rfl, hown3, Un.start L O, (Below.refl _ _).grown hg3 (Nat.le_refl _) (fun k h => by cases h)⟩
  case round =>
    clear hown3 hg3 hR0
    obtain ⟨i, k, q, U, hiL, hkO, hq, hR, rfl, rfl, hown, hU, hnx⟩ := hrel
    have HQ : Hid (q = U.length) := hq
    have hq1 : q ≤ U.length := by omega
    have hq2 : U.length ≤ q := by omega
    clear hq
    by_cases hlt : k < O.length
    · have gc := cell_below hnx (hor.cell k hlt)
      have hxr := hOr O[k] (List.getElem_mem hlt)
      obtain ⟨hx0, hx1⟩ := hxr
      go_wp2
      go_loopw [0, 5] (fun ls out wr => ∃ (i q : Nat) (U : List Int), i ≤ L.length ∧ q = U.length ∧ Rest lb lo L i ls ∧ out = .slice (some ⟨w.heap.size, 0, none⟩) q (L.length + O.length) ∧
          wr.ownsRow w.heap.size 109 1 (.slice (some ⟨w.heap.size, 0, none⟩) q (L.length + O.length)) q (U.map (Value.int .u32)) ∧ Un L O i k U ∧ Below w.heap.size w wr)
        (fun ls _ _ => slLen ls)
      case atStart => exact ⟨i, q, U, hiL, HQ.out, hR, rfl, hown, hU, hnx⟩
      case round =>
        clear hown hU hnx hR HQ hq1 hq2 hiL gc
        obtain ⟨i, q, U, hiL, hq, hR, rfl, hown, hU, hnx⟩ := hrel
        have HQ : Hid (q = U.length) := hq
        have hq1 : q ≤ U.length := by omega
        have hq2 : U.length ≤ q := by omega
        have hlen := hU.len
        obtain ⟨a', c', rfl, r1, r2, r3⟩ := hR.form
        clear hq hR
        by_cases hil : i < L.length
        · obtain rfl := r3 hil
          have hne : L ≠ [] := by intro h; simp [h] at hil
          have gl := cell_below hnx ((hrow hne).cell i hil)
          have gn : (0 : Int) < ((L.length - i : Nat) : Int) := by omega
          have gn' : 0 < L.length - i := by omega
          have gn1 : (1 : Int) ≤ ((L.length - i : Nat) : Int) := by omega
          clear r3 r2
          by_cases hmv : L[i] < O[k]
          · have hU' := hU.move hL hO hil hlt hmv
            go_wp2_with (at_builtin; refine wpList_append_fits _ rfl (.tmp 33) (.tmp 37) 69 rfl w.heap.size 109 i0 1 Tryd.underlying69 hi hz1 w.heap.size q (L.length + O.length) _ rfl (hown.alloc _) ⟨wr.heap.size, 0, none⟩ 1 1 [.int .u32 L[i]] rfl rfl (one_new wr _ 109) (one_cell1 rfl) (by omega) ?_; intro w5 hown5 hgrow5)
            all_goals
              go_roundw
              case rel => exact ⟨i + 1, q + 1, U ++ [L[i]], by omega, by simp; omega, Rest.next hil r1 _ (by intro h; first | rfl | simp [h] | omega) (by intro h; first | omega | cases h | (split at h <;> cases h)), rfl, by simpa using hown5, hU', (hnx.alloc hnx.size _).grown hgrow5 (by simp; have := hnx.size; omega) (fun k hk => by cases hk; exact Nat.le_refl _)⟩
              case measure => simp [slLen]; omega
          · have hRest : Rest lb lo L i (.slice (some ⟨lb, lo + i, none⟩) (L.length - i) c') := ⟨_, _, rfl, r1, by simp, fun _ => rfl⟩
            by_cases heq : L[i] = O[k]
            · have hskip := hU.skip hlt (Or.inr (heq ▸ Plain.mem_drop_head hil))
              have hb : (L[i] != O[k]) = false := by simp [heq]
              have HSK : Hid (Un L O i (k + 1) U) := hskip
              clear heq hskip
              go_wp2
              go_roundw
              case rel => exact ⟨i, k + 1, q, U, hiL, by omega, HQ.out, hRest, by go_num, rfl, hown, HSK.out, hnx⟩
              case measure => simp [intOf]; omega
            · have hb1 : (L[i] != O[k]) = true := by simp [heq]
              have hgt : O[k] < L[i] := by omega
              have hz : (((L.length - i : Nat) : Int) == 0) = false := by rw [beq_eq_false_iff_ne]; omega
              clear heq
              by_cases hd : U = []
              · have hq0 : ((q : Int) == 0) = true := by rw [beq_iff_eq]; have := HQ.out; simp [hd] at this; omega
                have hput := hU.put hL hO hlt (fun _ => hgt) (fun h => absurd hd h)
                go_wp2_with (at_builtin; refine wpList_append_fits _ rfl (.tmp 66) (.tmp 68) 69 rfl w.heap.size 109 i0 1 Tryd.underlying69 hi hz1 w.heap.size q (L.length + O.length) _ rfl (hown.alloc _) ⟨wr.heap.size, 0, none⟩ 1 1 [.int .u32 O[k]] rfl rfl (one_new wr _ 109) (one_cell1 rfl) (by omega) ?_; intro w5 hown5 hgrow5)
                go_roundw
                case rel => exact ⟨i, k + 1, q + 1, U ++ [O[k]], hiL, by omega, by simp; omega, hRest, by go_num, rfl, by simpa using hown5, hput, (hnx.alloc hnx.size _).grown hgrow5 (by simp; have := hnx.size; omega) (fun k hk => by cases hk; exact Nat.le_refl _)⟩
                case measure => simp [intOf]; omega
              · have hpos : 0 < U.length := List.length_pos_iff.2 hd
                have hq0 : ((q : Int) == 0) = false := by rw [beq_eq_false_iff_ne]; omega
                have hlast := row_cell hown (U.length - 1) (by omega)
                rw [← List.getLast_eq_getElem hd, ← HQ.out] at hlast
                have hqi : (q : Int) - 1 < q := by omega
                have hqj : 0 < q := by omega
                by_cases he : U.getLast hd = O[k]
                · have hskip := hU.skip hlt (Or.inl (he ▸ List.getLast_mem hd))
                  have hb : (U.getLast hd != O[k]) = false := by simp [he]
                  have HSK : Hid (Un L O i (k + 1) U) := hskip
                  generalize U.getLast hd = y at *
                  clear he hskip
                  go_wp2
                  go_roundw
                  case rel => exact ⟨i, k + 1, q, U, hiL, by omega, HQ.out, hRest, by go_num, rfl, hown, HSK.out, hnx⟩
                  case measure => simp [intOf]; omega
                · have hput := hU.put hL hO hlt (fun _ => hgt) (fun h => he)
                  have hb : (U.getLast hd != O[k]) = true := by simp [he]
                  have HSK : Hid (Un L O i (k + 1) (U ++ [O[k]])) := hput
                  generalize U.getLast hd = y at *
                  clear he hput
                  go_wp2_with (at_builtin; refine wpList_append_fits _ rfl (.tmp 66) (.tmp 68) 69 rfl w.heap.size 109 i0 1 Tryd.underlying69 hi hz1 w.heap.size q (L.length + O.length) _ rfl (hown.alloc _) ⟨wr.heap.size, 0, none⟩ 1 1 [.int .u32 O[k]] rfl rfl (one_new wr _ 109) (one_cell1 rfl) (by omega) ?_; intro w5 hown5 hgrow5)
                  go_roundw
                  case rel => exact ⟨i, k + 1, q + 1, U ++ [O[k]], hiL, by omega, by simp; omega, hRest, by go_num, rfl, by simpa using hown5, HSK.out, (hnx.alloc hnx.size _).grown hgrow5 (by simp; have := hnx.size; omega) (fun k hk => by cases hk; exact Nat.le_refl _)⟩
                  case measure => simp [intOf]; omega
        · have hRest : Rest lb lo L i (.slice a' (L.length - i) c') := ⟨_, _, rfl, r1, r2, r3⟩
          have hzn : L.length - i = 0 := by omega
          rw [hzn] at hRest r1 ⊢
          clear r1 r2 r3 hzn
          by_cases hd : U = []
          · have hq0 : ((q : Int) == 0) = true := by rw [beq_iff_eq]; have := HQ.out; simp [hd] at this; omega
            have hput := hU.put hL hO hlt (fun h => absurd h hil) (fun h => absurd hd h)
            go_wp2_with (at_builtin; refine wpList_append_fits _ rfl (.tmp 66) (.tmp 68) 69 rfl w.heap.size 109 i0 1 Tryd.underlying69 hi hz1 w.heap.size q (L.length + O.length) _ rfl (hown.alloc _) ⟨wr.heap.size, 0, none⟩ 1 1 [.int .u32 O[k]] rfl rfl (one_new wr _ 109) (one_cell1 rfl) (by omega) ?_; intro w5 hown5 hgrow5)
            go_roundw
            case rel => exact ⟨i, k + 1, q + 1, U ++ [O[k]], hiL, by omega, by simp; omega, hRest, by go_num, rfl, by simpa using hown5, hput, (hnx.alloc hnx.size _).grown hgrow5 (by simp; have := hnx.size; omega) (fun k hk => by cases hk; exact Nat.le_refl _)⟩
            case measure => simp [intOf]; omega
          · have hpos : 0 < U.length := List.length_pos_iff.2 hd
            have hq0 : ((q : Int) == 0) = false := by rw [beq_eq_false_iff_ne]; omega
            have hlast := row_cell hown (U.length - 1) (by omega)
            rw [← List.getLast_eq_getElem hd, ← HQ.out] at hlast
            have hqi : (q : Int) - 1 < q := by omega
            have hqj : 0 < q := by omega
            by_cases he : U.getLast hd = O[k]
            · have hskip := hU.skip hlt (Or.inl (he ▸ List.getLast_mem hd))
              have hb : (U.getLast hd != O[k]) = false := by simp [he]
              have HSK : Hid (Un L O i (k + 1) U) := hskip
              generalize U.getLast hd = y at *
              clear he hskip
              go_wp2
              go_roundw
              case rel => exact ⟨i, k + 1, q, U, hiL, by omega, HQ.out, hRest, by go_num, rfl, hown, HSK.out, hnx⟩
              case measure => simp [intOf]; omega
            · have hput := hU.put hL hO hlt (fun h => absurd h hil) (fun h => he)
              have hb : (U.getLast hd != O[k]) = true := by simp [he]
              have HSK : Hid (Un L O i (k + 1) (U ++ [O[k]])) := hput
              generalize U.getLast hd = y at *
              clear he hput
              go_wp2_with (at_builtin; refine wpList_append_fits _ rfl (.tmp 66) (.tmp 68) 69 rfl w.heap.size 109 i0 1 Tryd.underlying69 hi hz1 w.heap.size q (L.length + O.length) _ rfl (hown.alloc _) ⟨wr.heap.size, 0, none⟩ 1 1 [.int .u32 O[k]] rfl rfl (one_new wr _ 109) (one_cell1 rfl) (by omega) ?_; intro w5 hown5 hgrow5)
              go_roundw
              case rel => exact ⟨i, k + 1, q + 1, U ++ [O[k]], hiL, by omega, by simp; omega, hRest, by go_num, rfl, by simpa using hown5, HSK.out, (hnx.alloc hnx.size _).grown hgrow5 (by simp; have := hnx.size; omega) (fun k hk => by cases hk; exact Nat.le_refl _)⟩
              case measure => simp [intOf]; omega
    · obtain ⟨a', c', rfl, r1, r2, r3⟩ := hR.form
      have hst := hU.stop hL (by omega)
      have hlen := hU.len
      have HST : Hid (Asc (U ++ L.drop i) ∧ (∀ x, x ∈ U ++ L.drop i ↔ x ∈ L ∨ x ∈ O)) := hst
      have HDL : Hid (((L.drop i).map (Value.int .u32)).length = (L.length - i) * 1) := by show _ = _; simp
      have hcells : ∀ ad, a' = some ad → ∀ t u, ((L.drop i).map (Value.int .u32))[t]? = some u → wr.cell? (ad.add t) = some u := by
        intro ad had t u hu
        have ht : t < L.length - i := by have := (List.getElem?_eq_some_iff.1 hu).1; simpa using this
        have hil : i < L.length := by omega
        rw [r3 hil] at had
        obtain rfl := Option.some.inj had
        rw [Addr.add_lit, Nat.add_assoc, cell_below hnx ((hrow (by intro h; simp [h] at hil)).cell (i + t) (by omega))]
        simp [show i + t < L.length by omega] at hu
        rw [hu]
      clear hst hR r3
      go_wp2_with (at_builtin; refine wpList_append_fits_any _ rfl (.tmp 71) (.tmp 72) 69 rfl w.heap.size 109 i0 1 Tryd.underlying69 hi hz1 w.heap.size q (L.length + O.length) _ rfl hown a' (L.length - i) c' ((L.drop i).map (Value.int .u32)) rfl HDL.out (fun h => by have := r2 h; omega) hcells (ints_oneCell _ _) (by omega) ?_; intro w5 hown5 hgrow5)
      go_ret
      rw [← List.map_append] at hown5
      obtain ⟨q1, q2, q3, q4⟩ := own_of_row hown5
      refine ⟨w.heap.size, L.length + O.length, U ++ L.drop i, ?_, q4.at, q3, HST.out.1, HST.out.2, by rw [← q1]; omega, hnx.grown hgrow5 hnx.size (fun k hk => by cases hk; exact Nat.le_refl _), Nat.le_refl _⟩
      show Ending.returned (Value.slice _ (q + (L.length - i)) _) = _
      rw [q1]
end Go.Proofs.Qxb6609120aDoor
