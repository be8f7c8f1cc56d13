/-
  rowNode.count: how many ordinals the node holds.
-/
import Derived.Test.Qxb6609120aDoorOnes2
namespace Go.Proofs.Qxb6609120aDoor
open Go.RowKit
open Plain (Srt Asc asc_ext)
set_option linter.unusedVariables false

theorem word_cnt {S : List Int} {base : Nat} {W : Nat → Nat} (hS : Ran S base (base + 4096)) (hb : base % 4096 = 0) (hmem : ∀ x : Int, (base : Int) ≤ x → x < (base : Int) + 4096 → (x ∈ S ↔ bit W x = true)) {i : Nat} (hi : i < 64) :
    ∀ t, t ≤ 64 → (bel S ((base + 64 * i + t : Nat) : Int)).length = (bel S ((base + 64 * i : Nat) : Int)).length + cnt (W i) t
  | 0, _ => rfl
  | t + 1, ht => by
    have ih := word_cnt hS hb hmem hi t (by omega)
    rw [cnt_succ]
    cases hbit : (W i).testBit t with
    | true =>
      rw [(word_one hS hb hmem hi (by omega) hbit).2, List.length_append, ih]
      simp
      omega
    | false =>
      have := word_skip hS hb hmem hi ht (Nat.le_succ t) (fun u h1 h2 => by
        have : u = t := by omega
        rw [this]; exact hbit)
      rw [this, ih]
      simp

/-- The children's lists, one behind the other. -/
theorem kids_add {ok : Nat → Prop} {h : Nat} {w : World} {base : Nat} {S : List Int} {K : Nat → Option Addr} {L : Nat → List Int} (hS : Asc S) (hN : ∀ i, i < 64 → Node ok h w (base + i * spn h) (K i) (L i)) (hL : ∀ x, x ∈ S ↔ ∃ i, i < 64 ∧ x ∈ L i) {i : Nat} (hi : i < 64) :
    bel S ((base + (i + 1) * spn h : Nat) : Int) = bel S ((base + i * spn h : Nat) : Int) ++ L i := by
  refine bel_add hS (hN i hi).ran.asc (by rw [Nat.add_mul]; omega) (fun x => ?_)
  rw [Nat.add_mul, Nat.one_mul]
  constructor
  · intro hx
    have h1 := (hN i hi).ran.lo x hx
    have h2 := (hN i hi).ran.hi x hx
    exact ⟨(hL x).2 ⟨i, hi, hx⟩, by omega, by omega⟩
  · rintro ⟨hx, h1, h2⟩
    obtain ⟨j, hj, hxj⟩ := (hL x).1 hx
    have h3 := (hN j hj).ran.lo x hxj
    have h4 := (hN j hj).ran.hi x hxj
    have : j = i := by
      rcases Nat.lt_trichotomy j i with hlt | he | hlt
      · have : (j + 1) * spn h ≤ i * spn h := Nat.mul_le_mul_right _ hlt
        rw [Nat.add_mul, Nat.one_mul] at this
        omega
      · exact he
      · have : (i + 1) * spn h ≤ j * spn h := Nat.mul_le_mul_right _ hlt
        rw [Nat.add_mul, Nat.one_mul] at this
        omega
    exact this ▸ hxj
theorem kid_mod {h base i : Nat} (hb : base % 4096 = 0) : (base + i * spn h) % 4096 = 0 := by
  unfold spn
  rw [show i * (4096 * 64 ^ h) = 4096 * (i * 64 ^ h) by rw [← Nat.mul_assoc, Nat.mul_comm i 4096, Nat.mul_assoc], Nat.add_mul_mod_self_left]
  exact hb

theorem count_nil (w : World) : Calls Tryd.prog 45 #[.pointer none] w fun e w' => e = .returned (.int .i64 0) ∧ w' = w := by
  go_enter Tryd.func45, Tryd.ntmps45
  go_wp2_with fail
  go_ret
  exact ⟨rfl, rfl⟩
theorem count_list (S : List Int) (b lb lo cap : Nat) (w : World) (hL : ListN w S b lb lo cap) : Calls Tryd.prog 45 #[.pointer (some ⟨b, 0, none⟩)] w fun e w' => e = .returned (.int .i64 (S.length : Nat)) ∧ w' = w := by
  have c0 := hL.cells.kids
  have c1 := hL.cells.words
  have c2 := hL.cells.list
  clear hL
  go_enter Tryd.func45, Tryd.ntmps45
  go_wp2_with fail
  go_ret
  exact ⟨rfl, rfl⟩
set_option maxRecDepth 10000 in
theorem count_words (base : Nat) (S : List Int) (b wb : Nat) (W : Nat → Nat) (w : World) (hL : WordN w base S b wb W) (hS : Ran S base (base + 4096)) (hb : base % 4096 = 0) (hl : S.length ≤ 1099511627776) :
    Calls Tryd.prog 45 #[.pointer (some ⟨b, 0, none⟩)] w fun e w' => e = .returned (.int .i64 (S.length : Nat)) ∧ w' = w := by
  have c0 := hL.cells.kids
  have c1 := hL.cells.words
  go_enter Tryd.func45, Tryd.ntmps45
  go_wp2_with fail
  go_loopw [3, 39] (fun sc si wr => ∃ i c : Nat, i ≤ 64 ∧ si = .int .i64 i ∧ sc = .int .i64 c ∧ c = (bel S ((base + 64 * i : Nat) : Int)).length ∧ wr = w) (fun _ si _ => 64 - (intOf si).toNat)
  case atStart => exact ⟨0, 0, by omega, rfl, rfl, by rw [bel_none (fun x hx => by have := hS.lo x hx; omega)]; rfl, rfl⟩
  case round =>
    clear c0 c1
    obtain ⟨i, c, hi, rfl, rfl, hc, hwe⟩ := hrel
    have hwe := hwe.symm
    subst hwe
    by_cases hlt : i < 64
    · have gc := hL.words.cell i hlt
      have hvl := hL.words.lt i hlt
      have hn := word_cnt hS hb hL.mem hlt 64 (Nat.le_refl _)
      have h1 := cnt_le 64 (W i)
      have h2 := bel_len S ((base + 64 * i : Nat) : Int)
      have HO : Hid (Calls Tryd.prog 49 #[.int .u64 (W i : Nat)] w fun e w' => e = .returned (.int .i64 (cnt (W i) 64 : Nat)) ∧ w' = w) := ones_any (W i) hvl w
      have HC : Hid (c + cnt (W i) 64 = (bel S ((base + 64 * (i + 1) : Nat) : Int)).length) := by
        show _ = _
        rw [show base + 64 * (i + 1) = base + 64 * i + 64 by omega, hn, hc]
      have hcl : c ≤ 1099511627776 := by omega
      clear hn h2 hc
      generalize cnt (W i) 64 = n at *
      generalize W i = v at *
      have hii : ((i : Nat) : Int) < 64 := by omega
      go_wp2_with (go_at_call 49; refine HO.out.mono ?_; rintro _ _ ⟨rfl, hwe⟩; have hwe := hwe.symm; subst hwe)
      go_roundw
      case rel => exact ⟨i + 1, c + n, by omega, by go_num, by go_num, HC.out, by first | rfl | trivial⟩
      case measure => simp [intOf]; omega
    · have HE : Hid (c = S.length) := by
        have : i = 64 := by omega
        subst this
        show c = _
        rw [hc, bel_all (fun x hx => by have := hS.hi x hx; omega)]
      clear hc
      go_wp2_with fail
      go_ret
      have hE := HE.out
      subst hE
      exact ⟨rfl, rfl⟩
set_option maxRecDepth 10000 in
theorem count_kids (ok : Nat → Prop) (h : Nat) (base : Nat) (S : List Int) (b kb : Nat) (K : Nat → Option Addr) (L : Nat → List Int) (w : World) (hc : NCell w b (some ⟨kb, 0, none⟩) none (.slice none 0 0)) (hK : Kids w kb K) (hN : ∀ i, i < 64 → Node ok h w (base + i * spn h) (K i) (L i)) (hL : ∀ x, x ∈ S ↔ ∃ i, i < 64 ∧ x ∈ L i) (hS : Ran S base (base + spn (h + 1))) (hb : base % 4096 = 0) (hl : S.length ≤ 1099511627776)
    (ih : ∀ i, i < 64 → (L i).length ≤ 1099511627776 → Calls Tryd.prog 45 #[.pointer (K i)] w fun e w' => e = .returned (.int .i64 ((L i).length : Nat)) ∧ w' = w) :
    Calls Tryd.prog 45 #[.pointer (some ⟨b, 0, none⟩)] w fun e w' => e = .returned (.int .i64 (S.length : Nat)) ∧ w' = w := by
  have c0 := hc.kids
  have hsp := spn_succ h
  go_enter Tryd.func45, Tryd.ntmps45
  go_wp2_with fail
  go_loopw [3, 19] (fun sc si wr => ∃ i c : Nat, i ≤ 64 ∧ si = .int .i64 i ∧ sc = .int .i64 c ∧ c = (bel S ((base + i * spn h : Nat) : Int)).length ∧ wr = w) (fun _ si _ => 64 - (intOf si).toNat)
  case atStart => exact ⟨0, 0, by omega, rfl, rfl, by rw [bel_none (fun x hx => by have := hS.lo x hx; omega)]; rfl, rfl⟩
  case round =>
    clear c0
    obtain ⟨i, c, hi, rfl, rfl, hcc, hwe⟩ := hrel
    have hwe := hwe.symm
    subst hwe
    by_cases hlt : i < 64
    · have gc := hK i hlt
      have hn := kids_add hS.asc hN hL hlt
      have h2 := bel_len S ((base + (i + 1) * spn h : Nat) : Int)
      rw [hn, List.length_append] at h2
      have HO : Hid (Calls Tryd.prog 45 #[.pointer (K i)] w fun e w' => e = .returned (.int .i64 ((L i).length : Nat)) ∧ w' = w) := ih i hlt (by omega)
      have HC : Hid (c + (L i).length = (bel S ((base + (i + 1) * spn h : Nat) : Int)).length) := by
        show _ = _
        rw [hn, List.length_append, hcc]
      have hcl : c + (L i).length ≤ 1099511627776 := by omega
      clear hn h2 hcc ih hN hL
      generalize (L i).length = n at *
      generalize K i = v at *
      have hii : ((i : Nat) : Int) < 64 := by omega
      go_wp2_with (go_at_call 45; refine HO.out.mono ?_; rintro _ _ ⟨rfl, hwe⟩; have hwe := hwe.symm; subst hwe)
      go_roundw
      case rel => exact ⟨i + 1, c + n, by omega, by go_num, by go_num, HC.out, by first | rfl | trivial⟩
      case measure => simp [intOf]; omega
    · have HE : Hid (c = S.length) := by
        have : i = 64 := by omega
        subst this
        show c = _
        rw [hcc, bel_all (fun x hx => by have := hS.hi x hx; omega)]
      clear hcc ih hN hL
      go_wp2_with fail
      go_ret
      have hE := HE.out
      subst hE
      exact ⟨rfl, rfl⟩
theorem count_any (ok : Nat → Prop) : ∀ (h : Nat) (base : Nat) (p : Option Addr) (S : List Int) (w : World), Node ok h w base p S → base % 4096 = 0 → S.length ≤ 1099511627776 →
    Calls Tryd.prog 45 #[.pointer p] w fun e w' => e = .returned (.int .i64 (S.length : Nat)) ∧ w' = w
  | 0, base, p, S, w, hn, hb, hl => by
    rcases hn.2 with ⟨rfl, rfl⟩ | ⟨b, lb, lo, lc, rfl, hl2, o1, o2⟩ | ⟨b, wb, W, rfl, hw, o1, o2⟩
    · exact count_nil w
    · exact count_list S b lb lo lc w hl2
    · exact count_words base S b wb W w hw hn.1 hb hl
  | h + 1, base, p, S, w, hn, hb, hl => by
    rcases hn.2 with ⟨rfl, rfl⟩ | ⟨b, lb, lo, lc, rfl, hl2, o1, o2⟩ | ⟨b, kb, K, L, rfl, hc, hk, hN, hL, o1, o2⟩
    · exact count_nil w
    · exact count_list S b lb lo lc w hl2
    · exact count_kids ok h base S b kb K L w hc hk hN hL hn.1 hb hl (fun i hi hli => count_any ok h _ _ _ w (hN i hi) (kid_mod hb) hli)
end Go.Proofs.Qxb6609120aDoor
