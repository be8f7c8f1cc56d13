/-
  'Rows.FnIsNumberAcceptsTermFieldIndexToldSaid', proved: fmt's text told by the authors' Lean function.
-/
import Derived.Test.Qxb6614965aFmtCards
import Derived.Test.Qxb6614965aFmtSteps
import Derived.Stop.JoinedAt
import Derived.SizedLaws
import Derived.SevenToldRow
namespace Go.Proofs.Qxb6614965aFmt.fnIsNumberAcceptsTermFieldIndex
open Go.ChangeShapes Go.WideShapes Go.ChangeAt Go.RowKit Go.Kit
open Go.ChangeMaps (open_string shut_string)
open Go.Extern.Stop Go.Stop Go.Extern

theorem own : ownKnob Tryf.prog.godebug = none := by kernel_rfl

/-- A number opens so. -/
def num (c : UInt8) : Bool := decide (c.toNat = 45) || (decide (48 ≤ c.toNat) && decide (c.toNat ≤ 57))
theorem num_of {c : UInt8} (h : c.toNat = 45 ∨ Plain.Digit c) : num c = true := by
  unfold num Plain.Digit at *
  rcases h with h | ⟨h1, h2⟩
  · simp [h]
  · simp [h1, h2]

theorem isNumber_any (b off len cap : Nat) (c : UInt8) (w : World) (hl : 0 < len) (hc : w.cell? ⟨b, off, none⟩ = some (.int .u8 (c.toNat : Int))) :
    Calls Tryf.prog 15 #[.slice (some ⟨b, off, none⟩) len cap] w fun e w' => e = .returned (.bool (num c)) ∧ w' = w := by
  unfold num
  have hl' : (0 : Int) < (len : Int) := by omega
  by_cases h1 : c.toNat = 45
  · have g1 : ((c.toNat : Int) == 45) = true := by rw [beq_iff_eq]; omega
    go_enter Tryf.func15, Tryf.ntmps15
    go_wp2
    go_ret
    exact ⟨by simp [h1], rfl⟩
  · have g1 : ((c.toNat : Int) == 45) = false := by rw [beq_eq_false_iff_ne]; omega
    by_cases h2 : 48 ≤ c.toNat
    · have g2 : (48 : Int) ≤ (c.toNat : Int) := by omega
      by_cases h3 : c.toNat ≤ 57
      · have g3 : (c.toNat : Int) ≤ 57 := by omega
        go_enter Tryf.func15, Tryf.ntmps15
        go_wp2
        go_ret
        exact ⟨by simp [h2, h3], rfl⟩
      · have g3 : ¬ (c.toNat : Int) ≤ 57 := by omega
        go_enter Tryf.func15, Tryf.ntmps15
        go_wp2
        go_ret
        exact ⟨by simp, rfl⟩
    · have g2 : ¬ (48 : Int) ≤ (c.toNat : Int) := by omega
      go_enter Tryf.func15, Tryf.ntmps15
      go_wp2
      go_ret
      exact ⟨by simp, rfl⟩
theorem zzIsNumber_any (b off len cap : Nat) (c : UInt8) (w : World) (hl : 0 < len) (hc : w.cell? ⟨b, off, none⟩ = some (.int .u8 (c.toNat : Int))) :
    Calls Tryf.prog 7 #[.slice (some ⟨b, off, none⟩) len cap] w fun e w' => e = .returned (.bool (num c)) ∧ w' = w := by
  go_enter Tryf.func7, Tryf.ntmps7
  go_wp2_with (go_at_call 15; refine (isNumber_any _ _ _ _ _ _ hl hc).mono ?_; rintro e w' ⟨rfl, rfl⟩)
  go_ret
  exact ⟨rfl, rfl⟩

/-- What the law leans on in the path of a term, m bytes in its brackets. -/
structure Pth (s : ByteArray) (m : Nat) : Prop where
  size : s.size = 17 + m
  lo : 1 ≤ m
  hi : m ≤ 21
  br : ∀ i (h : i < s.size), ((s[i].toNat : Int) == 91) = decide (i = 15)
  fin : ∀ i (h : i < s.size), i + 1 = s.size → (s[i].toNat : Int) = 93
  mid : ∀ i (h : i < s.size), 16 ≤ i → i + 1 < s.size → num s[i] = true
  first : ∀ h : 0 < s.size, num s[0] = false

theorem path_at (k : Int) (i : Nat) (h : i < (pathS k).size) : (pathS k)[i] = (Plain.path k)[i]'(by simpa [pathS, ByteArray.size] using h) := rfl
theorem path_lo (k : Int) (i : Nat) (h : i < (Plain.path k).length) (h16 : i < 16) : (Plain.path k)[i] = Plain.head[i]'h16 := by
  have e : Plain.path k = Plain.head ++ (Lib.itoa k ++ [93]) := by simp [Plain.path]
  have e2 : (Plain.path k)[i]? = Plain.head[i]? := by rw [e]; exact List.getElem?_append_left h16
  rw [List.getElem?_eq_getElem h, List.getElem?_eq_getElem (l := Plain.head) h16] at e2
  exact Option.some.inj e2
theorem path_mi (k : Int) (i : Nat) (h : i < (Plain.path k).length) (h16 : 16 ≤ i) (hm : i - 16 < (Lib.itoa k).length) : (Plain.path k)[i] = (Lib.itoa k)[i - 16]'hm := by
  have e : Plain.path k = Plain.head ++ (Lib.itoa k ++ [93]) := by simp [Plain.path]
  have e2 : (Plain.path k)[i]? = (Lib.itoa k)[i - 16]? := by
    rw [e, List.getElem?_append_right (show Plain.head.length ≤ i from h16)]
    exact List.getElem?_append_left hm
  rw [List.getElem?_eq_getElem h, List.getElem?_eq_getElem hm] at e2
  exact Option.some.inj e2
theorem path_hi (k : Int) (i : Nat) (h : i < (Plain.path k).length) (hm : i = 16 + (Lib.itoa k).length) : (Plain.path k)[i] = 93 := by
  have e2 : (Plain.path k)[i]? = some 93 := by
    unfold Plain.path
    rw [List.getElem?_append_right (by simp [Plain.head]; omega)]
    have : i - (Plain.head ++ Lib.itoa k).length = 0 := by simp [Plain.head]; omega
    rw [this]; rfl
  rw [List.getElem?_eq_getElem h] at e2
  exact Option.some.inj e2
theorem head_br : ∀ i : Fin 16, (((Plain.head[i.val]).toNat : Int) == 91) = decide (i.val = 15) := by decide +kernel
theorem pth (k : Int) (hk : (Lit.int .i64 k).wf = true) : Pth (pathS k) (Lib.itoa k).length where
  size := by rw [← Plain.path_len]; simp [pathS, ByteArray.size]
  lo := Plain.itoa_pos k
  hi := FmtText.itoa_length_le hk
  br := fun i h => by
    have hl : i < (Plain.path k).length := by simpa [pathS, ByteArray.size] using h
    have hl2 := hl
    rw [Plain.path_len] at hl2
    rw [path_at k i h]
    by_cases h16 : i < 16
    · rw [path_lo k i hl h16]
      exact head_br ⟨i, h16⟩
    · rw [decide_eq_false (by omega), beq_eq_false_iff_ne]
      by_cases hm : i < 16 + (Lib.itoa k).length
      · rw [path_mi k i hl (by omega) (by omega)]
        have := Plain.itoa_byte k _ (List.getElem_mem (l := Lib.itoa k) (n := i - 16) (by omega))
        unfold Plain.Digit at this
        omega
      · rw [path_hi k i hl (by omega)]; decide
  fin := fun i h hi => by
    have hl : i < (Plain.path k).length := by simpa [pathS, ByteArray.size] using h
    have hs : (pathS k).size = (Plain.path k).length := by simp [pathS, ByteArray.size]
    rw [hs, Plain.path_len] at hi
    rw [path_at k i h]
    rw [path_hi k i hl (by omega)]; rfl
  mid := fun i h h16 hi => by
    have hl : i < (Plain.path k).length := by simpa [pathS, ByteArray.size] using h
    have hs : (pathS k).size = (Plain.path k).length := by simp [pathS, ByteArray.size]
    rw [hs, Plain.path_len] at hi
    rw [path_at k i h]
    rw [path_mi k i hl h16 (by omega)]
    exact num_of (Plain.itoa_byte k _ (List.getElem_mem _))
  first := fun h => by
    rw [path_at k 0 h]
    have : (Plain.path k)[0]'(by simpa [pathS, ByteArray.size] using h) = 118 := by
      simp [Plain.path, Plain.head]
    rw [this]; decide

theorem conv (w : World) (s : ByteArray) (n : Nat) (hn : s.size = n) : ∃ cap w', (convert 9 41 (.string s)).run Tryf.prog w = .ok (.slice (some ⟨w.heap.size, 0, none⟩) n cap) w' ∧ n ≤ cap ∧
    (∀ i (h : i < s.size), w'.cell? ⟨w.heap.size, i, none⟩ = some (.int .u8 (s[i].toNat : Int))) ∧ Below w.heap.size w w' := by
  subst hn
  refine ⟨_, _, run_bytes_of_string (P := Tryf.prog) w 9 41 5 s Tryf.underlying9 Tryf.underlying41 Tryf.underlying5, grownCap_ge _ _ _ _, fun i h => ?_, (Below.refl _ _).drew.alloc (Nat.le_refl _) _⟩
  show (w.drew.alloc _).cell? ⟨w.drew.heap.size, i, none⟩ = _
  rw [World.cell?_alloc_mark]
  exact bytesRow_at s _ i h

theorem inner_size (s : ByteArray) (h : 18 ≤ s.size) : (s.extract 16 (s.size - 1)).size = s.size - 17 := by
  simp [ByteArray.size_extract]; omega
theorem inner_at (s : ByteArray) (i : Nat) (h : i < (s.extract 16 (s.size - 1)).size) (h2 : 16 + i < s.size) : (s.extract 16 (s.size - 1))[i] = s[16 + i] := by
  simp [ByteArray.getElem_extract]

set_option maxRecDepth 10000 in
theorem walk (F : Interp) (k : Int) (wk : (Lit.int .i64 k).wf = true) (w : World) (hF : F.told.answers w.tape) :
    Calls Tryf.prog 3 #[.int .i64 k] w fun e w' => e = .returned (.bool true) ∧ Below w.heap.size w w' := by
  have hP := pth k wk
  have Wk : Hid ((Lit.int .i64 k).wf = true) := wk
  have bk := bounds_i64 wk
  have HF : Hid (F.told.answers w.tape) := hF
  clear wk hF
  go_enter Tryf.func3, Tryf.ntmps3
  go_wp2_with fail
  refine (term_any F w.heap.size ⟨#[]⟩ k _ (by exact HF.out) (by simp) (by simp) (by simp [ByteArray.size]) Wk.out).mono ?_
  rintro e w1 ⟨rfl, hb⟩
  rw [inGrant_top _ _ (by rw [ByteArray.toList_eq]; rfl)]
  replace hb : Below w.heap.size w w1 := ((Below.refl _ _).alloc (Nat.le_refl _) _).trans (hb.mono (by simp))
  generalize hm : (Lib.itoa k).length = m at hP
  have HM : Hid ((Lib.itoa k).length = m) := hm
  clear hm HF
  generalize pathS k = s at *
  obtain ⟨hsz, hlo, hhi, hbr, hfin, hmid, hfirst⟩ := hP
  have Hsz : Hid (s.size = 17 + m) := hsz
  have hs1 : 18 ≤ s.size := by omega
  have hs2 : s.size ≤ 38 := by omega
  clear hsz
  go_wp2_with fail
  go_loop [5, 6] (fun o i => ∃ n : Nat, n ≤ s.size ∧ i = .int .i64 n ∧ o = .int .i64 (if n ≤ 15 then -1 else 15)) (fun _ i => s.size - (intOf i).toNat)
  case atStart => exact ⟨0, by omega, rfl, rfl⟩
  case round =>
    obtain ⟨n, hn, rfl, rfl⟩ := hrel
    by_cases hlt : n < s.size
    · have h91 := hbr n hlt
      by_cases h15 : n = 15
      · have H15 : Hid (n = 15) := h15
        rw [decide_eq_true h15] at h91
        clear h15
        go_wp2
        go_round
        case rel => exact ⟨n + 1, by omega, by go_num, by have := H15.out; rw [if_neg (by omega)]; congr 1; omega⟩
        case measure => simp [intOf]; omega
      · rw [decide_eq_false h15] at h91
        go_wp2
        go_round
        case rel => exact ⟨n + 1, by omega, by go_num, by congr 1; split <;> split <;> omega⟩
        case measure => simp [intOf]; omega
    · rw [if_neg (by omega)]
      have hend : (((s[s.size - 1]'(by omega)).toNat : Int) != 93) = false := by rw [hfin (s.size - 1) (by omega) (by omega)]; rfl
      have g17 : ¬ (s.size : Int) ≤ 17 := by omega
      obtain ⟨ln, hln⟩ : ∃ ln, (s.extract 16 (s.size - 1)).size = ln := ⟨_, rfl⟩
      have H1 : Hid (ln = s.size - 17) := by show _ = _; rw [← hln]; exact inner_size s hs1
      have hr1 : 1 ≤ ln := by have := H1.out; omega
      have hr2 : ln ≤ 21 := by have := H1.out; omega
      obtain ⟨cap, w2, hcv, hcap, hcells, hb2⟩ := conv w1 (s.extract 16 (s.size - 1)) ln hln
      have hcells' : ∀ i, i < ln → ∃ c : UInt8, num c = true ∧ w2.cell? ⟨w1.heap.size, i, none⟩ = some (.int .u8 (c.toNat : Int)) := fun i h => by
        refine ⟨_, ?_, hcells i (by omega)⟩
        rw [inner_at s i (by omega) (by have := H1.out; omega)]; exact hmid (16 + i) (by have := H1.out; omega) (by omega) (by have := H1.out; omega)
      clear hcells hln
      have hb3 : Below w.heap.size w w2 := hb.trans (hb2.mono hb.size)
      clear hb hb2
      go_wp2
      clear hcv
      go_loop [8] (fun i => ∃ n : Nat, n ≤ ln ∧ i = .int .i64 n) (fun i => ln - (intOf i).toNat)
      case atStart => exact ⟨0, by omega, rfl⟩
      case round =>
        obtain ⟨q, hq, rfl⟩ := hrel
        by_cases hql : q < ln
        · obtain ⟨c, hnum, hc⟩ := hcells' q hql
          have hne : ¬ cap = q := by omega
          go_wp2_with (go_at_call 7; refine (zzIsNumber_any _ _ _ _ _ _ (by omega) hc).mono ?_; rintro e w' ⟨rfl, rfl⟩)
          go_round
          case rel => exact ⟨q + 1, by omega, by go_num⟩
          case measure => simp [intOf]; omega
        · obtain ⟨cap2, w3, hcv, hcap2, hcells2, hb4⟩ := conv w2 s s.size rfl
          have hc := hcells2 0 (by omega)
          have hnum := hfirst (by omega)
          go_wp2_with (go_at_call 7; refine (zzIsNumber_any _ _ _ _ _ _ (by omega) hc).mono ?_; rintro e w' ⟨rfl, rfl⟩)
          refine (decimal_any k Wk.out _).mono ?_
          rintro e w4 ⟨d, rfl, hd, hb5⟩
          have he : ((ln : Int) == (d.size : Int)) = true := by
            rw [beq_iff_eq]
            have h1 := H1.out; have h2 := Hsz.out; have h3 := HM.out
            omega
          clear hd
          go_wp2
          go_ret
          exact ⟨rfl, (hb3.trans (hb4.mono hb3.size)).trans (hb5.mono (Nat.le_trans hb3.size hb4.size))⟩

set_option maxRecDepth 100000 in
theorem lifted (os : Os) (started : os.Started) (H : Type) (enc : TypeId × Value → H) :
    ReturnsInTold none {} Tryf.checked os 3 .any Input.okWide ((OpenSpec.ofChange Rows.fnIsNumberAcceptsTermFieldIndexSpec).preRow enc Tryf.prog Tryf.f3 [] false []) (fun F => ((OpenSpec.ofChange Rows.fnIsNumberAcceptsTermFieldIndexSpec).at F).post enc Tryf.prog Tryf.f3 false true false false) (aloneAtReturn Tryf.prog) nothingAlways := by
  refine returnsInTold_of_row (C := Tryf.checked) (s := OpenSpec.ofChange Rows.fnIsNumberAcceptsTermFieldIndexSpec) (by kernel_rfl) own started (by kernel_rfl) Tryf.func3
    (OpenSpec.witness_stopped (enc := enc) (C := Tryf.checked) false ⟨#[], #[.int .i64 1], []⟩ 8 (by kernel_rfl) (by kernel_rfl) (by kernel_rfl) (by kernel_rfl)) ?_
  intro F W base args ds gs before _ hF hval0 hW _ _ hsz _ _
  have hval : ∀ (j : Nat) t v, Tryf.f3.params[j]? = some t → args[j]? = some v → Value.okWide Tryf.prog W .any base t v := hval0
  have hW' := hW
  obtain ⟨p, q, hA0, hV, rfl, hfz, hnd⟩ := hW
  have hA : DataW.TrodAll enc Tryf.prog W 0 (fun _ => true) true Tryf.f3.params.toList args.toList ds p := hA0
  rw [Tryf.params3] at hA hval
  obtain ⟨v0, d0, rfl, rfl, h0⟩ := trodAll_one hA
  obtain ⟨rfl, rfl⟩ := trodVars_none hV
  obtain ⟨k, rfl, rfl, rfl, wk⟩ := open_int Tryf.underlying3 (hval 0 3 v0 rfl rfl) h0
  clear hA0 hval0
  refine (walk F k wk W hF).mono fun e W' ⟨he, hw⟩ => ?_
  subst he
  refine ⟨_, rfl, _, _, _, [], [], [], hW', ?_, ?_, rfl, ?_, fun h => by cases h⟩
  · exact trodAll_mk1 (shut_bool Tryf.underlying4 true)
  · exact trodAll_mk1 (shut_int Tryf.underlying3 wk)
  · exact hw.frame _

theorem laidOut : laidOutB Tryf.pinned.checked.prog = true := by kernel_rfl
theorem stops : Tryf.pinned.checked.prog.stops = ["fmt.Sprintf"] := by kernel_rfl
theorem stopKnobs : Tryf.pinned.checked.prog.stopKnobs = [] := by kernel_rfl
theorem quiet (os : Os) : Stop.quiet Tryf.pinned.checked.prog os := by
  intro k hk
  rw [stopKnobs] at hk
  cases hk

/-- ████ THE STATEMENT ████ -/
theorem proved : Rows.FnIsNumberAcceptsTermFieldIndexToldSaid :=
  Claim7.holds_of_told_any 3 Tryf.f3 "fmt.Sprintf" [] [] _ _ _ (by kernel_rfl) rfl rfl rfl laidOut (by kernel_rfl) rfl ⟨rfl, rfl, rfl, rfl, rfl, rfl, rfl⟩ rfl rfl (by kernel_rfl) (by kernel_rfl) Tryf.func3 (by kernel_rfl)
    (of_decide_eq_true (by kernel_rfl)) (by unfold Func.isWrapper; first | (rw [if_pos (by decide +kernel)]; kernel_rfl) | (rw [if_neg (by decide +kernel)]; exact ⟨rfl, rfl⟩)) stops.symm rfl stopKnobs.symm (by kernel_rfl)
    (by kernel_rfl) (by kernel_rfl) (by kernel_rfl) (by kernel_rfl) (by kernel_rfl) (by kernel_rfl) (by kernel_rfl) (by kernel_rfl) (by kernel_rfl) rfl (by kernel_rfl) rfl rfl
    rfl rfl
    rfl (by kernel_rfl) (by kernel_rfl) (by kernel_rfl) (by decide) (by kernel_rfl)
    (OpenClaim.moreEntering_of (by kernel_rfl) (by kernel_rfl) (by kernel_rfl) (by kernel_rfl) (by kernel_rfl) (by kernel_rfl) (by kernel_rfl) (by kernel_rfl) (by kernel_rfl) (by kernel_rfl))
    ⟨_, WideRow.started_initial, quiet _⟩
    (fun os started _ H enc _ => lifted os started H enc)
end Go.Proofs.Qxb6614965aFmt.fnIsNumberAcceptsTermFieldIndex
