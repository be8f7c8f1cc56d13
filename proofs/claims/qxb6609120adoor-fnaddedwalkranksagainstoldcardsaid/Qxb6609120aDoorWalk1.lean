/-
  addedWalk.walk: since is the same node, or there is none: old's ordinals are only counted.
-/
import Derived.Test.Qxb6609120aDoorRank
import Derived.LaidEqlPtr
import Derived.LaidEql
import Derived.Deep.RegionWith
namespace Go.Proofs.Qxb6609120aDoor
open Go.RowKit
open Plain (Srt Asc asc_ext)
set_option linter.unusedVariables false

theorem eqIn_same {P : Program} (w : World) (d : Nat) {t te : TypeId} {j : TypeInfo} (a : Addr) (hp : P.underlying t = some (.pointer te)) (hte : P.info? te = some j) :
    (Op.equalIn (d + 1) t (.pointer (some a)) (.pointer (some a))).run P w = .ok true w := by
  simp [Op.equalIn, run_underlying hp, sizeOf, typeInfo, hte, run_sameAddr_same]
theorem eqIn_other {P : Program} (w : World) (d : Nat) {t te : TypeId} {j : TypeInfo} {a b : Addr} {ca cb : Array Value} {ta tb : TypeId} (hp : P.underlying t = some (.pointer te)) (hte : P.info? te = some j) (hsz : j.size ≠ 0)
    (hne : a ≠ b) (ha : w.heap[a.block]? = some (.cells ca ta (0, 0))) (hb : w.heap[b.block]? = some (.cells cb tb (0, 0))) :
    (Op.equalIn (d + 1) t (.pointer (some a)) (.pointer (some b))).run P w = .ok false w := by
  simp [Op.equalIn, run_underlying hp, sizeOf, typeInfo, hte, hsz, run_sameAddr_other w hne ha hb]
theorem eql_same {P : Program} (w : World) {t te : TypeId} {j : TypeInfo} (a : Addr) (hp : P.underlying t = some (.pointer te)) (hte : P.info? te = some j) :
    (binOp .eql t (.pointer (some a)) (.pointer (some a))).run P w = .ok (.bool true) w := by
  simp only [binOp]
  simp [Op.equal, Op.maxDepth, eqIn_same w 9999 a hp hte]
theorem eql_other {P : Program} (w : World) {t te : TypeId} {j : TypeInfo} {a b : Addr} {ca cb : Array Value} {ta tb : TypeId} (hp : P.underlying t = some (.pointer te)) (hte : P.info? te = some j) (hsz : j.size ≠ 0)
    (hne : a ≠ b) (ha : w.heap[a.block]? = some (.cells ca ta (0, 0))) (hb : w.heap[b.block]? = some (.cells cb tb (0, 0))) :
    (binOp .eql t (.pointer (some a)) (.pointer (some b))).run P w = .ok (.bool false) w := by
  simp only [binOp]
  simp [Op.equal, Op.maxDepth, eqIn_other w 9999 hp hte hsz hne ha hb]
theorem eqIn_nil {P : Program} (w : World) (d : Nat) {t te : TypeId} {j : TypeInfo} (a : Addr) (hp : P.underlying t = some (.pointer te)) (hte : P.info? te = some j) :
    (Op.equalIn (d + 1) t (.pointer (some a)) (.pointer none)).run P w = .ok false w := by
  simp [Op.equalIn, run_underlying hp, sizeOf, typeInfo]
theorem eql_nil {P : Program} (w : World) {t te : TypeId} {j : TypeInfo} (a : Addr) (hp : P.underlying t = some (.pointer te)) (hte : P.info? te = some j) :
    (binOp .eql t (.pointer (some a)) (.pointer none)).run P w = .ok (.bool false) w := by
  simp only [binOp]
  simp [Op.equal, Op.maxDepth, eqIn_nil w 9999 a hp hte]
theorem info88z : (Tryd.prog.info? 88).map (fun i => i.size != 0) = some true := by kernel_rfl
theorem info88s : ∃ j, Tryd.prog.info? 88 = some j ∧ j.size ≠ 0 := by
  have h := info88z
  match hj : Tryd.prog.info? 88 with
  | none => rw [hj] at h; cases h
  | some j => rw [hj] at h; exact ⟨j, rfl, by simpa using h⟩
/-- A node's block. -/
theorem Node.obj {ok : Nat → Prop} {h : Nat} {w : World} {base : Nat} {p : Option Addr} {S : List Int} (H : Node ok h w base p S) : p = none ∨ ∃ b cs t, p = some ⟨b, 0, none⟩ ∧ w.heap[b]? = some (.cells cs t (0, 0)) := by
  cases h with
  | zero =>
    rcases H.2 with ⟨rfl, _⟩ | ⟨b, lb, lo, cap, rfl, hl, _, _⟩ | ⟨b, wb, W, rfl, hw, _, _⟩
    · exact .inl rfl
    · obtain ⟨cs, t, h⟩ := hl.cells.obj
      exact .inr ⟨b, cs, t, rfl, h⟩
    · obtain ⟨cs, t, h⟩ := hw.cells.obj
      exact .inr ⟨b, cs, t, rfl, h⟩
  | succ h =>
    rcases H.2 with ⟨rfl, _⟩ | ⟨b, lb, lo, cap, rfl, hl, _, _⟩ | ⟨b, kb, K, L, rfl, hc, _⟩
    · exact .inl rfl
    · obtain ⟨cs, t, h⟩ := hl.cells.obj
      exact .inr ⟨b, cs, t, rfl, h⟩
    · obtain ⟨cs, t, h⟩ := hc.obj
      exact .inr ⟨b, cs, t, rfl, h⟩
/-- n == since, two nodes that differ. -/
theorem node_ne {ok : Nat → Prop} {h : Nat} {w : World} {base nb : Nat} {k ws : Option Addr} {ls : Value} {ps : Option Addr} {S : List Int} (hn : NCell w nb k ws ls) (hs : Node ok h w base ps S) (hne : ps ≠ some ⟨nb, 0, none⟩) :
    (binOp .eql 38 (.pointer (some ⟨nb, 0, none⟩)) (.pointer ps)).run Tryd.prog w = .ok (.bool false) w := by
  obtain ⟨j, hj, hz⟩ := info88s
  rcases hs.obj with rfl | ⟨b, cs, t, rfl, hb⟩
  · exact eql_nil w _ Tryd.underlying38 hj
  · obtain ⟨cs', t', hb'⟩ := hn.obj
    exact eql_other w Tryd.underlying38 hj hz (by intro e; exact hne (by rw [e])) hb' hb
/-- One node, one set. -/
theorem Node.det {ok ok' : Nat → Prop} : ∀ {h : Nat} {w : World} {base : Nat} {p : Option Addr} {S S' : List Int}, Node ok h w base p S → Node ok' h w base p S' → S = S'
  | 0, w, base, p, S, S', H, H' => by
    rcases H.2 with ⟨rfl, rfl⟩ | ⟨b, lb, lo, cap, rfl, hl, _, _⟩ | ⟨b, wb, W, rfl, hw, _, _⟩
    · rcases H'.2 with ⟨_, h⟩ | ⟨_, _, _, _, h, _⟩ | ⟨_, _, _, h, _⟩
      · exact h.symm
      · cases h
      · cases h
    · rcases H'.2 with ⟨h, _⟩ | ⟨b', lb', lo', cap', h, hl', _, _⟩ | ⟨b', wb', W', h, hw', _, _⟩
      · cases h
      · cases h
        exact listN_det hl hl'
      · cases h
        have e := hl.cells.words.symm.trans hw'.cells.words
        cases e
    · rcases H'.2 with ⟨h, _⟩ | ⟨b', lb', lo', cap', h, hl', _, _⟩ | ⟨b', wb', W', h, hw', _, _⟩
      · cases h
      · cases h
        have e := hw.cells.words.symm.trans hl'.cells.words
        cases e
      · cases h
        have e := hw.cells.words.symm.trans hw'.cells.words
        cases e
        refine asc_ext H.1.asc H'.1.asc fun x => ?_
        have hbit : ∀ x : Int, bit W x = bit W' x := fun x => by
          have e2 := (hw.words.cell (x.toNat / 64 % 64) (by omega)).symm.trans (hw'.words.cell (x.toNat / 64 % 64) (by omega))
          simp at e2
          have e3 : W (x.toNat / 64 % 64) = W' (x.toNat / 64 % 64) := by omega
          unfold bit
          rw [e3]
        constructor
        · intro hx
          have h1 := H.1.lo x hx
          have h2 : x < (base : Int) + 4096 := by have := H.1.hi x hx; have e : spn 0 = 4096 := rfl; rw [e] at this; omega
          exact (hw'.mem x h1 h2).2 (by rw [← hbit]; exact (hw.mem x h1 h2).1 hx)
        · intro hx
          have h1 := H'.1.lo x hx
          have h2 : x < (base : Int) + 4096 := by have := H'.1.hi x hx; have e : spn 0 = 4096 := rfl; rw [e] at this; omega
          exact (hw.mem x h1 h2).2 (by rw [hbit]; exact (hw'.mem x h1 h2).1 hx)
  | h + 1, w, base, p, S, S', H, H' => by
    rcases H.2 with ⟨rfl, rfl⟩ | ⟨b, lb, lo, cap, rfl, hl, _, _⟩ | ⟨b, kb, K, L, rfl, hc, hk, hN, hL, _, _⟩
    · rcases H'.2 with ⟨_, h⟩ | ⟨_, _, _, _, h, _⟩ | ⟨_, _, _, _, h, _⟩
      · exact h.symm
      · cases h
      · cases h
    · rcases H'.2 with ⟨h, _⟩ | ⟨b', lb', lo', cap', h, hl', _, _⟩ | ⟨b', kb', K', L', h, hc', _⟩
      · cases h
      · cases h
        exact listN_det hl hl'
      · cases h
        have e := hl.cells.kids.symm.trans hc'.kids
        cases e
    · rcases H'.2 with ⟨h, _⟩ | ⟨b', lb', lo', cap', h, hl', _, _⟩ | ⟨b', kb', K', L', h, hc', hk', hN', hL', _, _⟩
      · cases h
      · cases h
        have e := hc.kids.symm.trans hl'.cells.kids
        cases e
      · cases h
        have e := hc.kids.symm.trans hc'.kids
        cases e
        have hl : ∀ i, i < 64 → L i = L' i := fun i hi => by
          have e2 := (hk i hi).symm.trans (hk' i hi)
          have e3 : K i = K' i := by simpa using e2
          have := hN i hi
          rw [e3] at this
          exact this.det (hN' i hi)
        refine asc_ext H.1.asc H'.1.asc fun x => ?_
        rw [hL, hL']
        exact ⟨fun ⟨i, hi, hx⟩ => ⟨i, hi, by rw [← hl i hi]; exact hx⟩, fun ⟨i, hi, hx⟩ => ⟨i, hi, by rw [hl i hi]; exact hx⟩⟩
where
  listN_det {w : World} {S S' : List Int} {b lb lo cap lb' lo' cap' : Nat} (hl : ListN w S b lb lo cap) (hl' : ListN w S' b lb' lo' cap') : S = S' := by
    have e := hl.cells.list.symm.trans hl'.cells.list
    simp at e
    obtain ⟨⟨e1, e2⟩, e3, e4⟩ := e
    subst e1
    subst e2
    refine List.ext_getElem e3 fun i h1 h2 => ?_
    have e5 := (hl.row.cell i h1).symm.trans (hl'.row.cell i h2)
    simpa using e5

set_option maxHeartbeats 1000000 in
set_option maxRecDepth 10000 in
/-- n == since, or n is nil: old's ordinals are counted. -/
theorem walk_skip (wb gb B : Nat) (ok : Nat → Prop) (w : World) (Y : List Int) (b : Int) (H : Wk wb gb B ok w Y b) (h : Nat) (x y : Int) (base : Nat) (O : List Int) (pn ps po : Option Addr) (hO : Node ok h w base po O) (r : Bool) (hq : (binOp .eql 38 (.pointer pn) (.pointer ps)).run Tryd.prog w = .ok (.bool r) w) (hr : r = true ∨ r = false ∧ pn = none) (hb : base % 4096 = 0) (hl : O.length ≤ 1099511627776) :
    Calls Tryd.prog 37 #[.pointer (some ⟨wb, 0, none⟩), .pointer pn, .pointer ps, .pointer po, .int .i64 x, .int .i64 y] w fun e w' => e = .returned (.bool true) ∧ Wk wb gb B ok w' Y (wrap64 (b + (O.length : Int))) ∧ Fr ok w w' := by
  obtain ⟨v0, v, l, H⟩ := H
  have hd := (Below.refl w.heap.size w).drew
  have c1 := H.c1
  have f1 := H.fw 1
  have HC := hid_of (count_any ok h base po O w.drew (hO.keep hd) hb hl)
  have HW := hid_of H
  clear hO H
  have fin : ∀ w', w' = (w.setCell ⟨wb, 1, none⟩ (.int .i64 (IntKind.i64.wrap (b + (O.length : Int))))).drew → Wk wb gb B ok w' Y (wrap64 (b + (O.length : Int))) ∧ Fr ok w w' := fun w' e => by
    subst e
    rw [IntWalk.i64_left]
    have h1 := HW.out.setB (wrap64 (b + (O.length : Int)))
    have hd1 := (Below.refl (w.setCell ⟨wb, 1, none⟩ (.int .i64 (wrap64 (b + (O.length : Int))))).heap.size (w.setCell ⟨wb, 1, none⟩ (.int .i64 (wrap64 (b + (O.length : Int)))))).drew
    exact ⟨⟨v0, v, l, h1.keep hd1⟩, (HW.out.setW 1 _).trans (Fr.of_below hd1 h1.lt)⟩
  have FIN := hid_of fin
  clear fin
  generalize O.length = n at *
  rcases hr with rfl | ⟨rfl, rfl⟩
  all_goals
    go_enter Tryd.func37, Tryd.ntmps37
    go_wp2_with fail
    go_region_with (go_at_call 45; refine HC.out.mono ?_; rintro _ _ ⟨rfl, hwe⟩; have hwe := hwe.symm; subst hwe)
    all_goals
      go_wp2_with fail
      go_ret
      exact ⟨rfl, FIN.out _ rfl⟩
end Go.Proofs.Qxb6609120aDoor
