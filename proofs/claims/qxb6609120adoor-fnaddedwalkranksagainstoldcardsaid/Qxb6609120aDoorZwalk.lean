/-
  ZZwalk: the walk with a closure that gathers.
-/
import Derived.Test.Qxb6609120aDoorWalk5
namespace Go.Proofs.Qxb6609120aDoor
open Go.RowKit
open Plain (Srt Asc asc_ext)
set_option linter.unusedVariables false

theorem run_box71 (w : World) (f : Value) (n : Int) : (Instr.box 71 (.agg #[f, .int .i64 n, .slice none 0 0, .slice none 0 0])).run Tryd.prog w = .ok (.pointer (some ⟨w.heap.size, 0, none⟩)) (w.alloc (.cells #[f, .int .i64 n, .slice none 0 0, .slice none 0 0] 71)) := by
  simp [Instr.box, go_sem]
theorem wpList_box71 {ops : Array Oper} {rest : List Oper} {o : Oper} {a : Act} {w : World} {Q : Exit → Act → World → Prop} (hgd : o.guard = none) (x : Operand) (g : FuncId) (c : Value) (n : Int) (ho : o.op = Op.box 71 x) (hx : a.eval x = .agg #[.func (.func g) #[] #[c], .int .i64 n, .slice none 0 0, .slice none 0 0])
    (h : ∀ w', NewC w w' [.func (.func g) #[] #[c], .int .i64 n, .slice none 0 0, .slice none 0 0] → wpList Tryd.prog ops Q rest (a.put o.dst (.pointer (some ⟨w.heap.size, 0, none⟩))) w') : wpList Tryd.prog ops Q (o :: rest) a w := by
  refine wpList_plain hgd fun K hK => ?_
  unfold Oper.wp
  simp [execOp, ho, hx, run_box71 w (.func (.func g) #[] #[c]) n, Result.andThen]
  exact hK _ _ (h _ (newC w [.func (.func g) #[] #[c], .int .i64 n, .slice none 0 0, .slice none 0 0] 71))

/-- The memory as the walk begins. -/
theorem wk_start {w w1 w2 : World} {b : Int} (N1 : NewC w w1 [.slice none 0 0]) (N2 : NewC w1 w2 [.func (.func 36) #[] #[.pointer (some ⟨w.heap.size, 0, none⟩)], .int .i64 b, .slice none 0 0, .slice none 0 0]) (hT : Tab w) : Wk w1.heap.size w.heap.size w2.heap.size (fun k => k < w.heap.size) w2 [] b := by
  have s1 := N1.size
  have s2 := N2.size
  refine ⟨.slice none 0 0, fun _ => .slice none 0 0, fun _ => [], ⟨N2.cell 0 _ rfl, N2.cell 1 _ rfl, N2.warm, ?_, by omega, by omega, by omega, Nat.le_refl _, fun k hk => (by have hk : k < w.heap.size := hk; omega), hT.lt, (hT.keep N1.below).keep N2.below, cell_below N2.below (N1.cell 0 _ rfl), World.ownsRow_nil _ _ _ _, fun f hf => ?_, fun f hf => World.ownsRow_nil _ _ _ _, fun k hk => (by cases hk), fun k hk => (by have hk : k < w.heap.size := hk; omega), fun k hk e => (by cases e), fun f hf k hk e => (by cases e)⟩⟩
  · rw [N2.below.frozen (p := ⟨w.heap.size, 0, none⟩) (show w.heap.size < w1.heap.size by omega)]
    exact N1.warm 0
  · rcases hf with rfl | rfl
    · exact N2.cell 2 _ rfl
    · exact N2.cell 3 _ rfl
theorem wk_end {wb gb B : Nat} {w w2 w3 : World} {Y : List Int} {b : Int} (hb : Below w.heap.size w w2) (H : Wk wb gb B (fun k => k < w.heap.size) w3 Y b) (hF : Fr (fun k => k < w.heap.size) w2 w3) : (∃ gv, w3.cell? ⟨gb, 0, none⟩ = some gv ∧ Sl .i64 w3 gv Y) ∧ w3.cell? ⟨wb, 1, none⟩ = some (.int .i64 b) ∧ Below w.heap.size w w3 := by
  obtain ⟨v0, v, l, H⟩ := H
  refine ⟨⟨v0, H.g, ?_⟩, H.c1, ⟨hF.os.trans hb.os, hF.tape.trans hb.tape, hF.output.trans hb.output, Nat.le_trans hb.size hF.size, fun k hk => (hF.block k hk).trans (hb.block k hk)⟩⟩
  have ho := H.o0
  rcases ho.2 with ⟨hv, hn⟩ | ⟨g, cap, cur, hv, _⟩
  · have h0 : Y = [] := List.length_eq_zero_iff.1 hn
    rw [hv, h0]
    exact ⟨none, 0, rfl, Nat.le_refl _, fun _ => rfl, fun h => absurd rfl h⟩
  · rw [hv] at ho ⊢
    obtain ⟨q1, q2, q3, q4⟩ := own_of_row ho
    exact Sl.of_at q4.at q3

set_option maxRecDepth 10000 in
theorem zzWalk_any (ok : Nat → Prop) (h : Nat) (hh : h ≤ 4) (pn ps po : Option Addr) (N S O : List Int) (b : Int) (w : World) (hN : Node ok h w 0 pn N) (hS : Node ok h w 0 ps S) (hO : Node ok h w 0 po O) (hSN : ∀ x ∈ S, x ∈ N) (hOS : ∀ x ∈ O, x ∈ S) (h32 : ∀ x ∈ N, x < 4294967296) (hT : Tab w) (hbw : Hid (wrap64 b = b)) :
    Calls Tryd.prog 18 #[.pointer pn, .pointer ps, .pointer po, .int .i64 (h : Nat), .int .i64 0, .int .i64 b] w fun e w' => ∃ gv, e = .returned (.tuple #[gv, .int .i64 (wrap64 (b + (O.length : Int))), .bool true]) ∧ Sl .i64 w' gv (rk N S O b) ∧ Below w.heap.size w w' := by
  have hlen : N.length ≤ 1099511627776 := by
    have := asc_len hN.ran.asc (fun x hx => hN.ran.lo x hx) h32 (by decide)
    omega
  have HC : Hid (∀ w1 w2, NewC w w1 [.slice none 0 0] → NewC w1 w2 [.func (.func 36) #[] #[.pointer (some ⟨w.heap.size, 0, none⟩)], .int .i64 b, .slice none 0 0, .slice none 0 0] → Calls Tryd.prog 37 #[.pointer (some ⟨w1.heap.size, 0, none⟩), .pointer pn, .pointer ps, .pointer po, .int .i64 (h : Nat), .int .i64 0] w2 fun e w3 => e = .returned (.bool true) ∧ (∃ gv, w3.cell? ⟨w.heap.size, 0, none⟩ = some gv ∧ Sl .i64 w3 gv (rk N S O b)) ∧ w3.cell? ⟨w1.heap.size, 1, none⟩ = some (.int .i64 (wrap64 (b + (O.length : Int)))) ∧ Below w.heap.size w w3) := fun w1 w2 N1 N2 => by
    have hb2 : Below w.heap.size w w2 := N1.below.trans (N2.below.mono N1.below.size)
    have mv : ∀ {p : Option Addr} {T : List Int}, Node ok h w 0 p T → Node (fun k => k < w.heap.size) h w2 0 p T := fun hn => hn.go (fun k _ hlt => hb2.block k hlt) (fun k _ hlt => hlt)
    refine (walk_any w1.heap.size w.heap.size w2.heap.size h hh (fun k => k < w.heap.size) 0 pn ps po N S O [] b w2 (mv hN) (mv hS) (mv hO) hSN hOS rfl (spn_le4 h hh) h32 (by simpa using hlen) hbw (wk_start N1 N2 hT)).mono ?_
    rintro e w3 ⟨rfl, hW, hF⟩
    rw [List.nil_append] at hW
    obtain ⟨k1, k2, k3⟩ := wk_end hb2 hW hF
    exact ⟨rfl, k1, k2, k3⟩
  clear hN hS hO hSN hOS h32 hT hlen hbw
  go_enter Tryd.func18, Tryd.ntmps18
  go_wp2_with (first
    | (refine wpList_alloc35 rfl rfl ?_; intro w1 N1)
    | (refine wpList_box71 rfl (.tmp 20) 36 (.pointer (some ⟨w.heap.size, 0, none⟩)) b rfl rfl ?_; intro w2 N2)
    | (go_at_call 37
       refine (HC.out w1 w2 N1 N2).mono ?_
       rintro _ w3 ⟨rfl, ⟨gv, hg3, hs3⟩, hb3, hbel3⟩
       obtain ⟨ga, gn, gc, rfl⟩ : ∃ ga gn gc, gv = .slice ga gn gc := by
         obtain ⟨ga, gc, hv, _⟩ := hs3
         exact ⟨_, _, _, hv⟩
       have HS3 := hid_of hs3
       have HB3 := hid_of hbel3
       clear hs3 hbel3))
  go_quiet (fail)
  go_wp2_with fail
  refine bodyPost_ret (v := .tuple #[.slice ga gn gc, .int .i64 (wrap64 (b + (O.length : Int))), .bool true]) ?_ rfl ⟨_, rfl, HS3.out.keep (below_drewN _ _), HB3.out.trans ((below_drewN w3 nq).mono HB3.out.size)⟩
  simp only [results, Tryd.results18]
  simp
end Go.Proofs.Qxb6609120aDoor
