/-
  addedWalk.walk at a list node.
-/
import Derived.Test.Qxb6609120aDoorWalkList
import Derived.Test.Qxb6609120aDoorWalk1
namespace Go.Proofs.Qxb6609120aDoor
open Go.RowKit
open Plain (Srt Asc asc_ext)
set_option linter.unusedVariables false

set_option maxRecDepth 10000 in
theorem walk_list (wb gb B : Nat) (ok : Nat → Prop) (w : World) (Y : List Int) (b : Int) (H : Wk wb gb B ok w Y b) (hbw : Hid (wrap64 b = b)) (h base : Nat) (hh : h ≤ 4) (N S O : List Int) (nb lbn lon capn : Nat) (ps po : Option Addr) (hL : ListN w N nb lbn lon capn) (o1 : ok nb) (o2 : ok lbn) (hN : Ran N base (base + spn h)) (hS : Node ok h w base ps S) (hO : Node ok h w base po O) (hSN : ∀ x ∈ S, x ∈ N) (hOS : ∀ x ∈ O, x ∈ S) (hb : base % 4096 = 0) (hbig : base + spn h ≤ 1099511627776) (h32 : ∀ x ∈ N, x < 4294967296) (hY : Y.length + N.length ≤ 1099511627776) (hq : (binOp .eql 38 (.pointer (some ⟨nb, 0, none⟩)) (.pointer ps)).run Tryd.prog w = .ok (.bool false) w) :
    Calls Tryd.prog 37 #[.pointer (some ⟨wb, 0, none⟩), .pointer (some ⟨nb, 0, none⟩), .pointer ps, .pointer po, .int .i64 (h : Nat), .int .i64 (base : Nat)] w fun e w' => e = .returned (.bool true) ∧ Wk wb gb B ok w' (Y ++ rk N S O b) (wrap64 (b + (O.length : Int))) ∧ Fr ok w w' := by
  have HC := hid_of (walkList_any wb gb B ok w Y b H hbw h base hh N S O nb lbn lon capn ps po hL o1 o2 hN hS hO hSN hOS hb hbig h32 hY)
  have c2 := hL.cells.list
  have hne := neq_slice w 69 109 (some ⟨lbn, lon, none⟩) N.length capn Tryd.underlying69
  clear H hbw hL hN hS hO hSN hOS hb hbig h32 hY
  go_enter Tryd.func37, Tryd.ntmps37
  go_wp2_with (go_at_call 46; refine HC.out.mono ?_; rintro _ w1 ⟨rfl, hW1, hf1⟩; have HW1 := hid_of hW1; clear hW1)
  go_ret
  exact ⟨rfl, HW1.out, hf1⟩
end Go.Proofs.Qxb6609120aDoor
