/-
  math/bits.OnesCount64, walked.
-/
import Derived.Test.Qxb6609120aDoorOnes
import Derived.Laws.Bits128
namespace Go.Proofs.Qxb6609120aDoor
open Go.RowKit
set_option linter.unusedVariables false

theorem u64_id {n : Int} (h0 : 0 ≤ n) (h1 : n < 18446744073709551616) : IntKind.u64.wrap n = n := by
  simp only [IntKind.wrap_u64]; omega
theorem rep85 : rep 8 85 = 6148914691236517205 := by decide
theorem rep51 : rep 8 51 = 3689348814741910323 := by decide
theorem rep15 : rep 8 15 = 1085102592571150095 := by decide
theorem s1 (v : Nat) (hv : v < 18446744073709551616) : IntKind.u64.wrap (bits BinOp.and IntKind.u64 ((v : Int) / 2) 6148914691236517205 + bits BinOp.and IntKind.u64 (v : Int) 6148914691236517205) = ((p1 8 v : Nat) : Int) ∧ p1 8 v < 18446744073709551616 := by
  have a := bits_and_u64_nat (v / 2) 6148914691236517205 (by omega) (by decide)
  have b := bits_and_u64_nat v 6148914691236517205 hv (by decide)
  have x := Nat.and_le_right (n := v / 2) (m := 6148914691236517205)
  have y := Nat.and_le_right (n := v) (m := 6148914691236517205)
  rw [show ((v / 2 : Nat) : Int) = (v : Int) / 2 by omega] at a
  unfold p1
  rw [rep85]
  refine ⟨?_, by omega⟩
  rw [show (6148914691236517205 : Int) = ((6148914691236517205 : Nat) : Int) by rfl, a, b, u64_id (by omega) (by omega)]
  omega
theorem s2 (v : Nat) (hv : v < 18446744073709551616) : IntKind.u64.wrap (bits BinOp.and IntKind.u64 ((v : Int) / 4) 3689348814741910323 + bits BinOp.and IntKind.u64 (v : Int) 3689348814741910323) = ((p2 8 v : Nat) : Int) ∧ p2 8 v ≤ 7378697629483820646 := by
  have a := bits_and_u64_nat (v / 4) 3689348814741910323 (by omega) (by decide)
  have b := bits_and_u64_nat v 3689348814741910323 hv (by decide)
  have x := Nat.and_le_right (n := v / 4) (m := 3689348814741910323)
  have y := Nat.and_le_right (n := v) (m := 3689348814741910323)
  rw [show ((v / 4 : Nat) : Int) = (v : Int) / 4 by omega] at a
  unfold p2
  rw [rep51]
  refine ⟨?_, by omega⟩
  rw [show (3689348814741910323 : Int) = ((3689348814741910323 : Nat) : Int) by rfl, a, b, u64_id (by omega) (by omega)]
  omega
theorem s3 (v : Nat) (hv : v ≤ 7378697629483820646) : bits BinOp.and IntKind.u64 (IntKind.u64.wrap ((v : Int) / 16 + (v : Int))) 1085102592571150095 = ((p3 8 v : Nat) : Int) ∧ p3 8 v ≤ 1085102592571150095 := by
  have a := bits_and_u64_nat (v / 16 + v) 1085102592571150095 (by omega) (by decide)
  have x := Nat.and_le_right (n := v / 16 + v) (m := 1085102592571150095)
  unfold p3
  rw [rep15]
  refine ⟨?_, x⟩
  rw [u64_id (by omega) (by omega), show (v : Int) / 16 + (v : Int) = ((v / 16 + v : Nat) : Int) by omega, show (1085102592571150095 : Int) = ((1085102592571150095 : Nat) : Int) by rfl]
  exact a
theorem s4 (v : Nat) (hv : v ≤ 1085102592571150095) : IntKind.u64.wrap ((v : Int) + (v : Int) / 256) = ((v + v / 256 : Nat) : Int) := by rw [u64_id (by omega) (by omega)]; omega
theorem s5 (v : Nat) (hv : v ≤ 2170205185142300190) : IntKind.u64.wrap ((v : Int) + (v : Int) / 65536) = ((v + v / 65536 : Nat) : Int) := by rw [u64_id (by omega) (by omega)]; omega
theorem s6 (v : Nat) (hv : v ≤ 4340410370284600380) : IntKind.u64.wrap ((v : Int) + (v : Int) / 4294967296) = ((v + v / 4294967296 : Nat) : Int) := by rw [u64_id (by omega) (by omega)]; omega

set_option maxRecDepth 10000 in
theorem ones_any (v : Nat) (hv : v < 18446744073709551616) (w : World) : Calls Tryd.prog 49 #[.int .u64 (v : Nat)] w fun e w' => e = .returned (.int .i64 (cnt v 64 : Nat)) ∧ w' = w := by
  obtain ⟨a1, b1⟩ := s1 v hv
  obtain ⟨a2, b2⟩ := s2 (p1 8 v) b1
  obtain ⟨a3, b3⟩ := s3 (p2 8 (p1 8 v)) b2
  have hq := q3_p v hv
  change q3 (p3 8 (p2 8 (p1 8 v))) = _ at hq
  generalize p3 8 (p2 8 (p1 8 v)) = y at *
  have a4 := s4 y b3
  have b4 : y + y / 256 ≤ 2170205185142300190 := by omega
  unfold q3 at hq
  generalize y + y / 256 = z at *
  have a5 := s5 z b4
  have b5 : z + z / 65536 ≤ 4340410370284600380 := by omega
  simp only at hq
  generalize z + z / 65536 = u at *
  have a6 := s6 u b5
  have b6 : u + u / 4294967296 < 9223372036854775808 := by omega
  generalize u + u / 4294967296 = t at *
  have A1 : Hid _ := a1
  have A2 : Hid _ := a2
  have A3 : Hid _ := a3
  have A4 : Hid _ := a4
  have A5 : Hid _ := a5
  have A6 : Hid _ := a6
  have HQ : Hid (t &&& 127 = cnt v 64) := hq
  have B6 : Hid (t < 9223372036854775808) := b6
  clear a1 a2 a3 a4 a5 a6 b1 b2 b3 b4 b5 b6 hq hv
  go_enter Tryd.func49, Tryd.ntmps49
  go_wp2_with fail
  go_ret
  have e : wrap64 (t : Int) = (t : Int) := by have := B6.out; unfold wrap64; omega
  simp only [A1.out, A2.out, A3.out, A4.out, A5.out, A6.out, e, i64_and127]
  refine ⟨?_, trivial⟩
  rw [← HQ.out, show (127 : Nat) = 2 ^ 7 - 1 by rfl, Nat.and_two_pow_sub_one_eq_mod]
  rfl
end Go.Proofs.Qxb6609120aDoor
