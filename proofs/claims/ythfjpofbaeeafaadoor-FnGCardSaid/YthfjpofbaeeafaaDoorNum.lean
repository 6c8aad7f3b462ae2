/-
  spec.FloatOf: the binary number of some bits, case by case.
-/
import Derived.Test.YthfjpofbaeeafaaDoorTabs
import Derived.RegionTactic
import Derived.ChangeAlike
namespace Go.Proofs.YthfjpofbaeeafaaDoor
open Go.RowKit

theorem and_mask_u64 (x n : Nat) (h : x < 18446744073709551616) (hn : n < 64) : Go.bits .and .u64 (x : Int) ((2 ^ n - 1 : Nat) : Int) = ((x % 2 ^ n : Nat) : Int) := by
  have hp : 2 ^ n ≤ 2 ^ 63 := Nat.pow_le_pow_right (by decide) (by omega)
  have h1 := u64_and_nat x (2 ^ n - 1) h (by omega)
  rw [Nat.and_two_pow_sub_one_eq_mod] at h1
  exact h1
theorem i64_and_nat (a b : Nat) (ha : a < 9223372036854775808) (hb : b < 9223372036854775808) : Go.bits .and .i64 (a : Int) (b : Int) = ((a &&& b : Nat) : Int) := by
  have hx : a &&& b < 2 ^ 63 := Nat.and_lt_two_pow _ (by omega)
  show IntKind.i64.wrap ((BitVec.ofInt 64 (a : Int) &&& BitVec.ofInt 64 (b : Int)).toNat : Int) = _
  rw [BitVec.toNat_and, ofInt_u64 a (by omega), ofInt_u64 b (by omega), IntKind.wrap_i64]
  omega
theorem and_mask_i64 (x n : Nat) (h : x < 9223372036854775808) (hn : n < 63) : Go.bits .and .i64 (x : Int) ((2 ^ n - 1 : Nat) : Int) = ((x % 2 ^ n : Nat) : Int) := by
  have hp : 2 ^ n ≤ 2 ^ 62 := Nat.pow_le_pow_right (by decide) (by omega)
  have h1 := i64_and_nat x (2 ^ n - 1) h (by omega)
  rw [Nat.and_two_pow_sub_one_eq_mod] at h1
  exact h1
theorem or_pow_u64 (x n : Nat) (h : x < 2 ^ n) (hn : n < 63) : Go.bits .or .u64 (x : Int) ((2 ^ n : Nat) : Int) = ((x + 2 ^ n : Nat) : Int) := by
  have hp : 2 ^ n ≤ 2 ^ 62 := Nat.pow_le_pow_right (by decide) (by omega)
  have h1 := u64_or_nat x (2 ^ n) (by omega) (by omega)
  have h2 : x ||| 2 ^ n = x + 2 ^ n := by
    have := Nat.two_pow_add_eq_or_of_lt h 1
    rw [Nat.mul_one, Nat.or_comm, Nat.add_comm] at this
    exact this.symm
  rw [h2] at h1
  exact h1

set_option maxRecDepth 100000 in
set_option maxHeartbeats 1000000 in
theorem floatOf_top64 (bits : Nat) (w : World) (hb : bits / 2 ^ 52 % 2048 = 2047) (hU : U64 bits) :
    Calls Tryd.prog 23 #[.int .u64 bits, .bool true] w fun e w' => e = .returned (.tuple #[.agg #[.bool false, .int .u64 0, .int .i64 0, .bool false], .bool false]) ∧ Still w w' := by
  obtain ⟨Q, hQ⟩ : ∃ Q, Q = bits / 2 ^ 52 := ⟨_, rfl⟩
  obtain ⟨L, hL⟩ : ∃ L, L = bits % 2 ^ 52 := ⟨_, rfl⟩
  have hU' : bits < 18446744073709551616 := hU
  have hQ1 : Q < 8192 := by rw [hQ]; unfold U64 at hU; omega
  have e1 : (bits : Int) / 4503599627370496 = (Q : Int) := by rw [hQ]; omega
  have e2 : IntKind.i64.wrap (Q : Int) = (Q : Int) := by rw [IntKind.wrap_i64]; omega
  have e3 : Go.bits .and .i64 (Q : Int) 2047 = ((Q % 2048 : Nat) : Int) := and_mask_i64 Q 11 (by omega) (by omega)
  have e4 : Go.bits .and .u64 (bits : Int) 4503599627370495 = (L : Int) := by rw [hL]; exact and_mask_u64 bits 52 hU' (by omega)
  have hL1 : L < 4503599627370496 := by rw [hL]; omega
  rw [show Q % 2048 = 2047 from by rw [hQ]; exact hb] at e3
  have HQ := Lib.hid hQ
  have HL := Lib.hid hL
  clear hQ hL hU hU' hb
  go_enter Tryd.func23, Tryd.ntmps23
  go_wp2_with fail
  exact bodyPost_ret (v := .tuple #[.agg #[.bool false, .int .u64 0, .int .i64 0, .bool false], .bool false]) (by simp [results, Tryd.results23, go_sem]) rfl ⟨rfl, by repeat (first | exact Still.refl _ | refine Still.alloc ?_ _)⟩

set_option maxRecDepth 100000 in
set_option maxHeartbeats 1000000 in
theorem floatOf_zero64 (bits : Nat) (w : World) (hb : bits / 2 ^ 52 % 2048 = 0) (hU : U64 bits) :
    Calls Tryd.prog 23 #[.int .u64 bits, .bool true] w fun e w' => e = .returned (.tuple #[.agg #[.bool (decide (0 < bits / 2 ^ 52 / 2048)), .int .u64 ((bits % 2 ^ 52 : Nat) : Int), .int .i64 (-1074), .bool false], .bool true]) ∧ Still w w' := by
  obtain ⟨Q, hQ⟩ : ∃ Q, Q = bits / 2 ^ 52 := ⟨_, rfl⟩
  obtain ⟨L, hL⟩ : ∃ L, L = bits % 2 ^ 52 := ⟨_, rfl⟩
  have hU' : bits < 18446744073709551616 := hU
  have hQ1 : Q < 8192 := by rw [hQ]; unfold U64 at hU; omega
  have e1 : (bits : Int) / 4503599627370496 = (Q : Int) := by rw [hQ]; omega
  have e2 : IntKind.i64.wrap (Q : Int) = (Q : Int) := by rw [IntKind.wrap_i64]; omega
  have e3 : Go.bits .and .i64 (Q : Int) 2047 = ((Q % 2048 : Nat) : Int) := and_mask_i64 Q 11 (by omega) (by omega)
  have e4 : Go.bits .and .u64 (bits : Int) 4503599627370495 = (L : Int) := by rw [hL]; exact and_mask_u64 bits 52 hU' (by omega)
  have hL1 : L < 4503599627370496 := by rw [hL]; omega
  rw [show Q % 2048 = 0 from by rw [hQ]; exact hb] at e3
  rw [← hQ, ← hL]
  have HQ := Lib.hid hQ
  have HL := Lib.hid hL
  clear hQ hL hU hU' hb
  go_enter Tryd.func23, Tryd.ntmps23
  go_wp2_with fail
  all_goals exact bodyPost_ret (v := .tuple #[.agg #[.bool (decide (0 < Q / 2048)), .int .u64 (L : Int), .int .i64 (-1074), .bool false], .bool true]) (by simp [results, Tryd.results23, go_sem, *]; first | omega | exact ⟨by omega, by decide, by omega, by omega⟩ | exact ⟨by omega, by omega⟩) rfl ⟨rfl, by repeat (first | exact Still.refl _ | refine Still.alloc ?_ _ | refine Still.drew ?_)⟩

set_option maxRecDepth 100000 in
set_option maxHeartbeats 1000000 in
theorem floatOf_pos64 (bits : Nat) (w : World) (E : Nat) (hb : bits / 2 ^ 52 % 2048 = E) (hE0 : 0 < E) (hE1 : E < 2047) (hU : U64 bits) :
    Calls Tryd.prog 23 #[.int .u64 bits, .bool true] w fun e w' => e = .returned (.tuple #[.agg #[.bool (decide (0 < bits / 2 ^ 52 / 2048)), .int .u64 ((bits % 2 ^ 52 + 4503599627370496 : Nat) : Int), .int .i64 (E - 1075), .bool (decide (bits % 2 ^ 52 = 0) && decide (1 < E))], .bool true]) ∧ Still w w' := by
  obtain ⟨Q, hQ⟩ : ∃ Q, Q = bits / 2 ^ 52 := ⟨_, rfl⟩
  obtain ⟨L, hL⟩ : ∃ L, L = bits % 2 ^ 52 := ⟨_, rfl⟩
  have hU' : bits < 18446744073709551616 := hU
  have hQ1 : Q < 8192 := by rw [hQ]; unfold U64 at hU; omega
  have e1 : (bits : Int) / 4503599627370496 = (Q : Int) := by rw [hQ]; omega
  have e2 : IntKind.i64.wrap (Q : Int) = (Q : Int) := by rw [IntKind.wrap_i64]; omega
  have e3 : Go.bits .and .i64 (Q : Int) 2047 = ((Q % 2048 : Nat) : Int) := and_mask_i64 Q 11 (by omega) (by omega)
  have e4 : Go.bits .and .u64 (bits : Int) 4503599627370495 = (L : Int) := by rw [hL]; exact and_mask_u64 bits 52 hU' (by omega)
  have hL1 : L < 4503599627370496 := by rw [hL]; omega
  rw [show Q % 2048 = E from by rw [hQ]; exact hb] at e3
  have e5 : Go.bits .or .u64 (L : Int) 4503599627370496 = ((L + 4503599627370496 : Nat) : Int) := or_pow_u64 L 52 hL1 (by omega)
  have hEi : (0 : Int) < E := by omega
  have hEt : ((E : Int) == 2047) = false := by simp; omega
  rw [← hQ, ← hL]
  have HQ := Lib.hid hQ
  have HL := Lib.hid hL
  clear hQ hL hU hU' hb
  go_enter Tryd.func23, Tryd.ntmps23
  go_wp2_with fail
  all_goals
    go_region
    go_wp2_with fail
  all_goals exact bodyPost_ret (v := .tuple #[.agg #[.bool (decide (0 < Q / 2048)), .int .u64 ((L + 4503599627370496 : Nat) : Int), .int .i64 (E - 1075), .bool (decide (L = 0) && decide (1 < E))], .bool true]) (by simp [results, Tryd.results23, go_sem, *]; first | omega | exact ⟨by omega, by decide, by omega, by omega⟩ | exact ⟨by omega, by omega⟩) rfl ⟨rfl, by repeat (first | exact Still.refl _ | refine Still.alloc ?_ _ | refine Still.drew ?_)⟩

set_option maxRecDepth 100000 in
set_option maxHeartbeats 1000000 in
theorem floatOf_top32 (bits : Nat) (w : World) (hb : bits / 2 ^ 23 % 256 = 255) (hU : bits < 4294967296) :
    Calls Tryd.prog 23 #[.int .u64 bits, .bool false] w fun e w' => e = .returned (.tuple #[.agg #[.bool false, .int .u64 0, .int .i64 0, .bool false], .bool false]) ∧ Still w w' := by
  obtain ⟨Q, hQ⟩ : ∃ Q, Q = bits / 2 ^ 23 := ⟨_, rfl⟩
  obtain ⟨L, hL⟩ : ∃ L, L = bits % 2 ^ 23 := ⟨_, rfl⟩
  have hU' : bits < 18446744073709551616 := by omega
  have hQ1 : Q < 8192 := by rw [hQ]; omega
  have e1 : (bits : Int) / 8388608 = (Q : Int) := by rw [hQ]; omega
  have e2 : IntKind.i64.wrap (Q : Int) = (Q : Int) := by rw [IntKind.wrap_i64]; omega
  have e3 : Go.bits .and .i64 (Q : Int) 255 = ((Q % 256 : Nat) : Int) := and_mask_i64 Q 8 (by omega) (by omega)
  have e4 : Go.bits .and .u64 (bits : Int) 8388607 = (L : Int) := by rw [hL]; exact and_mask_u64 bits 23 hU' (by omega)
  have hL1 : L < 8388608 := by rw [hL]; omega
  rw [show Q % 256 = 255 from by rw [hQ]; exact hb] at e3
  have HQ := Lib.hid hQ
  have HL := Lib.hid hL
  clear hQ hL hU hU' hb
  go_enter Tryd.func23, Tryd.ntmps23
  go_wp2_with fail
  exact bodyPost_ret (v := .tuple #[.agg #[.bool false, .int .u64 0, .int .i64 0, .bool false], .bool false]) (by simp [results, Tryd.results23, go_sem]) rfl ⟨rfl, by repeat (first | exact Still.refl _ | refine Still.alloc ?_ _)⟩

set_option maxRecDepth 100000 in
set_option maxHeartbeats 1000000 in
theorem floatOf_zero32 (bits : Nat) (w : World) (hb : bits / 2 ^ 23 % 256 = 0) (hU : bits < 4294967296) :
    Calls Tryd.prog 23 #[.int .u64 bits, .bool false] w fun e w' => e = .returned (.tuple #[.agg #[.bool (decide (0 < bits / 2 ^ 23 / 256)), .int .u64 ((bits % 2 ^ 23 : Nat) : Int), .int .i64 (-149), .bool false], .bool true]) ∧ Still w w' := by
  obtain ⟨Q, hQ⟩ : ∃ Q, Q = bits / 2 ^ 23 := ⟨_, rfl⟩
  obtain ⟨L, hL⟩ : ∃ L, L = bits % 2 ^ 23 := ⟨_, rfl⟩
  have hU' : bits < 18446744073709551616 := by omega
  have hQ1 : Q < 8192 := by rw [hQ]; omega
  have e1 : (bits : Int) / 8388608 = (Q : Int) := by rw [hQ]; omega
  have e2 : IntKind.i64.wrap (Q : Int) = (Q : Int) := by rw [IntKind.wrap_i64]; omega
  have e3 : Go.bits .and .i64 (Q : Int) 255 = ((Q % 256 : Nat) : Int) := and_mask_i64 Q 8 (by omega) (by omega)
  have e4 : Go.bits .and .u64 (bits : Int) 8388607 = (L : Int) := by rw [hL]; exact and_mask_u64 bits 23 hU' (by omega)
  have hL1 : L < 8388608 := by rw [hL]; omega
  rw [show Q % 256 = 0 from by rw [hQ]; exact hb] at e3
  rw [← hQ, ← hL]
  have HQ := Lib.hid hQ
  have HL := Lib.hid hL
  clear hQ hL hU hU' hb
  go_enter Tryd.func23, Tryd.ntmps23
  go_wp2_with fail
  all_goals exact bodyPost_ret (v := .tuple #[.agg #[.bool (decide (0 < Q / 256)), .int .u64 (L : Int), .int .i64 (-149), .bool false], .bool true]) (by simp [results, Tryd.results23, go_sem, *]; first | omega | exact ⟨by omega, by decide, by omega, by omega⟩ | exact ⟨by omega, by omega⟩) rfl ⟨rfl, by repeat (first | exact Still.refl _ | refine Still.alloc ?_ _ | refine Still.drew ?_)⟩

set_option maxRecDepth 100000 in
set_option maxHeartbeats 1000000 in
theorem floatOf_pos32 (bits : Nat) (w : World) (E : Nat) (hb : bits / 2 ^ 23 % 256 = E) (hE0 : 0 < E) (hE1 : E < 255) (hU : bits < 4294967296) :
    Calls Tryd.prog 23 #[.int .u64 bits, .bool false] w fun e w' => e = .returned (.tuple #[.agg #[.bool (decide (0 < bits / 2 ^ 23 / 256)), .int .u64 ((bits % 2 ^ 23 + 8388608 : Nat) : Int), .int .i64 (E - 150), .bool (decide (bits % 2 ^ 23 = 0) && decide (1 < E))], .bool true]) ∧ Still w w' := by
  obtain ⟨Q, hQ⟩ : ∃ Q, Q = bits / 2 ^ 23 := ⟨_, rfl⟩
  obtain ⟨L, hL⟩ : ∃ L, L = bits % 2 ^ 23 := ⟨_, rfl⟩
  have hU' : bits < 18446744073709551616 := by omega
  have hQ1 : Q < 8192 := by rw [hQ]; omega
  have e1 : (bits : Int) / 8388608 = (Q : Int) := by rw [hQ]; omega
  have e2 : IntKind.i64.wrap (Q : Int) = (Q : Int) := by rw [IntKind.wrap_i64]; omega
  have e3 : Go.bits .and .i64 (Q : Int) 255 = ((Q % 256 : Nat) : Int) := and_mask_i64 Q 8 (by omega) (by omega)
  have e4 : Go.bits .and .u64 (bits : Int) 8388607 = (L : Int) := by rw [hL]; exact and_mask_u64 bits 23 hU' (by omega)
  have hL1 : L < 8388608 := by rw [hL]; omega
  rw [show Q % 256 = E from by rw [hQ]; exact hb] at e3
  have e5 : Go.bits .or .u64 (L : Int) 8388608 = ((L + 8388608 : Nat) : Int) := or_pow_u64 L 23 hL1 (by omega)
  have hEi : (0 : Int) < E := by omega
  have hEt : ((E : Int) == 255) = false := by simp; omega
  rw [← hQ, ← hL]
  have HQ := Lib.hid hQ
  have HL := Lib.hid hL
  clear hQ hL hU hU' hb
  go_enter Tryd.func23, Tryd.ntmps23
  go_wp2_with fail
  all_goals
    go_region
    go_wp2_with fail
  all_goals exact bodyPost_ret (v := .tuple #[.agg #[.bool (decide (0 < Q / 256)), .int .u64 ((L + 8388608 : Nat) : Int), .int .i64 (E - 150), .bool (decide (L = 0) && decide (1 < E))], .bool true]) (by simp [results, Tryd.results23, go_sem, *]; first | omega | exact ⟨by omega, by decide, by omega, by omega⟩ | exact ⟨by omega, by omega⟩) rfl ⟨rfl, by repeat (first | exact Still.refl _ | refine Still.alloc ?_ _ | refine Still.drew ?_)⟩

end Go.Proofs.YthfjpofbaeeafaaDoor
