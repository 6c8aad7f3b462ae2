/-
  spec.hex, spec.SamePower.
-/
import Derived.Test.YthfjpofbaeeafaaDoorTabs
import Derived.LoopTactic
import Derived.Deep.LoopGhost
import Derived.Deep.DeepCutAuto
import Derived.RegionTactic
namespace Go.Proofs.YthfjpofbaeeafaaDoor
open Go.RowKit

/-- The value of a digit in base 16; -1: it is none. -/
def hexv (c : Nat) : Int := if 48 ≤ c ∧ c ≤ 57 then (c : Int) - 48 else if 97 ≤ c ∧ c ≤ 102 then (c : Int) - 87 else if 65 ≤ c ∧ c ≤ 70 then (c : Int) - 55 else -1

set_option maxRecDepth 100000 in
theorem hex_any (c : Nat) (hc : c < 256) (w : World) : Calls Tryd.prog 34 #[.int .u8 (c : Int)] w fun e w' => e = .returned (.int .i64 (hexv c)) ∧ w = w' := by
  unfold hexv
  by_cases h1 : 48 ≤ c ∧ c ≤ 57
  · rw [if_pos h1]
    have i1 : (48 : Int) ≤ c := by omega
    have i2 : (c : Int) ≤ 57 := by omega
    clear h1
    go_enter Tryd.func34, Tryd.ntmps34
    go_wp2
    go_ret
    exact ⟨rfl, rfl⟩
  · rw [if_neg h1]
    by_cases h2 : 97 ≤ c ∧ c ≤ 102
    · rw [if_pos h2]
      have i1 : (97 : Int) ≤ c := by omega
      have i2 : (c : Int) ≤ 102 := by omega
      clear h1 h2
      go_enter Tryd.func34, Tryd.ntmps34
      go_wp2
      go_ret
      exact ⟨ret_int (by omega), rfl⟩
    · rw [if_neg h2]
      by_cases h3 : 65 ≤ c ∧ c ≤ 70
      · rw [if_pos h3]
        have i1 : (65 : Int) ≤ c := by omega
        have i2 : (c : Int) ≤ 70 := by omega
        clear h1 h2 h3
        go_enter Tryd.func34, Tryd.ntmps34
        go_wp2
        go_ret
        exact ⟨ret_int (by omega), rfl⟩
      · rw [if_neg h3]
        have hc' : (c : Int) < 256 := by omega
        have g1 : (c : Int) < 48 ∨ 57 < (c : Int) := by omega
        have g2 : (c : Int) < 97 ∨ 102 < (c : Int) := by omega
        have g3 : (c : Int) < 65 ∨ 70 < (c : Int) := by omega
        clear h1 h2 h3
        rcases g1 with g1 | g1 <;> rcases g2 with g2 | g2 <;> rcases g3 with g3 | g3 <;> first | (exfalso; omega) | skip
        all_goals
          go_enter Tryd.func34, Tryd.ntmps34
          go_wp2
          go_ret
          exact ⟨rfl, rfl⟩

set_option maxRecDepth 100000 in
set_option maxHeartbeats 2000000 in
/-- Zero, and zero. -/
theorem samePower_zero (pw at_ : Int) (m ed : Bool) (w : World) :
    Calls Tryd.prog 20 #[.int .u64 0, .int .i64 pw, .agg #[.bool m, .int .u64 0, .int .i64 at_, .bool ed]] w fun e w' => e = .returned (.bool true) ∧ Still w w' := by
  go_enter Tryd.func20, Tryd.ntmps20
  go_wp2
  go_ret
  exact ⟨rfl, (Still.refl w).alloc _⟩

set_option maxRecDepth 100000 in
set_option maxHeartbeats 2000000 in
/-- An odd number times two powers of two. -/
theorem samePower_odd (od a b : Nat) (pw at_ : Int) (m ed : Bool) (w : World) (ho : od % 2 = 1) (hp : pw + a = at_ + b) (ha : a < 100) (hb : b < 100) (hp0 : -100000 < pw) (hp1 : pw < 100000) (ha0 : -100000 < at_) (ha1 : at_ < 100000) (h1 : U64 (od * 2 ^ a)) (h2 : U64 (od * 2 ^ b)) :
    Calls Tryd.prog 20 #[.int .u64 (od * 2 ^ a : Nat), .int .i64 pw, .agg #[.bool m, .int .u64 (od * 2 ^ b : Nat), .int .i64 at_, .bool ed]] w fun e w' => e = .returned (.bool true) ∧ Still w w' := by
  obtain ⟨N, hN⟩ : ∃ N, N = od * 2 ^ a := ⟨_, rfl⟩
  obtain ⟨L, hL⟩ : ∃ L, L = od * 2 ^ b := ⟨_, rfl⟩
  have hN0 : 0 < N := by rw [hN]; exact Nat.mul_pos (by omega) (Nat.two_pow_pos _)
  have hL0 : 0 < L := by rw [hL]; exact Nat.mul_pos (by omega) (Nat.two_pow_pos _)
  rw [← hN] at h1 ⊢
  rw [← hL] at h2 ⊢
  have i1 : ((N : Int) == 0) = false := by simp; omega
  have i2 : ((L : Int) == 0) = false := by simp; omega
  have HN := Lib.hid hN
  have HL := Lib.hid hL
  have HP := Lib.hid hp
  clear hN hL hp
  go_enter Tryd.func20, Tryd.ntmps20
  go_wp2
  go_region
  go_wp2_with fail
  obtain ⟨w0, hw0⟩ : ∃ w0, w0 = (w.alloc (.cells #[.bool m, .int .u64 (L : Int), .int .i64 at_, .bool ed] 24)).drew := ⟨_, rfl⟩
  have HS : Still w w0 := by rw [hw0]; exact ((Still.refl w).alloc _).drew
  rw [← hw0]
  clear hw0
  go_loopg [0, 1] a (fun q n p wr => ∃ x : Nat, Hid (x = od * 2 ^ q) ∧ U64 x ∧ 0 < x ∧ n = .int .u64 (x : Int) ∧ p = .int .i64 (pw + ((a : Int) - q)) ∧ q ≤ a ∧ w0 = wr)
  case atStart => exact ⟨N, HN.out, h1, hN0, rfl, by go_num, Nat.le_refl _, rfl⟩
  case round =>
    obtain ⟨x, hx, hxU, hx0, rfl, rfl, hq, rfl⟩ := hrel
    by_cases hq0 : gk = 0
    · have hxo : x % 2 = 1 := by rw [hx.out, hq0]; simpa using ho
      have hxe : x = od := by rw [hx.out, hq0]; simp
      have i3 : ((x : Int) % 2 == 0) = false := by simp; omega
      obtain ⟨PW, hPW⟩ : ∃ PW : Int, PW = pw + ((a : Int) - (gk : Nat)) := ⟨_, rfl⟩
      rw [← hPW]
      have hPW2 : PW = pw + a := by rw [hPW, hq0]; omega
      have HPW := Lib.hid hPW2
      have HX := Lib.hid hxe
      clear hPW hPW2 hxe
      go_wp2_with fail
      go_loopg [7, 8] b (fun q n p wr => ∃ y : Nat, Hid (y = od * 2 ^ q) ∧ U64 y ∧ 0 < y ∧ n = .int .u64 (y : Int) ∧ p = .int .i64 (at_ + ((b : Int) - q)) ∧ q ≤ b ∧ w0 = wr)
      case atStart => exact ⟨L, HL.out, h2, hL0, rfl, by go_num, Nat.le_refl _, rfl⟩
      case round =>
        obtain ⟨y, hy, hyU, hy0, rfl, rfl, hq', rfl⟩ := hrel
        by_cases hr0 : gk = 0
        · have hyo : y % 2 = 1 := by rw [hy.out, hr0]; simpa using ho
          have hye : y = od := by rw [hy.out, hr0]; simp
          have hxy : x = y := by rw [HX.out, hye]
          have i4 : ((y : Int) % 2 == 0) = false := by simp; omega
          have hpp : PW = at_ + ((b : Int) - (gk : Nat)) := by have := HP.out; rw [HPW.out, hr0]; omega
          subst hxy
          rw [← hpp]
          clear hpp hye
          go_wp2_with fail
          go_ret
          exact ⟨rfl, HS⟩
        · have hye : y % 2 = 0 := by
            obtain ⟨k, rfl⟩ : ∃ k, gk = k + 1 := ⟨gk - 1, by omega⟩
            rw [hy.out, Nat.pow_succ, ← Nat.mul_assoc, Nat.mul_mod_left]
          have hyh : y / 2 = od * 2 ^ (gk - 1) := by
            obtain ⟨k, rfl⟩ : ∃ k, gk = k + 1 := ⟨gk - 1, by omega⟩
            rw [hy.out, Nat.pow_succ, ← Nat.mul_assoc, Nat.mul_div_cancel _ (by omega)]
            rfl
          have i4 : ((y : Int) % 2 == 0) = true := by simp; omega
          have HY := Lib.hid hyh
          have hyw : IntKind.u64.wrap ((y : Int) / 2) = (y : Int) / 2 := by rw [IntKind.wrap_u64]; unfold U64 at hyU; omega
          clear hyh
          go_wp2_with fail
          go_roundg (gk - 1)
          case measure => omega
          case rel => exact ⟨y / 2, HY.out, by unfold U64 at *; omega, by omega, by go_num, by go_num, by omega, rfl⟩
    · have hxe : x % 2 = 0 := by
        obtain ⟨k, rfl⟩ : ∃ k, gk = k + 1 := ⟨gk - 1, by omega⟩
        rw [hx.out, Nat.pow_succ, ← Nat.mul_assoc, Nat.mul_mod_left]
      have hxh : x / 2 = od * 2 ^ (gk - 1) := by
        obtain ⟨k, rfl⟩ : ∃ k, gk = k + 1 := ⟨gk - 1, by omega⟩
        rw [hx.out, Nat.pow_succ, ← Nat.mul_assoc, Nat.mul_div_cancel _ (by omega)]
        rfl
      have i3 : ((x : Int) % 2 == 0) = true := by simp; omega
      have HX := Lib.hid hxh
      have hxw : IntKind.u64.wrap ((x : Int) / 2) = (x : Int) / 2 := by rw [IntKind.wrap_u64]; unfold U64 at hxU; omega
      clear hxh
      go_wp2_with fail
      go_roundg (gk - 1)
      case measure => omega
      case rel => exact ⟨x / 2, HX.out, by unfold U64 at *; omega, by omega, by go_num, by go_num, by omega, rfl⟩
end Go.Proofs.YthfjpofbaeeafaaDoor
