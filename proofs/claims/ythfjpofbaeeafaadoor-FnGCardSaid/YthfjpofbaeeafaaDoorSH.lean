/-
  Shift: the decimal times a power of two, to either side.
-/
import Derived.Test.YthfjpofbaeeafaaDoorRS
namespace Go.Proofs.YthfjpofbaeeafaaDoor
open Go.RowKit

set_option maxRecDepth 100000 in
set_option maxHeartbeats 2000000 in
theorem shift_pos {B : Nat} (W : World) (g : Nat) (f : Nat → Nat) (nd : Nat) (dp : Int) (M : Nat) (h : Dd W g f nd dp M 0) (hT : Tabs B W) (hB : B ≤ g) (hnd : nd ≤ 17) (hdp0 : 0 ≤ dp) (hdp1 : dp ≤ 17) (k : Nat) (hk0 : 0 < k) (hk1 : k ≤ 1000) :
    Calls Tryd.prog 66 #[.pointer (some ⟨g, 0, none⟩), .int .i64 k] W (ShRes W g M k 780 (-400) 400) := by
  have hpos := h.pos
  have HD := Lib.hid h
  have HT := Lib.hid hT
  have c800 := h.m.nd
  have hne : ((nd : Int) == 0) = false := by simp; omega
  have hkI : (0 : Int) < k := by omega
  clear h hT
  go_enter Tryd.func66, Tryd.ntmps66
  go_wp2_with fail
  go_loopg [1] k (fun q kv wr => ∃ (j c : Nat) (f1 : Nat → Nat) (nd1 : Nat) (dp1 : Int), kv = .int .i64 j ∧ 0 < j ∧ j ≤ q ∧ j + 60 * c = k ∧ nd1 ≤ 17 + 19 * c ∧ 0 ≤ dp1 ∧ dp1 ≤ 17 + 19 * c ∧ Dd wr g f1 nd1 dp1 M (60 * c : Nat) ∧ Kp g W wr)
  case atStart => exact ⟨k, 0, f, nd, dp, rfl, hk0, Nat.le_refl _, by omega, by omega, hdp0, by omega, HD.out, Kp.refl _ _⟩
  case round =>
    obtain ⟨j, c, f1, nd1, dp1, rfl, hj0, hjq, hjc, hn1, hd0, hd1, hDd, hKp⟩ := hrel
    have HDd := Lib.hid hDd
    have HKp := Lib.hid hKp
    clear hDd hKp
    have hTr : Tabs B wr := HKp.out.tabs HT.out hB
    have HTr := Lib.hid hTr
    clear hTr
    by_cases hgt : 60 < j
    · have hgtI : (60 : Int) < j := by omega
      go_wp2_with fail
      refine (leftShift_any wr g f1 nd1 dp1 M _ HDd.out HTr.out hB (by omega) (by omega) (by omega) (by omega) 60 (by decide) (by decide)).mono ?_
      rintro e w2 ⟨rfl, hk2, f2, nd2, dp2, hD2, hn2, hp2, hq2⟩
      have HK2 := Lib.hid hk2
      have HD2 := Lib.hid hD2
      clear hk2 hD2
      go_wp2_with fail
      go_roundg (gk - 1)
      case measure => omega
      case rel => exact ⟨j - 60, c + 1, f2, nd2, dp2, by go_num, by omega, by omega, by omega, by omega, by omega, by omega, (by have := HD2.out; rwa [show ((60 * (c + 1) : Nat) : Int) = ((60 * c : Nat) : Int) + ((60 : Nat) : Int) by omega]), HKp.out.trans HK2.out⟩
    · have hgtI : (j : Int) ≤ 60 := by omega
      have hcv : IntKind.u64.wrap (j : Int) = (j : Int) := by rw [IntKind.wrap_u64]; omega
      go_wp2_with fail
      refine (leftShift_any wr g f1 nd1 dp1 M _ HDd.out HTr.out hB (by omega) (by omega) (by omega) (by omega) j hj0 (by omega)).mono ?_
      rintro e w2 ⟨rfl, hk2, f2, nd2, dp2, hD2, hn2, hp2, hq2⟩
      have HK2 := Lib.hid hk2
      have HD2 := Lib.hid hD2
      clear hk2 hD2
      go_wp2_with fail
      go_end0
      exact ⟨rfl, HKp.out.trans HK2.out, f2, nd2, dp2, (by have := HD2.out; rwa [show ((60 * c : Nat) : Int) + (j : Int) = (k : Int) by omega] at this), by omega, by omega, by omega⟩

set_option maxRecDepth 100000 in
set_option maxHeartbeats 2000000 in
theorem shift_neg (W : World) (g : Nat) (f : Nat → Nat) (nd : Nat) (dp : Int) (M : Nat) (h : Dd W g f nd dp M 0) (hnd : nd ≤ 17) (hdp0 : 0 ≤ dp) (hdp1 : dp ≤ 17) (k : Nat) (hk0 : 0 < k) (hk1 : k ≤ 1075) :
    Calls Tryd.prog 66 #[.pointer (some ⟨g, 0, none⟩), .int .i64 (-(k : Int))] W (ShRes W g M (-(k : Int)) 780 (-400) 400) := by
  have hpos := h.pos
  have HD := Lib.hid h
  have c800 := h.m.nd
  have hne : ((nd : Int) == 0) = false := by simp; omega
  have hkI : (0 : Int) < k := by omega
  have hkd : decide ((0 : Int) < -(k : Int)) = false := decide_eq_false (by omega)
  have hkd2 : decide (-(k : Int) < 0) = true := decide_eq_true (by omega)
  clear h
  go_enter Tryd.func66, Tryd.ntmps66
  go_wp2_with fail
  go_loopg [1] k (fun q kv wr => ∃ (j c : Nat) (f1 : Nat → Nat) (nd1 : Nat) (dp1 : Int), kv = .int .i64 (-(j : Int)) ∧ 0 < j ∧ j ≤ q ∧ j + 60 * c = k ∧ nd1 ≤ 17 + 42 * c ∧ -(20 * c : Nat) ≤ dp1 ∧ dp1 ≤ 17 ∧ Dd wr g f1 nd1 dp1 M (-(60 * c : Nat)) ∧ Kp g W wr)
  case atStart => exact ⟨k, 0, f, nd, dp, rfl, hk0, Nat.le_refl _, by omega, by omega, by omega, by omega, HD.out, Kp.refl _ _⟩
  case round =>
    obtain ⟨j, c, f1, nd1, dp1, rfl, hj0, hjq, hjc, hn1, hd0, hd1, hDd, hKp⟩ := hrel
    have HDd := Lib.hid hDd
    have HKp := Lib.hid hKp
    clear hDd hKp
    by_cases hgt : 60 < j
    · have hgtI : (60 : Int) < j := by omega
      have hjj : -(j : Int) + 60 = -((j - 60 : Nat) : Int) := by omega
      go_wp2_with fail
      refine (rightShift_any wr g f1 nd1 dp1 M _ HDd.out (by omega) (by omega) (by omega) 60 (by decide) (by decide) (by omega)).mono ?_
      rintro e w2 ⟨rfl, hk2, f2, nd2, dp2, hD2, hn2, hp2, hq2⟩
      have HK2 := Lib.hid hk2
      have HD2 := Lib.hid hD2
      clear hk2 hD2
      go_wp2_with fail
      go_roundg (gk - 1)
      case measure => omega
      case rel => exact ⟨j - 60, c + 1, f2, nd2, dp2, by first | rfl | (congr 1), by omega, by omega, by omega, by omega, by omega, by omega, (by have := HD2.out; rwa [show (-((60 * (c + 1) : Nat) : Int)) = -((60 * c : Nat) : Int) - ((60 : Nat) : Int) by omega]), HKp.out.trans HK2.out⟩
    · have hgtI : (j : Int) ≤ 60 := by omega
      have hcv : IntKind.u64.wrap (j : Int) = (j : Int) := by rw [IntKind.wrap_u64]; omega
      have hng : -(-(j : Int)) = (j : Int) := by omega
      go_wp2_with fail
      refine (rightShift_any wr g f1 nd1 dp1 M _ HDd.out (by omega) (by omega) (by omega) j hj0 (by omega) (by omega)).mono ?_
      rintro e w2 ⟨rfl, hk2, f2, nd2, dp2, hD2, hn2, hp2, hq2⟩
      have HK2 := Lib.hid hk2
      have HD2 := Lib.hid hD2
      clear hk2 hD2
      go_wp2_with fail
      go_end0
      exact ⟨rfl, HKp.out.trans HK2.out, f2, nd2, dp2, (by have := HD2.out; rwa [show -((60 * c : Nat) : Int) - (j : Int) = -(k : Int) by omega] at this), by omega, by omega, by omega⟩

set_option maxRecDepth 100000 in
theorem shift_zero (W : World) (g : Nat) (f : Nat → Nat) (nd : Nat) (dp : Int) (M : Nat) (h : Dd W g f nd dp M 0) (hnd : nd ≤ 17) (hdp0 : 0 ≤ dp) (hdp1 : dp ≤ 17) :
    Calls Tryd.prog 66 #[.pointer (some ⟨g, 0, none⟩), .int .i64 0] W (ShRes W g M 0 780 (-400) 400) := by
  have hpos := h.pos
  have HD := Lib.hid h
  have c800 := h.m.nd
  have hne : ((nd : Int) == 0) = false := by simp; omega
  clear h
  go_enter Tryd.func66, Tryd.ntmps66
  go_wp2_with fail
  go_end0
  exact ⟨rfl, Kp.refl _ _, f, nd, dp, HD.out, by omega, by omega, by omega⟩

theorem shift_any {B : Nat} (W : World) (g : Nat) (f : Nat → Nat) (nd : Nat) (dp : Int) (M : Nat) (h : Dd W g f nd dp M 0) (hT : Tabs B W) (hB : B ≤ g) (hnd : nd ≤ 17) (hdp0 : 0 ≤ dp) (hdp1 : dp ≤ 17) (E : Int) (hE0 : -1075 ≤ E) (hE1 : E ≤ 1000) :
    Calls Tryd.prog 66 #[.pointer (some ⟨g, 0, none⟩), .int .i64 E] W (ShRes W g M E 780 (-400) 400) := by
  rcases Int.lt_trichotomy E 0 with hl | he | hg
  · obtain ⟨k, rfl⟩ : ∃ k : Nat, E = -(k : Int) := ⟨(-E).toNat, by omega⟩
    exact shift_neg W g f nd dp M h hnd hdp0 hdp1 k (by omega) (by omega)
  · subst he
    exact shift_zero W g f nd dp M h hnd hdp0 hdp1
  · obtain ⟨k, rfl⟩ : ∃ k : Nat, E = (k : Int) := ⟨E.toNat, by omega⟩
    exact shift_pos W g f nd dp M h hT hB hnd hdp0 hdp1 k (by omega) (by omega)

end Go.Proofs.YthfjpofbaeeafaaDoor
