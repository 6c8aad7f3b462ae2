/-
  fmtB: an integer, p, and a power of two.
-/
import Derived.Test.YthfjpofbaeeafaaDoorWent
namespace Go.Proofs.YthfjpofbaeeafaaDoor
open Go.RowKit

/-- A minus sign, if the number has one. -/
def sgn (neg : Bool) : List UInt8 := if neg then [45] else []

/-- What fmtB writes. -/
def fmtBText (neg : Bool) (mant : Nat) (exp : Int) : List UInt8 := sgn neg ++ Lib.decDigits mant ++ [112] ++ (if 0 ≤ exp then [43] else []) ++ Lib.itoa exp

theorem decDigits_le (u : Nat) (h : U64 u) : (Lib.decDigits u).length ≤ 20 := by
  rw [Lib.decDigits_length]
  by_cases hu : 1 ≤ u
  · have := Lib.numDigits_eq u hu h; split at this <;> omega
  · rw [Lib.nDigits_small (by omega)]; omega

set_option maxRecDepth 100000 in
set_option maxHeartbeats 1000000 in
theorem fmtB_any (neg : Bool) (mant : Nat) (hm : U64 mant) (exp : Int) (h0 : -100000 < exp) (h1 : exp < 100000) (v : Value) (olds : List UInt8) (g o c : Nat) (w : World) (hr : Row w v olds g o c) (hc0 : 0 < c) (hl : olds.length + 100 ≤ 1000000)
    {B : Nat} (ht : Tabs B w) (hBg : B ≤ g) :
    Calls Tryd.prog 56 #[v, .bool neg, .int .u64 mant, .int .i64 exp] w (AppRes w g o c olds (fmtBText neg mant exp)) := by
  have hd := decDigits_le mant hm
  have hv := hr.val
  rw [hv]
  have hW := Went.refl hr
  have hs45 := fun w => src_one w 45 62 Tryd.underlying62
  have hs43 := fun w => src_one w 43 62 Tryd.underlying62
  have hs112 := fun w => src_one w 112 62 Tryd.underlying62
  clear hv
  cases neg
  · by_cases he : 0 ≤ exp
    · go_enter Tryd.func56, Tryd.ntmps56
      have hW0 := hW
      have hT0 := ht
      go_wp2_with fail
      refine (appendUint_any mant hm _ _ _ _ _ _ hW0.row (hW0.pos hc0) (by simp; omega) hT0).mono ?_
      intro e w1 hres
      obtain ⟨n1, g1, o1, c1, rfl, hw1⟩ := Went.of_res hres
      have hW1 := hW0.then hw1
      clear hres hw1
      go_wp2_with (at_builtin; refine wpList_went rfl _ _ 62 62 rfl Tryd.underlying62 hW1 hc0 ((Still.refl _).alloc _) rfl _ [112] rfl (hs112 _) (by simp; omega) ?_)
      intro n2 g2 o2 c2 w2 hW2
      go_wp2_with (at_builtin; refine wpList_went rfl _ _ 62 62 rfl Tryd.underlying62 hW2 hc0 ((Still.refl _).alloc _) rfl _ [43] rfl (hs43 _) (by simp; omega) ?_)
      intro n3 g3 o3 c3 w3 hW3
      have hT3 := hW3.tabs ht hBg
      have hB3 := hW3.above ht hBg
      have hp3 := hW3.pos hc0
      go_wp2_with fail
      refine (appendInt_any exp (by omega) (by omega) _ _ _ _ _ _ hW3.row hp3 (by simp; omega) hT3 hB3).mono ?_
      intro e w4 hres
      obtain ⟨n4, g4, o4, c4, rfl, hw4⟩ := Went.of_res hres
      have hW4 := (hW3.then hw4).res
      clear hres hw4
      have HW := Lib.hid hW4
      clear hW4
      go_wp2_with fail
      go_ret
      simpa [fmtBText, sgn, he] using HW.out
    · have he' : exp < 0 := by omega
      go_enter Tryd.func56, Tryd.ntmps56
      have hW0 := hW
      have hT0 := ht
      go_wp2_with fail
      refine (appendUint_any mant hm _ _ _ _ _ _ hW0.row (hW0.pos hc0) (by simp; omega) hT0).mono ?_
      intro e w1 hres
      obtain ⟨n1, g1, o1, c1, rfl, hw1⟩ := Went.of_res hres
      have hW1 := hW0.then hw1
      clear hres hw1
      go_wp2_with (at_builtin; refine wpList_went rfl _ _ 62 62 rfl Tryd.underlying62 hW1 hc0 ((Still.refl _).alloc _) rfl _ [112] rfl (hs112 _) (by simp; omega) ?_)
      intro n2 g2 o2 c2 w2 hW2
      have hW3 := hW2
      have hT3 := hW3.tabs ht hBg
      have hB3 := hW3.above ht hBg
      have hp3 := hW3.pos hc0
      go_wp2_with fail
      refine (appendInt_any exp (by omega) (by omega) _ _ _ _ _ _ hW3.row hp3 (by simp; omega) hT3 hB3).mono ?_
      intro e w4 hres
      obtain ⟨n4, g4, o4, c4, rfl, hw4⟩ := Went.of_res hres
      have hW4 := (hW3.then hw4).res
      clear hres hw4
      have HW := Lib.hid hW4
      clear hW4
      go_wp2_with fail
      go_ret
      have hne : ¬ 0 ≤ exp := by omega
      simpa [fmtBText, sgn, hne] using HW.out
  · by_cases he : 0 ≤ exp
    · go_enter Tryd.func56, Tryd.ntmps56
      go_wp2_with (at_builtin; refine wpList_went rfl _ _ 62 62 rfl Tryd.underlying62 hW hc0 ((Still.refl _).alloc _) rfl _ [45] rfl (hs45 _) (by simp; omega) ?_)
      intro n0 g0 o0 c0 w0 hW0
      have hT0 := hW0.tabs ht hBg
      go_wp2_with fail
      refine (appendUint_any mant hm _ _ _ _ _ _ hW0.row (hW0.pos hc0) (by simp; omega) hT0).mono ?_
      intro e w1 hres
      obtain ⟨n1, g1, o1, c1, rfl, hw1⟩ := Went.of_res hres
      have hW1 := hW0.then hw1
      clear hres hw1
      go_wp2_with (at_builtin; refine wpList_went rfl _ _ 62 62 rfl Tryd.underlying62 hW1 hc0 ((Still.refl _).alloc _) rfl _ [112] rfl (hs112 _) (by simp; omega) ?_)
      intro n2 g2 o2 c2 w2 hW2
      go_wp2_with (at_builtin; refine wpList_went rfl _ _ 62 62 rfl Tryd.underlying62 hW2 hc0 ((Still.refl _).alloc _) rfl _ [43] rfl (hs43 _) (by simp; omega) ?_)
      intro n3 g3 o3 c3 w3 hW3
      have hT3 := hW3.tabs ht hBg
      have hB3 := hW3.above ht hBg
      have hp3 := hW3.pos hc0
      go_wp2_with fail
      refine (appendInt_any exp (by omega) (by omega) _ _ _ _ _ _ hW3.row hp3 (by simp; omega) hT3 hB3).mono ?_
      intro e w4 hres
      obtain ⟨n4, g4, o4, c4, rfl, hw4⟩ := Went.of_res hres
      have hW4 := (hW3.then hw4).res
      clear hres hw4
      have HW := Lib.hid hW4
      clear hW4
      go_wp2_with fail
      go_ret
      simpa [fmtBText, sgn, he] using HW.out
    · have he' : exp < 0 := by omega
      go_enter Tryd.func56, Tryd.ntmps56
      go_wp2_with (at_builtin; refine wpList_went rfl _ _ 62 62 rfl Tryd.underlying62 hW hc0 ((Still.refl _).alloc _) rfl _ [45] rfl (hs45 _) (by simp; omega) ?_)
      intro n0 g0 o0 c0 w0 hW0
      have hT0 := hW0.tabs ht hBg
      go_wp2_with fail
      refine (appendUint_any mant hm _ _ _ _ _ _ hW0.row (hW0.pos hc0) (by simp; omega) hT0).mono ?_
      intro e w1 hres
      obtain ⟨n1, g1, o1, c1, rfl, hw1⟩ := Went.of_res hres
      have hW1 := hW0.then hw1
      clear hres hw1
      go_wp2_with (at_builtin; refine wpList_went rfl _ _ 62 62 rfl Tryd.underlying62 hW1 hc0 ((Still.refl _).alloc _) rfl _ [112] rfl (hs112 _) (by simp; omega) ?_)
      intro n2 g2 o2 c2 w2 hW2
      have hW3 := hW2
      have hT3 := hW3.tabs ht hBg
      have hB3 := hW3.above ht hBg
      have hp3 := hW3.pos hc0
      go_wp2_with fail
      refine (appendInt_any exp (by omega) (by omega) _ _ _ _ _ _ hW3.row hp3 (by simp; omega) hT3 hB3).mono ?_
      intro e w4 hres
      obtain ⟨n4, g4, o4, c4, rfl, hw4⟩ := Went.of_res hres
      have hW4 := (hW3.then hw4).res
      clear hres hw4
      have HW := Lib.hid hW4
      clear hW4
      go_wp2_with fail
      go_ret
      have hne : ¬ 0 ≤ exp := by omega
      simpa [fmtBText, sgn, hne] using HW.out
end Go.Proofs.YthfjpofbaeeafaaDoor
