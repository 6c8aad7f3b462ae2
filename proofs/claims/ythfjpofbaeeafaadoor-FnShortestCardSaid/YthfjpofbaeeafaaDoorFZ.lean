/-
  fmtEFG for nought, with the shortest precision.
-/
import Derived.Test.YthfjpofbaeeafaaDoorGL
import Derived.RegionTactic
namespace Go.Proofs.YthfjpofbaeeafaaDoor
open Go.RowKit
attribute [local go_sem] imax_int imin_int imax_two imin_two

set_option maxRecDepth 100000 in
set_option maxHeartbeats 1000000 in
theorem fz_e (neg : Bool) (v : Value) (olds : List UInt8) (g o c : Nat) (w : World) (hr : Row w v olds g o c) (hc0 : 0 < c) (hl : olds.length ≤ 1000000) :
    Calls Tryd.prog 58 #[v, .bool neg, .slice none 0 0, .int .i64 0, .int .i64 0, .int .i64 (-1), .int .u8 101, .bool true] w (AppRes w g o c olds (sgn neg ++ [48, 101, 43, 48, 48])) := by
  have hv := hr.val
  rw [hv]
  have hW0 := Went.refl hr
  clear hv hr
  go_enter Tryd.func58, Tryd.ntmps58
  cases neg
  · go_wp2_with (at_builtin; refine wpList_went rfl _ _ 62 62 rfl Tryd.underlying62 hW0 hc0 ((Still.refl _).alloc _) rfl _ [48] rfl (src_one _ 48 62 Tryd.underlying62) (by simp; omega) ?_)
    intro n1 g1 o1 c1 w1 hW1
    go_wp2_with (at_builtin; refine wpList_went rfl _ _ 62 62 rfl Tryd.underlying62 hW1 hc0 ((Still.refl _).alloc _) rfl _ [101] rfl (src_one _ 101 62 Tryd.underlying62) (by simp; omega) ?_)
    intro n2 g2 o2 c2 w2 hW2
    go_wp2_with (at_builtin; refine wpList_went rfl _ _ 62 62 rfl Tryd.underlying62 hW2 hc0 ((Still.refl _).alloc _) rfl _ [43] rfl (src_one _ 43 62 Tryd.underlying62) (by simp; omega) ?_)
    intro n3 g3 o3 c3 w3 hW3
    go_wp2_with (at_builtin; refine wpList_went rfl _ _ 62 62 rfl Tryd.underlying62 hW3 hc0 ((Still.refl _).alloc _) rfl _ [48, 48] rfl (src_two _ _ _ 48 48 rfl rfl 62 Tryd.underlying62) (by simp; omega) ?_)
    intro n4 g4 o4 c4 w4 hW4
    have hres := hW4.res
    have HF := Lib.hid hres
    clear hres
    go_wp2_with fail
    go_ret
    simpa [sgn] using HF.out
  · go_wp2_with (at_builtin; refine wpList_went rfl _ _ 62 62 rfl Tryd.underlying62 hW0 hc0 ((Still.refl _).alloc _) rfl _ [45] rfl (src_one _ 45 62 Tryd.underlying62) (by simp; omega) ?_)
    intro n1 g1 o1 c1 w1 hW1
    go_wp2_with (at_builtin; refine wpList_went rfl _ _ 62 62 rfl Tryd.underlying62 hW1 hc0 ((Still.refl _).alloc _) rfl _ [48] rfl (src_one _ 48 62 Tryd.underlying62) (by simp; omega) ?_)
    intro n2 g2 o2 c2 w2 hW2
    go_wp2_with (at_builtin; refine wpList_went rfl _ _ 62 62 rfl Tryd.underlying62 hW2 hc0 ((Still.refl _).alloc _) rfl _ [101] rfl (src_one _ 101 62 Tryd.underlying62) (by simp; omega) ?_)
    intro n3 g3 o3 c3 w3 hW3
    go_wp2_with (at_builtin; refine wpList_went rfl _ _ 62 62 rfl Tryd.underlying62 hW3 hc0 ((Still.refl _).alloc _) rfl _ [43] rfl (src_one _ 43 62 Tryd.underlying62) (by simp; omega) ?_)
    intro n4 g4 o4 c4 w4 hW4
    go_wp2_with (at_builtin; refine wpList_went rfl _ _ 62 62 rfl Tryd.underlying62 hW4 hc0 ((Still.refl _).alloc _) rfl _ [48, 48] rfl (src_two _ _ _ 48 48 rfl rfl 62 Tryd.underlying62) (by simp; omega) ?_)
    intro n5 g5 o5 c5 w5 hW5
    have hres := hW5.res
    have HF := Lib.hid hres
    clear hres
    go_wp2_with fail
    go_ret
    simpa [sgn] using HF.out

set_option maxRecDepth 100000 in
set_option maxHeartbeats 1000000 in
theorem fz_f (neg : Bool) (v : Value) (olds : List UInt8) (g o c : Nat) (w : World) (hr : Row w v olds g o c) (hc0 : 0 < c) (hl : olds.length ≤ 1000000) :
    Calls Tryd.prog 58 #[v, .bool neg, .slice none 0 0, .int .i64 0, .int .i64 0, .int .i64 (-1), .int .u8 102, .bool true] w (AppRes w g o c olds (sgn neg ++ [48])) := by
  have hv := hr.val
  rw [hv]
  have hW0 := Went.refl hr
  clear hv hr
  go_enter Tryd.func58, Tryd.ntmps58
  cases neg
  · go_wp2_with (at_builtin; refine wpList_went rfl _ _ 62 62 rfl Tryd.underlying62 hW0 hc0 ((Still.refl _).alloc _) rfl _ [48] rfl (src_one _ 48 62 Tryd.underlying62) (by simp; omega) ?_)
    intro n1 g1 o1 c1 w1 hW1
    have hres := hW1.res
    have HF := Lib.hid hres
    clear hres
    go_wp2_with fail
    go_ret
    simpa [sgn] using HF.out
  · go_wp2_with (at_builtin; refine wpList_went rfl _ _ 62 62 rfl Tryd.underlying62 hW0 hc0 ((Still.refl _).alloc _) rfl _ [45] rfl (src_one _ 45 62 Tryd.underlying62) (by simp; omega) ?_)
    intro n1 g1 o1 c1 w1 hW1
    go_wp2_with (at_builtin; refine wpList_went rfl _ _ 62 62 rfl Tryd.underlying62 hW1 hc0 ((Still.refl _).alloc _) rfl _ [48] rfl (src_one _ 48 62 Tryd.underlying62) (by simp; omega) ?_)
    intro n2 g2 o2 c2 w2 hW2
    have hres := hW2.res
    have HF := Lib.hid hres
    clear hres
    go_wp2_with fail
    go_ret
    simpa [sgn] using HF.out

set_option maxRecDepth 100000 in
set_option maxHeartbeats 1000000 in
theorem fz_g (neg : Bool) (v : Value) (olds : List UInt8) (g o c : Nat) (w : World) (hr : Row w v olds g o c) (hc0 : 0 < c) (hl : olds.length ≤ 1000000) :
    Calls Tryd.prog 58 #[v, .bool neg, .slice none 0 0, .int .i64 0, .int .i64 0, .int .i64 (-1), .int .u8 103, .bool true] w (AppRes w g o c olds (sgn neg ++ [48])) := by
  have hv := hr.val
  rw [hv]
  have hW0 := Went.refl hr
  clear hv hr
  go_enter Tryd.func58, Tryd.ntmps58
  cases neg
  · go_wp2_with (at_builtin; refine wpList_went rfl _ _ 62 62 rfl Tryd.underlying62 hW0 hc0 ((Still.refl _).alloc _) rfl _ [48] rfl (src_one _ 48 62 Tryd.underlying62) (by simp; omega) ?_)
    intro n1 g1 o1 c1 w1 hW1
    have hres := hW1.res
    have HF := Lib.hid hres
    clear hres
    go_wp2_with fail
    go_ret
    simpa [sgn] using HF.out
  · go_wp2_with (at_builtin; refine wpList_went rfl _ _ 62 62 rfl Tryd.underlying62 hW0 hc0 ((Still.refl _).alloc _) rfl _ [45] rfl (src_one _ 45 62 Tryd.underlying62) (by simp; omega) ?_)
    intro n1 g1 o1 c1 w1 hW1
    go_wp2_with (at_builtin; refine wpList_went rfl _ _ 62 62 rfl Tryd.underlying62 hW1 hc0 ((Still.refl _).alloc _) rfl _ [48] rfl (src_one _ 48 62 Tryd.underlying62) (by simp; omega) ?_)
    intro n2 g2 o2 c2 w2 hW2
    have hres := hW2.res
    have HF := Lib.hid hres
    clear hres
    go_wp2_with fail
    go_ret
    simpa [sgn] using HF.out

set_option maxRecDepth 100000 in
set_option maxHeartbeats 1000000 in
theorem fz_G (neg : Bool) (v : Value) (olds : List UInt8) (g o c : Nat) (w : World) (hr : Row w v olds g o c) (hc0 : 0 < c) (hl : olds.length ≤ 1000000) :
    Calls Tryd.prog 58 #[v, .bool neg, .slice none 0 0, .int .i64 0, .int .i64 0, .int .i64 (-1), .int .u8 71, .bool true] w (AppRes w g o c olds (sgn neg ++ [48])) := by
  have hv := hr.val
  rw [hv]
  have hW0 := Went.refl hr
  clear hv hr
  go_enter Tryd.func58, Tryd.ntmps58
  cases neg
  · go_wp2_with (at_builtin; refine wpList_went rfl _ _ 62 62 rfl Tryd.underlying62 hW0 hc0 ((Still.refl _).alloc _) rfl _ [48] rfl (src_one _ 48 62 Tryd.underlying62) (by simp; omega) ?_)
    intro n1 g1 o1 c1 w1 hW1
    have hres := hW1.res
    have HF := Lib.hid hres
    clear hres
    go_wp2_with fail
    go_ret
    simpa [sgn] using HF.out
  · go_wp2_with (at_builtin; refine wpList_went rfl _ _ 62 62 rfl Tryd.underlying62 hW0 hc0 ((Still.refl _).alloc _) rfl _ [45] rfl (src_one _ 45 62 Tryd.underlying62) (by simp; omega) ?_)
    intro n1 g1 o1 c1 w1 hW1
    go_wp2_with (at_builtin; refine wpList_went rfl _ _ 62 62 rfl Tryd.underlying62 hW1 hc0 ((Still.refl _).alloc _) rfl _ [48] rfl (src_one _ 48 62 Tryd.underlying62) (by simp; omega) ?_)
    intro n2 g2 o2 c2 w2 hW2
    have hres := hW2.res
    have HF := Lib.hid hres
    clear hres
    go_wp2_with fail
    go_ret
    simpa [sgn] using HF.out

end Go.Proofs.YthfjpofbaeeafaaDoor
