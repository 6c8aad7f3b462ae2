/-
  fmtX without a precision, of zero.
-/
import Derived.Test.YthfjpofbaeeafaaDoorFXL
import Derived.LoopTactic
import Derived.Deep.DeepCutAuto
namespace Go.Proofs.YthfjpofbaeeafaaDoor
open Go.RowKit

set_option maxRecDepth 100000 in
set_option maxHeartbeats 2000000 in
theorem fmtX_zero (upper neg : Bool) (mb : Nat) (exp : Int) (hmb : mb ≤ 52) (v : Value) (olds : List UInt8) (g o c : Nat) (w : World) (hr : Row w v olds g o c) (hc0 : 0 < c) (hl : olds.length + 100 ≤ 1000000) :
    Calls Tryd.prog 57 #[v, .int .i64 (-1), .int .u8 (if upper then 88 else 120), .bool neg, .int .u64 0, .int .i64 exp, .int .i64 mb] w (AppRes w g o c olds (fmtXText upper neg 0 0 0)) := by
  have hv := hr.val
  rw [hv]
  have hW := Went.refl hr
  clear hv hr
  cases upper
  · go_enter Tryd.func57, Tryd.ntmps57
    go_wp2_with fail
    refine wp_loop_rounds 1 ?_
    rw [rounds_succ]
    go_upto_if 74 with fail
    go_cut [0] (fun s wx => ∃ n g1 o1 c1, s = .slice (some ⟨g1, o1, none⟩) n c1 ∧ Went w g o c olds (sgn neg) n g1 o1 c1 wx)
    case first =>
      cases neg
      · go_wp2_with fail
        go_meet
        exact ⟨_, _, _, _, rfl, hW⟩
      · go_wp2_with (at_builtin; refine wpList_went rfl _ _ 62 62 rfl Tryd.underlying62 hW hc0 ((Still.refl _).alloc _) rfl _ [45] rfl (src_one _ 45 62 Tryd.underlying62) (by simp; omega) ?_)
        intro n0 g0 o0 c0 w0 hW0
        go_wp2_with fail
        go_meet
        exact ⟨_, _, _, _, rfl, hW0⟩
    case rest =>
      obtain ⟨n0, g0, o0, c0, rfl, hW0⟩ := hcut
      have hlow := Tryd.internal_strconv_lower 120
      have hsl0 : (sgn neg).length ≤ 1 := by cases neg <;> simp [sgn]
      go_wp2_with (at_builtin; refine wpList_went rfl _ _ 62 62 rfl Tryd.underlying62 hW0 hc0 ((Still.refl _).alloc _) rfl _ [48, 120, 48] rfl (src_three _ 48 120 48 48 120 48 rfl rfl rfl 62 Tryd.underlying62) (by simp; omega) ?_)
      intro n1 g1 o1 c1 w1 hW1
      go_wp2_with (first | (go_at_call 71; refine (hlow _).mono ?_; rintro e w' ⟨rfl, rfl⟩) | (at_builtin; refine wpList_went rfl _ _ 62 62 rfl Tryd.underlying62 hW1 hc0 ((Still.refl _).alloc _) rfl _ [112] rfl (src_one _ 112 62 Tryd.underlying62) (by simp; omega) ?_))
      intro n2 g2 o2 c2 w2 hW2
      go_wp2_with (at_builtin; refine wpList_went rfl _ _ 62 62 rfl Tryd.underlying62 hW2 hc0 ((Still.refl _).alloc _) rfl _ [43] rfl (src_one _ 43 62 Tryd.underlying62) (by simp; omega) ?_)
      intro n3 g3 o3 c3 w3 hW3
      go_wp2_with (at_builtin; refine wpList_went rfl _ _ 62 62 rfl Tryd.underlying62 hW3 hc0 ((Still.refl _).alloc _) rfl _ [48, 48] rfl (src_two _ 48 48 48 48 rfl rfl 62 Tryd.underlying62) (by simp; omega) ?_)
      intro n4 g4 o4 c4 w4 hW4
      have hfin := hW4.res
      have HF := Lib.hid hfin
      clear hfin hW4 hW3 hW2 hW1 hW0
      go_wp2_with fail
      go_ret
      simpa [fmtXText, fracX, expX, dch] using HF.out
  · go_enter Tryd.func57, Tryd.ntmps57
    go_wp2_with fail
    refine wp_loop_rounds 1 ?_
    rw [rounds_succ]
    go_upto_if 74 with fail
    go_cut [0] (fun s wx => ∃ n g1 o1 c1, s = .slice (some ⟨g1, o1, none⟩) n c1 ∧ Went w g o c olds (sgn neg) n g1 o1 c1 wx)
    case first =>
      cases neg
      · go_wp2_with fail
        go_meet
        exact ⟨_, _, _, _, rfl, hW⟩
      · go_wp2_with (at_builtin; refine wpList_went rfl _ _ 62 62 rfl Tryd.underlying62 hW hc0 ((Still.refl _).alloc _) rfl _ [45] rfl (src_one _ 45 62 Tryd.underlying62) (by simp; omega) ?_)
        intro n0 g0 o0 c0 w0 hW0
        go_wp2_with fail
        go_meet
        exact ⟨_, _, _, _, rfl, hW0⟩
    case rest =>
      obtain ⟨n0, g0, o0, c0, rfl, hW0⟩ := hcut
      have hlow := Tryd.internal_strconv_lower 88
      have hsl0 : (sgn neg).length ≤ 1 := by cases neg <;> simp [sgn]
      go_wp2_with (at_builtin; refine wpList_went rfl _ _ 62 62 rfl Tryd.underlying62 hW0 hc0 ((Still.refl _).alloc _) rfl _ [48, 88, 48] rfl (src_three _ 48 88 48 48 88 48 rfl rfl rfl 62 Tryd.underlying62) (by simp; omega) ?_)
      intro n1 g1 o1 c1 w1 hW1
      go_wp2_with (first | (go_at_call 71; refine (hlow _).mono ?_; rintro e w' ⟨rfl, rfl⟩) | (at_builtin; refine wpList_went rfl _ _ 62 62 rfl Tryd.underlying62 hW1 hc0 ((Still.refl _).alloc _) rfl _ [80] rfl (src_one _ 80 62 Tryd.underlying62) (by simp; omega) ?_))
      intro n2 g2 o2 c2 w2 hW2
      go_wp2_with (at_builtin; refine wpList_went rfl _ _ 62 62 rfl Tryd.underlying62 hW2 hc0 ((Still.refl _).alloc _) rfl _ [43] rfl (src_one _ 43 62 Tryd.underlying62) (by simp; omega) ?_)
      intro n3 g3 o3 c3 w3 hW3
      go_wp2_with (at_builtin; refine wpList_went rfl _ _ 62 62 rfl Tryd.underlying62 hW3 hc0 ((Still.refl _).alloc _) rfl _ [48, 48] rfl (src_two _ 48 48 48 48 rfl rfl 62 Tryd.underlying62) (by simp; omega) ?_)
      intro n4 g4 o4 c4 w4 hW4
      have hfin := hW4.res
      have HF := Lib.hid hfin
      clear hfin hW4 hW3 hW2 hW1 hW0
      go_wp2_with fail
      go_ret
      simpa [fmtXText, fracX, expX, dch] using HF.out
end Go.Proofs.YthfjpofbaeeafaaDoor
