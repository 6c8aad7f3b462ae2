/-
  ftoa64 and ftoa32 for the verb b.
-/
import Derived.Test.YthfjpofbaeeafaaDoorNum2
import Derived.Test.YthfjpofbaeeafaaDoorAF
import Derived.Deep.DeepCutAuto
import Derived.Test.YthfjpofbaeeafaaDoorGL
namespace Go.Proofs.YthfjpofbaeeafaaDoor
open Go.RowKit

theorem ext55 (n : Nat) (w : World) : Sem.run Tryd.prog (callFunc 55 #[.float .f64 n]) w = .ok (.value (.int .u64 (n : Int))) w := by
  have h := run_callFunc_extern (P := Tryd.prog) (e := Extern.MathFloatBits.float64bits) Tryd.func55 (by kernel_rfl) (by kernel_rfl) (by kernel_rfl) (by kernel_rfl) #[.float .f64 n] w
  rw [h]
  rfl
theorem ext54 (n : Nat) (w : World) : Sem.run Tryd.prog (callFunc 54 #[.float .f32 n]) w = .ok (.value (.int .u32 (n : Int))) w := by
  have h := run_callFunc_extern (P := Tryd.prog) (e := Extern.MathFloatBits.float32bits) Tryd.func54 (by kernel_rfl) (by kernel_rfl) (by kernel_rfl) (by kernel_rfl) #[.float .f32 n] w
  rw [h]
  rfl
theorem neg_true (bits : Nat) (hU : U64 bits) : (((bits : Int) / 9223372036854775808 != 0) : Bool) = fNeg true bits := by
  unfold fNeg U64 at *
  simp only [if_true]
  rw [Bool.eq_iff_iff]
  simp
  omega
theorem neg_false (bits n : Nat) (hn : n = bits % 2 ^ 32) : (((n : Int) / 2147483648 != 0) : Bool) = fNeg false bits := by
  unfold fNeg
  simp only [Bool.false_eq_true, if_false, ← hn]
  rw [Bool.eq_iff_iff]
  simp
  omega
set_option maxRecDepth 100000 in
set_option maxHeartbeats 4000000 in
theorem ftoa64_b (bits : Nat) (hU : U64 bits) (hf : fExp true bits ≠ 2047) : F64 bits 98 (-1) (fmtBText (fNeg true bits) (fLow true bits) (fPow true bits)) := by
  intro B w g x0 hT hBg hr
  have h55 := ext55 bits
  obtain ⟨Q, hQ⟩ : ∃ Q, Q = bits / 2 ^ 52 := ⟨_, rfl⟩
  obtain ⟨L, hL⟩ : ∃ L, L = bits % 2 ^ 52 := ⟨_, rfl⟩
  obtain ⟨E, hE⟩ : ∃ E, E = fExp true bits := ⟨_, rfl⟩
  obtain ⟨NEG, hNEG⟩ : ∃ NEG, NEG = fNeg true bits := ⟨_, rfl⟩
  obtain ⟨M, hM⟩ : ∃ M, M = fLow true bits := ⟨_, rfl⟩
  have hQ1 : Q < 8192 := by rw [hQ]; unfold U64 at hU; omega
  have hEQ : Q % 2048 = E := by rw [hE, hQ]; rfl
  have e0 : (((bits : Int) / 9223372036854775808 != 0) : Bool) = NEG := by rw [hNEG]; exact neg_true bits hU
  have e1 : (bits : Int) / 4503599627370496 = (Q : Int) := by rw [hQ]; omega
  have e2 : IntKind.i64.wrap (Q : Int) = (Q : Int) := by rw [IntKind.wrap_i64]; omega
  have e3 : Go.bits .and .i64 (Q : Int) 2047 = (E : Int) := by rw [← hEQ]; exact and_mask_i64 Q 11 (by omega) (by omega)
  have e4 : Go.bits .and .u64 (bits : Int) 4503599627370495 = (L : Int) := by rw [hL]; exact and_mask_u64 bits 52 hU (by omega)
  have hL1 : L < 4503599627370496 := by rw [hL]; omega
  have e5 : Go.bits .or .u64 (L : Int) 4503599627370496 = ((L + 4503599627370496 : Nat) : Int) := or_pow_u64 L 52 hL1 (by omega)
  have hE1 : E < 2047 := by rw [← hE] at hf; omega
  have hE3 : ((E : Int) == 2047) = false := by simp; omega
  obtain ⟨Y, hY⟩ : ∃ Y, Y = if E = 0 then 1 else E := ⟨_, rfl⟩
  have hM0 : M = if E = 0 then L else L + 4503599627370496 := by rw [hM, hE, hL]; rfl
  have hY1 : 1 ≤ Y := by rw [hY]; split <;> omega
  have hY2 : Y < 2047 := by rw [hY]; split <;> omega
  have hPow : fPow true bits = (Y : Int) - 1075 := by rw [hY, hE]; unfold fPow; split <;> simp
  have hMU : M < 2 * 4503599627370496 := by rw [hM0]; split <;> omega
  have HM := Lib.hid hM
  have HM0 := Lib.hid hM0
  have HY := Lib.hid hY
  have HP := Lib.hid hPow
  have HNEG := Lib.hid hNEG
  rw [← hM, ← hNEG]
  clear hQ hL hE hEQ hM hM0 hY hPow hNEG hf
  go_enter Tryd.func52, Tryd.ntmps52
  go_wp2_with fail
  go_region
  go_upto_if 78 with fail
  go_cut [14, 15] (fun e m wx => e = .int .i64 (Y : Int) ∧ m = .int .u64 (M : Int) ∧ Still w wx)
  case first =>
    have HS : Still w w.drew := (Still.refl w).drew
    by_cases h0 : E = 0
    · subst h0
      have hy : Y = 1 := HY.out
      have hm : M = L := HM0.out
      subst hy; subst hm
      go_wp2_with fail
      go_meet
      exact ⟨rfl, rfl, HS⟩
    · have hy : Y = E := by rw [HY.out, if_neg h0]
      have hm : M = L + 4503599627370496 := by rw [HM0.out, if_neg h0]
      have hEp : ((E : Int) == 0) = false := by simp; omega
      subst hy; subst hm
      go_wp2_with fail
      go_meet
      exact ⟨rfl, rfl, HS⟩
  case rest =>
    obtain ⟨rfl, rfl, HS⟩ := hcut
    have hrc := hr.still HS
    have hTc := HS.tabs hT
    clear e0 e1 e2 e3 e4 e5 hE3
    go_wp2_with fail
    refine (fmtB_any NEG M (by unfold U64; omega) _ (by omega) (by omega) _ _ _ _ _ _ hrc (by omega) (by simp) hTc hBg).mono ?_
    intro e w2 hres
    obtain ⟨n2, g2, o2, c2, rfl, hw⟩ := Went.of_res hres
    have hfin := (hw.since HS).res
    have HF := Lib.hid hfin
    clear hfin hw hres
    go_wp2_with fail
    go_ret
    rw [HP.out, show (Y : Int) - 1075 = Y + -1023 - 52 by omega]
    exact HF.out

set_option maxRecDepth 100000 in
set_option maxHeartbeats 4000000 in
theorem ftoa32_b (bits : Nat) (hf : fExp false bits ≠ 255) : F32 (bits % 2 ^ 32) 98 (-1) (fmtBText (fNeg false bits) (fLow false bits) (fPow false bits)) := by
  intro B w g x0 hT hBg hr
  obtain ⟨n, hn⟩ : ∃ n, n = bits % 2 ^ 32 := ⟨_, rfl⟩
  have hn32 : n < 4294967296 := by rw [hn]; omega
  rw [← hn]
  have h54 := ext54 n
  have h3222 : IntKind.u64.wrap (n : Int) = (n : Int) := by rw [IntKind.wrap_u64]; omega
  obtain ⟨Q, hQ⟩ : ∃ Q, Q = n / 2 ^ 23 := ⟨_, rfl⟩
  obtain ⟨L, hL⟩ : ∃ L, L = n % 2 ^ 23 := ⟨_, rfl⟩
  obtain ⟨E, hE⟩ : ∃ E, E = fExp false bits := ⟨_, rfl⟩
  obtain ⟨NEG, hNEG⟩ : ∃ NEG, NEG = fNeg false bits := ⟨_, rfl⟩
  obtain ⟨M, hM⟩ : ∃ M, M = fLow false bits := ⟨_, rfl⟩
  have hQ1 : Q < 8192 := by rw [hQ]; omega
  have hEQ : Q % 256 = E := by rw [hE, hQ, hn]; rfl
  have e0 : (((n : Int) / 2147483648 != 0) : Bool) = NEG := by rw [hNEG]; exact neg_false bits n hn
  have e1 : (n : Int) / 8388608 = (Q : Int) := by rw [hQ]; omega
  have e2 : IntKind.i64.wrap (Q : Int) = (Q : Int) := by rw [IntKind.wrap_i64]; omega
  have e3 : Go.bits .and .i64 (Q : Int) 255 = (E : Int) := by rw [← hEQ]; exact and_mask_i64 Q 8 (by omega) (by omega)
  have e4 : Go.bits .and .u64 (n : Int) 8388607 = (L : Int) := by rw [hL]; exact and_mask_u64 n 23 (by omega) (by omega)
  have hL1 : L < 8388608 := by rw [hL]; omega
  have e5 : Go.bits .or .u64 (L : Int) 8388608 = ((L + 8388608 : Nat) : Int) := or_pow_u64 L 23 hL1 (by omega)
  have hE1 : E < 255 := by rw [← hE] at hf; omega
  have hE3 : ((E : Int) == 255) = false := by simp; omega
  obtain ⟨Y, hY⟩ : ∃ Y, Y = if E = 0 then 1 else E := ⟨_, rfl⟩
  have hM0 : M = if E = 0 then L else L + 8388608 := by rw [hM, hE, hL]; rw [hn]; rfl
  have hY1 : 1 ≤ Y := by rw [hY]; split <;> omega
  have hY2 : Y < 255 := by rw [hY]; split <;> omega
  have hPow : fPow false bits = (Y : Int) - 150 := by rw [hY, hE]; unfold fPow; split <;> simp
  have hMU : M < 2 * 8388608 := by rw [hM0]; split <;> omega
  have HM := Lib.hid hM
  have HM0 := Lib.hid hM0
  have HY := Lib.hid hY
  have HP := Lib.hid hPow
  have HNEG := Lib.hid hNEG
  rw [← hM, ← hNEG]
  clear hQ hL hE hEQ hM hM0 hY hPow hNEG hf hn
  go_enter Tryd.func51, Tryd.ntmps51
  go_wp2_with fail
  go_region
  go_upto_if 78 with fail
  go_cut [14, 15] (fun e m wx => e = .int .i64 (Y : Int) ∧ m = .int .u64 (M : Int) ∧ Still w wx)
  case first =>
    have HS : Still w w.drew := (Still.refl w).drew
    by_cases h0 : E = 0
    · subst h0
      have hy : Y = 1 := HY.out
      have hm : M = L := HM0.out
      subst hy; subst hm
      go_wp2_with fail
      go_meet
      exact ⟨rfl, rfl, HS⟩
    · have hy : Y = E := by rw [HY.out, if_neg h0]
      have hm : M = L + 8388608 := by rw [HM0.out, if_neg h0]
      have hEp : ((E : Int) == 0) = false := by simp; omega
      subst hy; subst hm
      go_wp2_with fail
      go_meet
      exact ⟨rfl, rfl, HS⟩
  case rest =>
    obtain ⟨rfl, rfl, HS⟩ := hcut
    have hrc := hr.still HS
    have hTc := HS.tabs hT
    clear e0 e1 e2 e3 e4 e5 hE3
    go_wp2_with fail
    refine (fmtB_any NEG M (by unfold U64; omega) _ (by omega) (by omega) _ _ _ _ _ _ hrc (by omega) (by simp) hTc hBg).mono ?_
    intro e w2 hres
    obtain ⟨n2, g2, o2, c2, rfl, hw⟩ := Went.of_res hres
    have hfin := (hw.since HS).res
    have HF := Lib.hid hfin
    clear hfin hw hres
    go_wp2_with fail
    go_ret
    rw [HP.out, show (Y : Int) - 150 = Y + -127 - 23 by omega]
    exact HF.out

end Go.Proofs.YthfjpofbaeeafaaDoor
