/-
  ftoa64 and ftoa32 for the verbs x and X, with no precision.
-/
import Derived.Test.YthfjpofbaeeafaaDoorPB
import Derived.Test.YthfjpofbaeeafaaDoorFX
import Derived.Test.YthfjpofbaeeafaaDoorFX0
namespace Go.Proofs.YthfjpofbaeeafaaDoor
open Go.RowKit

/-- What is written for the verbs x and X. -/
def fXText (upper neg : Bool) (M mb : Nat) (P : Int) : List UInt8 :=
  if M = 0 then fmtXText upper neg 0 0 0 else fmtXText upper neg 1 (M * 2 ^ (60 - mb) * 2 ^ (mb - M.log2) * 16 % 2 ^ 64) (P + (mb : Nat) - ((mb - M.log2 : Nat) : Int))

theorem norm60 (M mb : Nat) (h0 : 0 < M) (hM : M < 2 ^ (mb + 1)) (hmb : mb ≤ 60) : P60 ≤ M * 2 ^ (60 - mb) * 2 ^ (mb - M.log2) ∧ M * 2 ^ (60 - mb) * 2 ^ (mb - M.log2) < 2 * P60 := by
  have hl : M.log2 < mb + 1 := (Nat.log2_lt (by omega)).2 hM
  have ha := Nat.log2_self_le (by omega : M ≠ 0)
  have hb := Nat.lt_log2_self (n := M)
  have e : 2 ^ (60 - mb) * 2 ^ (mb - M.log2) = 2 ^ (60 - M.log2) := by rw [← Nat.pow_add]; congr 1; omega
  rw [Nat.mul_assoc, e]
  unfold P60
  constructor
  · calc 2 ^ 60 = 2 ^ M.log2 * 2 ^ (60 - M.log2) := by rw [← Nat.pow_add]; congr 1; omega
      _ ≤ _ := Nat.mul_le_mul_right _ ha
  · calc _ < 2 ^ (M.log2 + 1) * 2 ^ (60 - M.log2) := Nat.mul_lt_mul_of_pos_right hb (Nat.two_pow_pos _)
      _ = 2 * 2 ^ 60 := by rw [← Nat.pow_add, show M.log2 + 1 + (60 - M.log2) = 1 + 60 by omega, Nat.pow_add]

set_option maxRecDepth 100000 in
set_option maxHeartbeats 4000000 in
theorem ftoa64_x (bits : Nat) (hU : U64 bits) (hf : fExp true bits ≠ 2047) : F64 bits 120 (-1) (fXText false (fNeg true bits) (fLow true bits) 52 (fPow true bits)) := by
  intro B w g x0 hT hBg hr
  have h55 := ext55 bits
  obtain ⟨Q, hQ⟩ : ∃ Q, Q = bits / 2 ^ 52 := ⟨_, rfl⟩
  obtain ⟨L, hL⟩ : ∃ L, L = bits % 2 ^ 52 := ⟨_, rfl⟩
  obtain ⟨E, hE⟩ : ∃ E, E = fExp true bits := ⟨_, rfl⟩
  obtain ⟨NEG, hNEG⟩ : ∃ NEG, NEG = fNeg true bits := ⟨_, rfl⟩
  obtain ⟨M, hM⟩ : ∃ M, M = fLow true bits := ⟨_, rfl⟩
  have hQ1 : Q < 8192 := by rw [hQ]; unfold U64 at hU; omega
  have hEQ : Q % 2048 = E := by rw [hE, hQ]; rfl
  have e0 : (((bits : Int) / 9223372036854775808 != 0) : Bool) = NEG := by rw [hNEG]; exact neg_true bits hU
  have e1 : (bits : Int) / 4503599627370496 = (Q : Int) := by rw [hQ]; omega
  have e2 : IntKind.i64.wrap (Q : Int) = (Q : Int) := by rw [IntKind.wrap_i64]; omega
  have e3 : Go.bits .and .i64 (Q : Int) 2047 = (E : Int) := by rw [← hEQ]; exact and_mask_i64 Q 11 (by omega) (by omega)
  have e4 : Go.bits .and .u64 (bits : Int) 4503599627370495 = (L : Int) := by rw [hL]; exact and_mask_u64 bits 52 hU (by omega)
  have hL1 : L < 4503599627370496 := by rw [hL]; omega
  have e5 : Go.bits .or .u64 (L : Int) 4503599627370496 = ((L + 4503599627370496 : Nat) : Int) := or_pow_u64 L 52 hL1 (by omega)
  have hE1 : E < 2047 := by rw [← hE] at hf; omega
  have hE3 : ((E : Int) == 2047) = false := by simp; omega
  obtain ⟨Y, hY⟩ : ∃ Y, Y = if E = 0 then 1 else E := ⟨_, rfl⟩
  have hM0 : M = if E = 0 then L else L + 4503599627370496 := by rw [hM, hE, hL]; rfl
  have hY1 : 1 ≤ Y := by rw [hY]; split <;> omega
  have hY2 : Y < 2047 := by rw [hY]; split <;> omega
  have hPow : fPow true bits = (Y : Int) - 1075 := by rw [hY, hE]; unfold fPow; split <;> simp
  have hMU : M < 2 * 4503599627370496 := by rw [hM0]; split <;> omega
  have HM := Lib.hid hM
  have HM0 := Lib.hid hM0
  have HY := Lib.hid hY
  have HP := Lib.hid hPow
  have HNEG := Lib.hid hNEG
  rw [← hM, ← hNEG]
  clear hQ hL hE hEQ hM hM0 hY hPow hNEG hf
  go_enter Tryd.func52, Tryd.ntmps52
  go_wp2_with fail
  go_region
  go_upto_if 78 with fail
  go_cut [14, 15] (fun e m wx => e = .int .i64 (Y : Int) ∧ m = .int .u64 (M : Int) ∧ Still w wx)
  case first =>
    have HS : Still w w.drew := (Still.refl w).drew
    by_cases h0 : E = 0
    · subst h0
      have hy : Y = 1 := HY.out
      have hm : M = L := HM0.out
      subst hy; subst hm
      go_wp2_with fail
      go_meet
      exact ⟨rfl, rfl, HS⟩
    · have hy : Y = E := by rw [HY.out, if_neg h0]
      have hm : M = L + 4503599627370496 := by rw [HM0.out, if_neg h0]
      have hEp : ((E : Int) == 0) = false := by simp; omega
      subst hy; subst hm
      go_wp2_with fail
      go_meet
      exact ⟨rfl, rfl, HS⟩
  case rest =>
    obtain ⟨rfl, rfl, HS⟩ := hcut
    have hrc := hr.still HS
    have hTc := HS.tabs hT
    clear e0 e1 e2 e3 e4 e5 hE3
    by_cases h0 : M = 0
    · subst h0
      go_wp2_with fail
      refine (fmtX_zero false NEG 52 _ (by omega) _ _ _ _ _ _ hrc (by omega) (by simp)).mono ?_
      intro e w2 hres
      obtain ⟨n2, g2, o2, c2, rfl, hw⟩ := Went.of_res hres
      have hfin := (hw.since HS).res
      have HF := Lib.hid hfin
      clear hfin hw hres
      go_wp2_with fail
      go_ret
      rw [fXText, if_pos rfl]
      exact HF.out
    · obtain ⟨k, hk⟩ : ∃ k, k = 52 - M.log2 := ⟨_, rfl⟩
      have hnm := norm60 M 52 (by omega) (by omega) (by omega)
      rw [← hk] at hnm
      have HK := Lib.hid hk
      clear hk
      go_wp2_with fail
      refine (fmtX_any false NEG M 52 k _ (by omega) (by omega) hnm.1 hnm.2 (by omega) (by omega) _ _ _ _ _ _ hrc (by omega) (by simp)).mono ?_
      intro e w2 hres
      obtain ⟨n2, g2, o2, c2, rfl, hw⟩ := Went.of_res hres
      have hfin := (hw.since HS).res
      have HF := Lib.hid hfin
      clear hfin hw hres
      go_wp2_with fail
      go_ret
      rw [fXText, if_neg h0, ← HK.out, show fPow true bits + (52 : Nat) = (Y : Int) + -1023 by rw [HP.out]; omega]
      exact HF.out

set_option maxRecDepth 100000 in
set_option maxHeartbeats 4000000 in
theorem ftoa64_X (bits : Nat) (hU : U64 bits) (hf : fExp true bits ≠ 2047) : F64 bits 88 (-1) (fXText true (fNeg true bits) (fLow true bits) 52 (fPow true bits)) := by
  intro B w g x0 hT hBg hr
  have h55 := ext55 bits
  obtain ⟨Q, hQ⟩ : ∃ Q, Q = bits / 2 ^ 52 := ⟨_, rfl⟩
  obtain ⟨L, hL⟩ : ∃ L, L = bits % 2 ^ 52 := ⟨_, rfl⟩
  obtain ⟨E, hE⟩ : ∃ E, E = fExp true bits := ⟨_, rfl⟩
  obtain ⟨NEG, hNEG⟩ : ∃ NEG, NEG = fNeg true bits := ⟨_, rfl⟩
  obtain ⟨M, hM⟩ : ∃ M, M = fLow true bits := ⟨_, rfl⟩
  have hQ1 : Q < 8192 := by rw [hQ]; unfold U64 at hU; omega
  have hEQ : Q % 2048 = E := by rw [hE, hQ]; rfl
  have e0 : (((bits : Int) / 9223372036854775808 != 0) : Bool) = NEG := by rw [hNEG]; exact neg_true bits hU
  have e1 : (bits : Int) / 4503599627370496 = (Q : Int) := by rw [hQ]; omega
  have e2 : IntKind.i64.wrap (Q : Int) = (Q : Int) := by rw [IntKind.wrap_i64]; omega
  have e3 : Go.bits .and .i64 (Q : Int) 2047 = (E : Int) := by rw [← hEQ]; exact and_mask_i64 Q 11 (by omega) (by omega)
  have e4 : Go.bits .and .u64 (bits : Int) 4503599627370495 = (L : Int) := by rw [hL]; exact and_mask_u64 bits 52 hU (by omega)
  have hL1 : L < 4503599627370496 := by rw [hL]; omega
  have e5 : Go.bits .or .u64 (L : Int) 4503599627370496 = ((L + 4503599627370496 : Nat) : Int) := or_pow_u64 L 52 hL1 (by omega)
  have hE1 : E < 2047 := by rw [← hE] at hf; omega
  have hE3 : ((E : Int) == 2047) = false := by simp; omega
  obtain ⟨Y, hY⟩ : ∃ Y, Y = if E = 0 then 1 else E := ⟨_, rfl⟩
  have hM0 : M = if E = 0 then L else L + 4503599627370496 := by rw [hM, hE, hL]; rfl
  have hY1 : 1 ≤ Y := by rw [hY]; split <;> omega
  have hY2 : Y < 2047 := by rw [hY]; split <;> omega
  have hPow : fPow true bits = (Y : Int) - 1075 := by rw [hY, hE]; unfold fPow; split <;> simp
  have hMU : M < 2 * 4503599627370496 := by rw [hM0]; split <;> omega
  have HM := Lib.hid hM
  have HM0 := Lib.hid hM0
  have HY := Lib.hid hY
  have HP := Lib.hid hPow
  have HNEG := Lib.hid hNEG
  rw [← hM, ← hNEG]
  clear hQ hL hE hEQ hM hM0 hY hPow hNEG hf
  go_enter Tryd.func52, Tryd.ntmps52
  go_wp2_with fail
  go_region
  go_upto_if 78 with fail
  go_cut [14, 15] (fun e m wx => e = .int .i64 (Y : Int) ∧ m = .int .u64 (M : Int) ∧ Still w wx)
  case first =>
    have HS : Still w w.drew := (Still.refl w).drew
    by_cases h0 : E = 0
    · subst h0
      have hy : Y = 1 := HY.out
      have hm : M = L := HM0.out
      subst hy; subst hm
      go_wp2_with fail
      go_meet
      exact ⟨rfl, rfl, HS⟩
    · have hy : Y = E := by rw [HY.out, if_neg h0]
      have hm : M = L + 4503599627370496 := by rw [HM0.out, if_neg h0]
      have hEp : ((E : Int) == 0) = false := by simp; omega
      subst hy; subst hm
      go_wp2_with fail
      go_meet
      exact ⟨rfl, rfl, HS⟩
  case rest =>
    obtain ⟨rfl, rfl, HS⟩ := hcut
    have hrc := hr.still HS
    have hTc := HS.tabs hT
    clear e0 e1 e2 e3 e4 e5 hE3
    by_cases h0 : M = 0
    · subst h0
      go_wp2_with fail
      refine (fmtX_zero true NEG 52 _ (by omega) _ _ _ _ _ _ hrc (by omega) (by simp)).mono ?_
      intro e w2 hres
      obtain ⟨n2, g2, o2, c2, rfl, hw⟩ := Went.of_res hres
      have hfin := (hw.since HS).res
      have HF := Lib.hid hfin
      clear hfin hw hres
      go_wp2_with fail
      go_ret
      rw [fXText, if_pos rfl]
      exact HF.out
    · obtain ⟨k, hk⟩ : ∃ k, k = 52 - M.log2 := ⟨_, rfl⟩
      have hnm := norm60 M 52 (by omega) (by omega) (by omega)
      rw [← hk] at hnm
      have HK := Lib.hid hk
      clear hk
      go_wp2_with fail
      refine (fmtX_any true NEG M 52 k _ (by omega) (by omega) hnm.1 hnm.2 (by omega) (by omega) _ _ _ _ _ _ hrc (by omega) (by simp)).mono ?_
      intro e w2 hres
      obtain ⟨n2, g2, o2, c2, rfl, hw⟩ := Went.of_res hres
      have hfin := (hw.since HS).res
      have HF := Lib.hid hfin
      clear hfin hw hres
      go_wp2_with fail
      go_ret
      rw [fXText, if_neg h0, ← HK.out, show fPow true bits + (52 : Nat) = (Y : Int) + -1023 by rw [HP.out]; omega]
      exact HF.out

set_option maxRecDepth 100000 in
set_option maxHeartbeats 4000000 in
theorem ftoa32_x (bits : Nat) (hf : fExp false bits ≠ 255) : F32 (bits % 2 ^ 32) 120 (-1) (fXText false (fNeg false bits) (fLow false bits) 23 (fPow false bits)) := by
  intro B w g x0 hT hBg hr
  obtain ⟨n, hn⟩ : ∃ n, n = bits % 2 ^ 32 := ⟨_, rfl⟩
  have hn32 : n < 4294967296 := by rw [hn]; omega
  rw [← hn]
  have h54 := ext54 n
  have h3222 : IntKind.u64.wrap (n : Int) = (n : Int) := by rw [IntKind.wrap_u64]; omega
  obtain ⟨Q, hQ⟩ : ∃ Q, Q = n / 2 ^ 23 := ⟨_, rfl⟩
  obtain ⟨L, hL⟩ : ∃ L, L = n % 2 ^ 23 := ⟨_, rfl⟩
  obtain ⟨E, hE⟩ : ∃ E, E = fExp false bits := ⟨_, rfl⟩
  obtain ⟨NEG, hNEG⟩ : ∃ NEG, NEG = fNeg false bits := ⟨_, rfl⟩
  obtain ⟨M, hM⟩ : ∃ M, M = fLow false bits := ⟨_, rfl⟩
  have hQ1 : Q < 8192 := by rw [hQ]; omega
  have hEQ : Q % 256 = E := by rw [hE, hQ, hn]; rfl
  have e0 : (((n : Int) / 2147483648 != 0) : Bool) = NEG := by rw [hNEG]; exact neg_false bits n hn
  have e1 : (n : Int) / 8388608 = (Q : Int) := by rw [hQ]; omega
  have e2 : IntKind.i64.wrap (Q : Int) = (Q : Int) := by rw [IntKind.wrap_i64]; omega
  have e3 : Go.bits .and .i64 (Q : Int) 255 = (E : Int) := by rw [← hEQ]; exact and_mask_i64 Q 8 (by omega) (by omega)
  have e4 : Go.bits .and .u64 (n : Int) 8388607 = (L : Int) := by rw [hL]; exact and_mask_u64 n 23 (by omega) (by omega)
  have hL1 : L < 8388608 := by rw [hL]; omega
  have e5 : Go.bits .or .u64 (L : Int) 8388608 = ((L + 8388608 : Nat) : Int) := or_pow_u64 L 23 hL1 (by omega)
  have hE1 : E < 255 := by rw [← hE] at hf; omega
  have hE3 : ((E : Int) == 255) = false := by simp; omega
  obtain ⟨Y, hY⟩ : ∃ Y, Y = if E = 0 then 1 else E := ⟨_, rfl⟩
  have hM0 : M = if E = 0 then L else L + 8388608 := by rw [hM, hE, hL]; rw [hn]; rfl
  have hY1 : 1 ≤ Y := by rw [hY]; split <;> omega
  have hY2 : Y < 255 := by rw [hY]; split <;> omega
  have hPow : fPow false bits = (Y : Int) - 150 := by rw [hY, hE]; unfold fPow; split <;> simp
  have hMU : M < 2 * 8388608 := by rw [hM0]; split <;> omega
  have HM := Lib.hid hM
  have HM0 := Lib.hid hM0
  have HY := Lib.hid hY
  have HP := Lib.hid hPow
  have HNEG := Lib.hid hNEG
  rw [← hM, ← hNEG]
  clear hQ hL hE hEQ hM hM0 hY hPow hNEG hf hn
  go_enter Tryd.func51, Tryd.ntmps51
  go_wp2_with fail
  go_region
  go_upto_if 78 with fail
  go_cut [14, 15] (fun e m wx => e = .int .i64 (Y : Int) ∧ m = .int .u64 (M : Int) ∧ Still w wx)
  case first =>
    have HS : Still w w.drew := (Still.refl w).drew
    by_cases h0 : E = 0
    · subst h0
      have hy : Y = 1 := HY.out
      have hm : M = L := HM0.out
      subst hy; subst hm
      go_wp2_with fail
      go_meet
      exact ⟨rfl, rfl, HS⟩
    · have hy : Y = E := by rw [HY.out, if_neg h0]
      have hm : M = L + 8388608 := by rw [HM0.out, if_neg h0]
      have hEp : ((E : Int) == 0) = false := by simp; omega
      subst hy; subst hm
      go_wp2_with fail
      go_meet
      exact ⟨rfl, rfl, HS⟩
  case rest =>
    obtain ⟨rfl, rfl, HS⟩ := hcut
    have hrc := hr.still HS
    have hTc := HS.tabs hT
    clear e0 e1 e2 e3 e4 e5 hE3
    by_cases h0 : M = 0
    · subst h0
      go_wp2_with fail
      refine (fmtX_zero false NEG 23 _ (by omega) _ _ _ _ _ _ hrc (by omega) (by simp)).mono ?_
      intro e w2 hres
      obtain ⟨n2, g2, o2, c2, rfl, hw⟩ := Went.of_res hres
      have hfin := (hw.since HS).res
      have HF := Lib.hid hfin
      clear hfin hw hres
      go_wp2_with fail
      go_ret
      rw [fXText, if_pos rfl]
      exact HF.out
    · obtain ⟨k, hk⟩ : ∃ k, k = 23 - M.log2 := ⟨_, rfl⟩
      have hnm := norm60 M 23 (by omega) (by omega) (by omega)
      rw [← hk] at hnm
      have HK := Lib.hid hk
      clear hk
      go_wp2_with fail
      refine (fmtX_any false NEG M 23 k _ (by omega) (by omega) hnm.1 hnm.2 (by omega) (by omega) _ _ _ _ _ _ hrc (by omega) (by simp)).mono ?_
      intro e w2 hres
      obtain ⟨n2, g2, o2, c2, rfl, hw⟩ := Went.of_res hres
      have hfin := (hw.since HS).res
      have HF := Lib.hid hfin
      clear hfin hw hres
      go_wp2_with fail
      go_ret
      rw [fXText, if_neg h0, ← HK.out, show fPow false bits + (23 : Nat) = (Y : Int) + -127 by rw [HP.out]; omega]
      exact HF.out

set_option maxRecDepth 100000 in
set_option maxHeartbeats 4000000 in
theorem ftoa32_X (bits : Nat) (hf : fExp false bits ≠ 255) : F32 (bits % 2 ^ 32) 88 (-1) (fXText true (fNeg false bits) (fLow false bits) 23 (fPow false bits)) := by
  intro B w g x0 hT hBg hr
  obtain ⟨n, hn⟩ : ∃ n, n = bits % 2 ^ 32 := ⟨_, rfl⟩
  have hn32 : n < 4294967296 := by rw [hn]; omega
  rw [← hn]
  have h54 := ext54 n
  have h3222 : IntKind.u64.wrap (n : Int) = (n : Int) := by rw [IntKind.wrap_u64]; omega
  obtain ⟨Q, hQ⟩ : ∃ Q, Q = n / 2 ^ 23 := ⟨_, rfl⟩
  obtain ⟨L, hL⟩ : ∃ L, L = n % 2 ^ 23 := ⟨_, rfl⟩
  obtain ⟨E, hE⟩ : ∃ E, E = fExp false bits := ⟨_, rfl⟩
  obtain ⟨NEG, hNEG⟩ : ∃ NEG, NEG = fNeg false bits := ⟨_, rfl⟩
  obtain ⟨M, hM⟩ : ∃ M, M = fLow false bits := ⟨_, rfl⟩
  have hQ1 : Q < 8192 := by rw [hQ]; omega
  have hEQ : Q % 256 = E := by rw [hE, hQ, hn]; rfl
  have e0 : (((n : Int) / 2147483648 != 0) : Bool) = NEG := by rw [hNEG]; exact neg_false bits n hn
  have e1 : (n : Int) / 8388608 = (Q : Int) := by rw [hQ]; omega
  have e2 : IntKind.i64.wrap (Q : Int) = (Q : Int) := by rw [IntKind.wrap_i64]; omega
  have e3 : Go.bits .and .i64 (Q : Int) 255 = (E : Int) := by rw [← hEQ]; exact and_mask_i64 Q 8 (by omega) (by omega)
  have e4 : Go.bits .and .u64 (n : Int) 8388607 = (L : Int) := by rw [hL]; exact and_mask_u64 n 23 (by omega) (by omega)
  have hL1 : L < 8388608 := by rw [hL]; omega
  have e5 : Go.bits .or .u64 (L : Int) 8388608 = ((L + 8388608 : Nat) : Int) := or_pow_u64 L 23 hL1 (by omega)
  have hE1 : E < 255 := by rw [← hE] at hf; omega
  have hE3 : ((E : Int) == 255) = false := by simp; omega
  obtain ⟨Y, hY⟩ : ∃ Y, Y = if E = 0 then 1 else E := ⟨_, rfl⟩
  have hM0 : M = if E = 0 then L else L + 8388608 := by rw [hM, hE, hL]; rw [hn]; rfl
  have hY1 : 1 ≤ Y := by rw [hY]; split <;> omega
  have hY2 : Y < 255 := by rw [hY]; split <;> omega
  have hPow : fPow false bits = (Y : Int) - 150 := by rw [hY, hE]; unfold fPow; split <;> simp
  have hMU : M < 2 * 8388608 := by rw [hM0]; split <;> omega
  have HM := Lib.hid hM
  have HM0 := Lib.hid hM0
  have HY := Lib.hid hY
  have HP := Lib.hid hPow
  have HNEG := Lib.hid hNEG
  rw [← hM, ← hNEG]
  clear hQ hL hE hEQ hM hM0 hY hPow hNEG hf hn
  go_enter Tryd.func51, Tryd.ntmps51
  go_wp2_with fail
  go_region
  go_upto_if 78 with fail
  go_cut [14, 15] (fun e m wx => e = .int .i64 (Y : Int) ∧ m = .int .u64 (M : Int) ∧ Still w wx)
  case first =>
    have HS : Still w w.drew := (Still.refl w).drew
    by_cases h0 : E = 0
    · subst h0
      have hy : Y = 1 := HY.out
      have hm : M = L := HM0.out
      subst hy; subst hm
      go_wp2_with fail
      go_meet
      exact ⟨rfl, rfl, HS⟩
    · have hy : Y = E := by rw [HY.out, if_neg h0]
      have hm : M = L + 8388608 := by rw [HM0.out, if_neg h0]
      have hEp : ((E : Int) == 0) = false := by simp; omega
      subst hy; subst hm
      go_wp2_with fail
      go_meet
      exact ⟨rfl, rfl, HS⟩
  case rest =>
    obtain ⟨rfl, rfl, HS⟩ := hcut
    have hrc := hr.still HS
    have hTc := HS.tabs hT
    clear e0 e1 e2 e3 e4 e5 hE3
    by_cases h0 : M = 0
    · subst h0
      go_wp2_with fail
      refine (fmtX_zero true NEG 23 _ (by omega) _ _ _ _ _ _ hrc (by omega) (by simp)).mono ?_
      intro e w2 hres
      obtain ⟨n2, g2, o2, c2, rfl, hw⟩ := Went.of_res hres
      have hfin := (hw.since HS).res
      have HF := Lib.hid hfin
      clear hfin hw hres
      go_wp2_with fail
      go_ret
      rw [fXText, if_pos rfl]
      exact HF.out
    · obtain ⟨k, hk⟩ : ∃ k, k = 23 - M.log2 := ⟨_, rfl⟩
      have hnm := norm60 M 23 (by omega) (by omega) (by omega)
      rw [← hk] at hnm
      have HK := Lib.hid hk
      clear hk
      go_wp2_with fail
      refine (fmtX_any true NEG M 23 k _ (by omega) (by omega) hnm.1 hnm.2 (by omega) (by omega) _ _ _ _ _ _ hrc (by omega) (by simp)).mono ?_
      intro e w2 hres
      obtain ⟨n2, g2, o2, c2, rfl, hw⟩ := Went.of_res hres
      have hfin := (hw.since HS).res
      have HF := Lib.hid hfin
      clear hfin hw hres
      go_wp2_with fail
      go_ret
      rw [fXText, if_neg h0, ← HK.out, show fPow false bits + (23 : Nat) = (Y : Int) + -127 by rw [HP.out]; omega]
      exact HF.out

end Go.Proofs.YthfjpofbaeeafaaDoor
