/-
  ftoa32 for the verb g with a precision.
-/
import Derived.Test.YthfjpofbaeeafaaDoorEG
import Derived.Deep.DeepCutAuto
import Derived.RegionTactic
import Derived.ChangeAlike
import Derived.StillTailTactics
import Derived.Deep.CutBlock
namespace Go.Proofs.YthfjpofbaeeafaaDoor
open Go.RowKit

set_option maxRecDepth 100000 in
set_option maxHeartbeats 4000000 in
theorem ftoa32_103 (prec : Nat) (hprec : prec ≤ 40) (hp1 : 1 ≤ prec) (txt : Bool → List UInt8 → Int → List UInt8) (hE : EFG 103 false prec txt) (K : Int) (bits : Nat) (hf : fExp false bits ≠ 255) (hK : fLow false bits ≠ 0 → Dec (fLow false bits) (fPow false bits) K) (hK0 : -400 ≤ K) (hK1 : K ≤ 400) : F32 (bits % 2 ^ 32) 103 (prec : Int) (rTxt txt (fNeg false bits) (fLow false bits) (fPow false bits) ((prec : Int) - K)) := by
  intro B w g x0 hT hBg hr
  have HE := Lib.hid hE
  clear hE
  obtain ⟨n, hn⟩ : ∃ n, n = bits % 2 ^ 32 := ⟨_, rfl⟩
  have hn32 : n < 4294967296 := by rw [hn]; omega
  rw [← hn]
  have h54 := ext54 n
  have h3222 : IntKind.u64.wrap (n : Int) = (n : Int) := by rw [IntKind.wrap_u64]; omega
  obtain ⟨Q, hQ⟩ : ∃ Q, Q = n / 2 ^ 23 := ⟨_, rfl⟩
  obtain ⟨L, hL⟩ : ∃ L, L = n % 2 ^ 23 := ⟨_, rfl⟩
  obtain ⟨E, hE⟩ : ∃ E, E = fExp false bits := ⟨_, rfl⟩
  obtain ⟨NEG, hNEG⟩ : ∃ NEG, NEG = fNeg false bits := ⟨_, rfl⟩
  obtain ⟨M, hM⟩ : ∃ M, M = fLow false bits := ⟨_, rfl⟩
  have hQ1 : Q < 8192 := by rw [hQ]; omega
  have hEQ : Q % 256 = E := by rw [hE, hQ, hn]; rfl
  have e0 : (((n : Int) / 2147483648 != 0) : Bool) = NEG := by rw [hNEG]; exact neg_false bits n hn
  have e1 : (n : Int) / 8388608 = (Q : Int) := by rw [hQ]; omega
  have e2 : IntKind.i64.wrap (Q : Int) = (Q : Int) := by rw [IntKind.wrap_i64]; omega
  have e3 : Go.bits .and .i64 (Q : Int) 255 = (E : Int) := by rw [← hEQ]; exact and_mask_i64 Q 8 (by omega) (by omega)
  have e4 : Go.bits .and .u64 (n : Int) 8388607 = (L : Int) := by rw [hL]; exact and_mask_u64 n 23 (by omega) (by omega)
  have hL1 : L < 8388608 := by rw [hL]; omega
  have e5 : Go.bits .or .u64 (L : Int) 8388608 = ((L + 8388608 : Nat) : Int) := or_pow_u64 L 23 hL1 (by omega)
  have hE1 : E < 255 := by rw [← hE] at hf; omega
  have hE3 : ((E : Int) == 255) = false := by simp; omega
  obtain ⟨Y, hY⟩ : ∃ Y, Y = if E = 0 then 1 else E := ⟨_, rfl⟩
  have hM0 : M = if E = 0 then L else L + 8388608 := by rw [hM, hE, hL]; rw [hn]; rfl
  have hY1 : 1 ≤ Y := by rw [hY]; split <;> omega
  have hY2 : Y < 255 := by rw [hY]; split <;> omega
  have hPow : fPow false bits = (Y : Int) - 150 := by rw [hY, hE]; unfold fPow; split <;> simp
  have hMU : M < 2 * 8388608 := by rw [hM0]; split <;> omega
  have HM := Lib.hid hM
  have HM0 := Lib.hid hM0
  have HY := Lib.hid hY
  have HP := Lib.hid hPow
  have HNEG := Lib.hid hNEG
  rw [← hM, ← hNEG, hPow]
  rw [← hM, hPow] at hK
  obtain ⟨PW, hPW⟩ : ∃ PW : Int, PW = (Y : Int) - 150 := ⟨_, rfl⟩
  rw [← hPW] at hK ⊢
  obtain ⟨TX, hTX⟩ : ∃ TX, TX = rTxt txt NEG M PW ((prec : Int) - K) := ⟨_, rfl⟩
  rw [← hTX]
  have hT0 : M = 0 → TX = txt NEG [] 0 := fun h => by rw [hTX, rTxt, if_pos h]
  have hT1 : M ≠ 0 → TX = txt NEG (cutD (rh (VN M PW ((prec : Int) - K)) VC)) (pt (rh (VN M PW ((prec : Int) - K)) VC) ((prec : Int) - K)) := fun h => by rw [hTX, rTxt, if_neg h]
  have HT0 := Lib.hid hT0
  have HT1 := Lib.hid hT1
  have HK := Lib.hid hK
  have HPW := Lib.hid hPW
  clear hTX hK hPW hT0 hT1
  clear hQ hL hE hEQ hM hM0 hY hPow hNEG hf hn
  go_enter Tryd.func51, Tryd.ntmps51
  go_wp2_with fail
  go_region
  go_upto_if 78 with fail
  go_cut [14, 15] (fun e m wx => e = .int .i64 (Y : Int) ∧ m = .int .u64 (M : Int) ∧ Still w wx)
  case first =>
    have HS : Still w w.drew := (Still.refl w).drew
    by_cases h0 : E = 0
    · subst h0
      have hy : Y = 1 := HY.out
      have hm : M = L := HM0.out
      subst hy; subst hm
      go_wp2_with fail
      go_meet
      exact ⟨rfl, rfl, HS⟩
    · have hy : Y = E := by rw [HY.out, if_neg h0]
      have hm : M = L + 8388608 := by rw [HM0.out, if_neg h0]
      have hEp : ((E : Int) == 0) = false := by simp; omega
      subst hy; subst hm
      go_wp2_with fail
      go_meet
      exact ⟨rfl, rfl, HS⟩
  case rest =>
    obtain ⟨rfl, rfl, HS⟩ := hcut
    have hrc := hr.still HS
    have hTc := HS.tabs hT
    clear e0 e1 e2 e3 e4 e5 hE3
    have hPW0 := HPW.out
    have hPW2 : (Y : Int) + -127 - 23 = PW := by omega
    have hPWb : -1080 ≤ PW ∧ PW ≤ 1000 := by omega
    clear hPW0
    have hYb : (Y : Int) ≤ 255 := by omega
    have hoptc := hTc.opt
    by_cases hMz : M = 0
    · as_aux_lemma =>
      have hTZ := HT0.out hMz
      have HTZ := Lib.hid hTZ
      clear hTZ HT0 HT1
      subst hMz
      have hcall := HE.out NEG (.slice none 0 0) [] 0 0 (g + 1) 0 0 _ _ g 12 68 wc (Nat.le_refl _) (by omega) (by omega) (by omega) hrc (by omega) (by simp) (fun h => absurd h (by omega)) (by omega) (fun _ => rfl)
      have HC := Lib.hid hcall
      clear hcall
      go_wp2_with fail
      refine HC.out.mono ?_
      intro e w2 hres
      obtain ⟨n2, g2, o2, c2, rfl, hw⟩ := Went.of_res hres
      have hfin := (hw.since HS).res
      have HF := Lib.hid hfin
      clear hfin hw hres
      go_wp2_with fail
      go_ret
      rw [HTZ.out]
      exact HF.out
    · have hM0' : ((M : Int) == 0) = false := by simp; omega
      have hMpos : 0 < M := by omega
      have hM53 : M < 9007199254740992 := by omega
      have hTX := HT1.out hMz
      have HTX := Lib.hid hTX
      clear HT0 HT1
      have hDec := HK.out hMz
      have HDec := Lib.hid hDec
      clear hTX hDec HK
      have HM0' := Lib.hid hM0'
      have hpz : ((prec : Int) == 0) = false := by simp; omega
      by_cases hdg : prec ≤ 18
      · as_aux_lemma =>
        obtain ⟨LB, hLB⟩ : ∃ LB, LB = Lib.bitLen M := ⟨_, rfl⟩
        obtain ⟨b1, b2, b3, b4⟩ := bitLen_law M hMpos (by omega)
        rw [← hLB] at b1 b2 b3 b4
        have hLB53 : LB ≤ 24 := by
          rcases Nat.lt_or_ge 24 LB with g1 | g1
          · have h2 : 2 ^ 24 ≤ 2 ^ (LB - 1) := Nat.pow_le_pow_right (by decide) (by omega)
            omega
          · exact g1
        have cLB := fun w => bitLen_any M LB hM53 hLB w
        obtain ⟨z, hz⟩ : ∃ z, z = 64 - LB := ⟨_, rfl⟩
        have hzI : (64 : Int) - (LB : Int) = (z : Int) := by omega
        obtain ⟨m, hm⟩ : ∃ m, m = M * 2 ^ z := ⟨_, rfl⟩
        have hm1 : 2 ^ 63 ≤ m := by
          have := Nat.mul_le_mul_right (2 ^ z) b1
          rw [← Nat.pow_add, show LB - 1 + z = 63 by omega, ← hm] at this
          exact this
        have hm2 : m < 2 ^ 64 := by
          have := Nat.mul_lt_mul_of_pos_right b2 (Nat.two_pow_pos z)
          rw [← Nat.pow_add, show LB + z = 64 by omega, ← hm] at this
          exact this
        have hshl : IntKind.u64.wrap ((M : Int) * 2 ^ z) = (m : Int) := by
          have e : (M : Int) * 2 ^ z = ((M * 2 ^ z : Nat) : Int) := by simp
          rw [e, ← hm, IntKind.wrap_u64]; omega
        obtain ⟨y, hy⟩ : ∃ y, y = M * 2 ^ (z - 11) := ⟨_, rfl⟩
        have hy2 : m = y * 2 ^ 11 := by
          rw [hm, hy, Nat.mul_assoc, ← Nat.pow_add]
          congr 2
          omega
        have hy53 : y < 9007199254740992 := by omega
        have hy0 : 0 < y := by omega
        have lh := fun q' => lo_hi M LB PW (PW + LB - 1) q' b1 b2 b3 (by omega) rfl

        obtain ⟨fl1, fl2, fl3, fl4⟩ := fix_law M PW (PW + LB - 1) K prec (by omega) (by omega) HDec.out (by omega) (by omega) (by omega) (by omega) (lh _).1 (lh _).2
        obtain ⟨QF, hQF⟩ : ∃ QF, QF = fixQ M PW (PW + LB - 1) prec := ⟨_, rfl⟩
        have cF : ∀ W : World, Tabs B W → Calls Tryd.prog 64 #[.int .u64 m, .int .i64 (Y + -127 - z - 23), .int .i64 (prec : Int), .int .i64 (prec : Int), .int .u8 103] W (FixRes W (rh (VN M PW QF) VC) (-QF)) := fun W hTW => by
          have := fixed_any W hTW M z y m PW (Y + -127 - z - 23) (PW + LB - 1) prec (prec : Int) 103 false (by decide) (by omega) (by omega) hm hy2 hy0 hy53 hm1 (by omega) (by omega) (by omega) (by omega) (by omega) (by omega) (by omega) (fun h => by cases h)
          rw [hQF]
          simpa using this
        rw [← hQF] at fl1 fl2 fl3 fl4
        have hqr : -700 ≤ QF ∧ QF ≤ 700 := by rw [hQF]; unfold fixQ fixP l2; split <;> omega
        have hcutE := fl3.trans (show cutD (rh (VN M PW ((prec : Nat) - K)) VC) = cutD (rh (VN M PW ((prec : Int) - K)) VC) by congr 3)
        have hptE := fl4.trans (show pt (rh (VN M PW ((prec : Nat) - K)) VC) ((prec : Nat) - K) = pt (rh (VN M PW ((prec : Int) - K)) VC) ((prec : Int) - K) by congr 3)

        obtain ⟨D0, hD0⟩ : ∃ D0, D0 = rh (VN M PW QF) VC := ⟨_, rfl⟩
        rw [← hD0] at fl1 fl2 hcutE hptE cF
        have h10n : 10 ^ prec ≤ 1000000000000000000 := Nat.le_trans (Nat.pow_le_pow_right (by decide) (show prec ≤ 18 by omega)) (by decide)
        have hDne : ((D0 : Int) != 0) = true := bne_iff_ne.2 (by omega)
        have hnd19 := nDigits_19 D0 (by omega)
        obtain ⟨ND, hND⟩ : ∃ ND, ND = Lib.nDigits D0 := ⟨_, rfl⟩
        have cND : ∀ w, Tabs B w → Calls Tryd.prog 62 #[.int .u64 D0] w fun e w' => e = .returned (.int .i64 ND) ∧ w = w' := fun w hTw => by
          rw [hND]; exact numDigits_any D0 fl1 (by unfold U64; omega) w hTw
        have hpt : (ND : Int) + -QF = pt D0 QF := by
          unfold pt
          rw [if_neg (by omega), hND]
          omega
        have hnew := row_zeros wc 108 24 (by omega)
        have hS24 : Still wc (wc.alloc (.cells z24 108)) := (Still.refl wc).alloc _
        have hgb : g < wc.heap.size := hrc.lt (by omega)
        have hal := alloc108
        have hdecM := VC_pos
        rw [← hND] at hnd19
        clear fl3 fl4 hD0 hQF hm hy hy2 hz hLB lh b1 b2 hdecM
        have HCUT := Lib.hid hcutE
        have HPT := Lib.hid hptE
        have HND := Lib.hid hND
        have HPTT := Lib.hid hpt
        have HNEW := Lib.hid hnew
        have HS24 := Lib.hid hS24
        have HRC := Lib.hid hrc
        clear hcutE hptE hND hpt hnew hS24 hrc
        have hM0' := HM0'.out
        go_wp2_with fail
        trace "A"
        refine (cLB _).mono ?_
        rintro e w' ⟨rfl, rfl⟩
        go_wp2_with fail
        refine (cF _ (HS24.out.tabs hTc)).mono ?_
        rintro e w3 ⟨rfl, hst3⟩
        have hT3 : Tabs B w3 := hst3.tabs (HS24.out.tabs hTc)
        have hrow3 := HNEW.out.still hst3
        have HST3 := Lib.hid hst3
        have HT3 := Lib.hid hT3
        have HR3 := Lib.hid hrow3
        clear hst3 hT3 hrow3
        go_wp2_with fail
        go_region_with (first | (go_at_call 62; refine (cND _ ?_).mono ?_; (exact HT3.out.drewN' 1); rintro e w' ⟨rfl, rfl⟩) | (go_at_call 61; refine (setDigits_any wc.heap.size 24 _ _ (HR3.out.drewN' 1) (by simp) (by omega) D0 (by unfold U64; omega) ND HND.out.symm (by omega) (-QF) (by omega) (by omega)).mono ?_; rintro e w4 ⟨rfl, hk4, ys, hy1, hy2, hy3⟩))
        have hS4 : Still wc w4 := keptBut_then ((HS24.out.trans HST3.out).drewN 1) hk4 (fun q hq => Or.inr (by rw [hq]; exact Nat.le_refl _))
        have hlen : (cutD D0).length ≤ ys.length := by
          have := congrArg List.length hy3
          rw [List.length_take] at this
          omega
        have hcp := cutD_pos D0 fl1
        have hnd2 := HND.out
        have hcall := HE.out NEG (.slice (some ⟨wc.heap.size, 0, none⟩) 24 24) ys (cutD D0).length ((Lib.nDigits D0 : Int) + -QF) wc.heap.size 0 24 _ _ g 12 68 w4 hlen (by omega) (by omega) (by omega) (HRC.out.still hS4) (by omega) (by simp) (fun _ => hy2) (by omega) (fun h => absurd h (by omega))
        rw [hy3] at hcall
        have HC := Lib.hid hcall
        have HS4 := Lib.hid hS4
        clear hcall hS4 hk4 hy1 hy2 hy3 hlen hcp hnd2
        go_wp2_with fail
        refine HC.out.mono ?_
        intro e w9 hres
        obtain ⟨n9, g9, o9, c9, rfl, hw9⟩ := Went.of_res hres
        have hfin := (hw9.since (HS.trans HS4.out)).res
        have HF := Lib.hid hfin
        clear hfin hw9 hres
        go_wp2_with fail
        go_ret
        rw [HTX.out, ← HCUT.out, ← HPT.out, ← HPTT.out, HND.out]
        exact HF.out

      · as_aux_lemma =>
        have hnew := dm_new wc
        have hS1 : Still wc (wc.alloc (.cells zdec 113)) := (Still.refl wc).alloc _
        have cA := assign_any (wc.alloc (.cells zdec 113)) wc.heap.size (fun _ => 0) hnew M hMpos hM53
        have hal := alloc113
        have hgb : g < wc.heap.size := hrc.lt (by omega)
        have hBw : B ≤ wc.heap.size := hTc.le
        have HS1 := Lib.hid hS1
        have HRC := Lib.hid hrc
        have HTc := Lib.hid hTc
        clear hnew hS1 hrc hTc
        have hM0' := HM0'.out
        go_wp2_with fail
        refine cA.mono ?_
        rintro e w1 ⟨rfl, hk1, f1, nd1, dp1, hd1, hn1, hp1, hq1⟩
        have HK1 := Lib.hid hk1
        have HD1 := Lib.hid hd1
        clear hk1 hd1
        go_wp2_with fail
        refine (shift_any w1 wc.heap.size f1 nd1 dp1 M HD1.out ((Kp.since HS1.out HK1.out (Nat.le_refl _)).tabs HTc.out) hBw (by omega) (by omega) (by omega) PW (by omega) (by omega)).mono ?_
        rintro e w2 ⟨rfl, hk2, f2, nd2, dp2, hd2, hn2, hp2, hq2⟩
        have HK2 := Lib.hid hk2
        have HD2 := Lib.hid hd2
        have hKe : dp2 = K := dec_unique (hd2.v.dec (by omega) (by omega)) HDec.out (by omega) (by omega) (by omega) (by omega)
        have HKE := Lib.hid hKe
        clear hk2 hd2 hKe
        have cR : ∀ (x : Int) (w9 : World), x = (prec : Int) → w9 = w2 → Calls Tryd.prog 67 #[.pointer (some ⟨wc.heap.size, 0, none⟩), .int .i64 x] w9 (RoRes w2 wc.heap.size (dl f2 nd2) dp2 M PW prec) := fun x w9 hx hw9 => by
          subst hw9
          have := roundDec_any w9 wc.heap.size f2 nd2 dp2 M PW HD2.out (by omega) (by omega) (by omega) prec (by omega)
          rw [show x = ((prec : Nat) : Int) by omega]
          exact this
        have c801a := HD2.out.m.dp
        go_wp2_with fail
        refine (cR _ _ rfl rfl).mono ?_
        rintro e w3 ⟨rfl, hk3, f3, nd3, dp3, hm3, hdig3, hn3, hdp3, hrd⟩
        have c800 := hm3.nd
        have c801 := hm3.dp
        have HK3 := Lib.hid hk3
        have HM3 := Lib.hid hm3
        have HD3 := Lib.hid hdig3
        have HRD := Lib.hid hrd
        clear hk3 hm3 hdig3 hrd
        have hS3 : Still wc w3.drew := (Kp.since HS1.out ((HK1.out.trans HK2.out).trans HK3.out) (Nat.le_refl _)).drew
        have hz3 : nd3 = 0 → dp3 = 0 := by
          intro h0
          have h1 := HRD.out.cut
          have h2 := HRD.out.pp
          subst h0
          rcases Nat.eq_zero_or_pos (rh (VN M PW ((((prec) : Nat) : Int) - dp2)) VC) with h3 | h3
          · rw [h3] at h2
            rw [← h2]
            rfl
          · exfalso
            have h4 := cutD_pos _ h3
            rw [h1] at h4
            simp [dl] at h4
        have hrow3 := (HM3.out.drew).row
        have hcall := HE.out NEG (.slice (some ⟨wc.heap.size, 0, none⟩) 800 800) _ nd3 dp3 wc.heap.size 0 800 _ _ g 12 68 w3.drew (by simp; omega) (by omega) (by omega) (by omega) (HRC.out.still hS3) (by omega) (by simp) (fun _ => hrow3) (by omega) hz3
        rw [dl_bytes f3 nd3 hn3 HD3.out] at hcall
        have HC := Lib.hid hcall
        have HS3 := Lib.hid hS3
        clear hcall hS3 hz3 hrow3
        go_wp2_with fail
        go_still_tail 16, (by kernel_rfl)
        change wpList _ _ _ _ _ w3.drew
        go_wp2_with fail
        refine HC.out.mono ?_
        intro e w9 hres
        obtain ⟨n9, g9, o9, c9, rfl, hw9⟩ := Went.of_res hres
        have hfin := (hw9.since (HS.trans HS3.out)).res
        have HF := Lib.hid hfin
        clear hfin hw9 hres
        go_wp2_with fail
        go_ret
        have h1 := HRD.out.cut
        have h2 := HRD.out.pp
        rw [show ((((prec) : Nat) : Int) - dp2) = ((prec : Int) - K) by have := HKE.out; omega] at h1 h2
        rw [HTX.out, h1, h2]
        exact HF.out

set_option maxRecDepth 100000 in
set_option maxHeartbeats 4000000 in
theorem ftoa32_103z  (txt txt0 : Bool → List UInt8 → Int → List UInt8) (hE : EFG 103 false 1 txt) (hE0 : EFG0 103 false 0 txt0) (K : Int) (bits : Nat) (hf : fExp false bits ≠ 255) (hK : fLow false bits ≠ 0 → Dec (fLow false bits) (fPow false bits) K) (hK0 : -400 ≤ K) (hK1 : K ≤ 400) : F32 (bits % 2 ^ 32) 103 0 (if fLow false bits = 0 then txt0 (fNeg false bits) [] 0 else rTxt txt (fNeg false bits) (fLow false bits) (fPow false bits) ((1 : Int) - K)) := by
  intro B w g x0 hT hBg hr
  have HE := Lib.hid hE
  have HE0 := Lib.hid hE0
  clear hE0
  clear hE
  obtain ⟨n, hn⟩ : ∃ n, n = bits % 2 ^ 32 := ⟨_, rfl⟩
  have hn32 : n < 4294967296 := by rw [hn]; omega
  rw [← hn]
  have h54 := ext54 n
  have h3222 : IntKind.u64.wrap (n : Int) = (n : Int) := by rw [IntKind.wrap_u64]; omega
  obtain ⟨Q, hQ⟩ : ∃ Q, Q = n / 2 ^ 23 := ⟨_, rfl⟩
  obtain ⟨L, hL⟩ : ∃ L, L = n % 2 ^ 23 := ⟨_, rfl⟩
  obtain ⟨E, hE⟩ : ∃ E, E = fExp false bits := ⟨_, rfl⟩
  obtain ⟨NEG, hNEG⟩ : ∃ NEG, NEG = fNeg false bits := ⟨_, rfl⟩
  obtain ⟨M, hM⟩ : ∃ M, M = fLow false bits := ⟨_, rfl⟩
  have hQ1 : Q < 8192 := by rw [hQ]; omega
  have hEQ : Q % 256 = E := by rw [hE, hQ, hn]; rfl
  have e0 : (((n : Int) / 2147483648 != 0) : Bool) = NEG := by rw [hNEG]; exact neg_false bits n hn
  have e1 : (n : Int) / 8388608 = (Q : Int) := by rw [hQ]; omega
  have e2 : IntKind.i64.wrap (Q : Int) = (Q : Int) := by rw [IntKind.wrap_i64]; omega
  have e3 : Go.bits .and .i64 (Q : Int) 255 = (E : Int) := by rw [← hEQ]; exact and_mask_i64 Q 8 (by omega) (by omega)
  have e4 : Go.bits .and .u64 (n : Int) 8388607 = (L : Int) := by rw [hL]; exact and_mask_u64 n 23 (by omega) (by omega)
  have hL1 : L < 8388608 := by rw [hL]; omega
  have e5 : Go.bits .or .u64 (L : Int) 8388608 = ((L + 8388608 : Nat) : Int) := or_pow_u64 L 23 hL1 (by omega)
  have hE1 : E < 255 := by rw [← hE] at hf; omega
  have hE3 : ((E : Int) == 255) = false := by simp; omega
  obtain ⟨Y, hY⟩ : ∃ Y, Y = if E = 0 then 1 else E := ⟨_, rfl⟩
  have hM0 : M = if E = 0 then L else L + 8388608 := by rw [hM, hE, hL]; rw [hn]; rfl
  have hY1 : 1 ≤ Y := by rw [hY]; split <;> omega
  have hY2 : Y < 255 := by rw [hY]; split <;> omega
  have hPow : fPow false bits = (Y : Int) - 150 := by rw [hY, hE]; unfold fPow; split <;> simp
  have hMU : M < 2 * 8388608 := by rw [hM0]; split <;> omega
  have HM := Lib.hid hM
  have HM0 := Lib.hid hM0
  have HY := Lib.hid hY
  have HP := Lib.hid hPow
  have HNEG := Lib.hid hNEG
  rw [← hM, ← hNEG, hPow]
  rw [← hM, hPow] at hK
  obtain ⟨PW, hPW⟩ : ∃ PW : Int, PW = (Y : Int) - 150 := ⟨_, rfl⟩
  rw [← hPW] at hK ⊢
  obtain ⟨TX, hTX⟩ : ∃ TX, TX = (if M = 0 then txt0 NEG [] 0 else rTxt txt NEG M PW ((1 : Int) - K)) := ⟨_, rfl⟩
  rw [← hTX]
  have hT0 : M = 0 → TX = txt0 NEG [] 0 := fun h => by rw [hTX, if_pos h]
  have hT1 : M ≠ 0 → TX = txt NEG (cutD (rh (VN M PW ((1 : Int) - K)) VC)) (pt (rh (VN M PW ((1 : Int) - K)) VC) ((1 : Int) - K)) := fun h => by rw [hTX, if_neg h, rTxt, if_neg h]
  have HT0 := Lib.hid hT0
  have HT1 := Lib.hid hT1
  have HK := Lib.hid hK
  have HPW := Lib.hid hPW
  clear hTX hK hPW hT0 hT1
  clear hQ hL hE hEQ hM hM0 hY hPow hNEG hf hn
  go_enter Tryd.func51, Tryd.ntmps51
  go_wp2_with fail
  go_region
  go_upto_if 78 with fail
  go_cut [14, 15] (fun e m wx => e = .int .i64 (Y : Int) ∧ m = .int .u64 (M : Int) ∧ Still w wx)
  case first =>
    have HS : Still w w.drew := (Still.refl w).drew
    by_cases h0 : E = 0
    · subst h0
      have hy : Y = 1 := HY.out
      have hm : M = L := HM0.out
      subst hy; subst hm
      go_wp2_with fail
      go_meet
      exact ⟨rfl, rfl, HS⟩
    · have hy : Y = E := by rw [HY.out, if_neg h0]
      have hm : M = L + 8388608 := by rw [HM0.out, if_neg h0]
      have hEp : ((E : Int) == 0) = false := by simp; omega
      subst hy; subst hm
      go_wp2_with fail
      go_meet
      exact ⟨rfl, rfl, HS⟩
  case rest =>
    obtain ⟨rfl, rfl, HS⟩ := hcut
    have hrc := hr.still HS
    have hTc := HS.tabs hT
    clear e0 e1 e2 e3 e4 e5 hE3
    have hPW0 := HPW.out
    have hPW2 : (Y : Int) + -127 - 23 = PW := by omega
    have hPWb : -1080 ≤ PW ∧ PW ≤ 1000 := by omega
    clear hPW0
    have hYb : (Y : Int) ≤ 255 := by omega
    have hoptc := hTc.opt
    by_cases hMz : M = 0
    · as_aux_lemma =>
      have hTZ := HT0.out hMz
      have HTZ := Lib.hid hTZ
      clear hTZ HT0 HT1
      subst hMz
      have hcall := HE0.out NEG (.slice none 0 0) [] 0 0 (g + 1) 0 0 _ _ g 12 68 wc rfl rfl (Nat.le_refl _) (by omega) (by omega) (by omega) hrc (by omega) (by simp) (fun h => absurd h (by omega)) (by omega) (fun _ => rfl)
      have HC := Lib.hid hcall
      clear hcall
      go_wp2_with fail
      refine HC.out.mono ?_
      intro e w2 hres
      obtain ⟨n2, g2, o2, c2, rfl, hw⟩ := Went.of_res hres
      have hfin := (hw.since HS).res
      have HF := Lib.hid hfin
      clear hfin hw hres
      go_wp2_with fail
      go_ret
      rw [HTZ.out]
      exact HF.out
    · have hM0' : ((M : Int) == 0) = false := by simp; omega
      have hMpos : 0 < M := by omega
      have hM53 : M < 9007199254740992 := by omega
      have hTX := HT1.out hMz
      have HTX := Lib.hid hTX
      clear HT0 HT1
      have hDec := HK.out hMz
      have HDec := Lib.hid hDec
      clear hTX hDec HK
      have HM0' := Lib.hid hM0'
      by_cases hdg : 1 ≤ 18
      · as_aux_lemma =>
        obtain ⟨LB, hLB⟩ : ∃ LB, LB = Lib.bitLen M := ⟨_, rfl⟩
        obtain ⟨b1, b2, b3, b4⟩ := bitLen_law M hMpos (by omega)
        rw [← hLB] at b1 b2 b3 b4
        have hLB53 : LB ≤ 24 := by
          rcases Nat.lt_or_ge 24 LB with g1 | g1
          · have h2 : 2 ^ 24 ≤ 2 ^ (LB - 1) := Nat.pow_le_pow_right (by decide) (by omega)
            omega
          · exact g1
        have cLB := fun w => bitLen_any M LB hM53 hLB w
        obtain ⟨z, hz⟩ : ∃ z, z = 64 - LB := ⟨_, rfl⟩
        have hzI : (64 : Int) - (LB : Int) = (z : Int) := by omega
        obtain ⟨m, hm⟩ : ∃ m, m = M * 2 ^ z := ⟨_, rfl⟩
        have hm1 : 2 ^ 63 ≤ m := by
          have := Nat.mul_le_mul_right (2 ^ z) b1
          rw [← Nat.pow_add, show LB - 1 + z = 63 by omega, ← hm] at this
          exact this
        have hm2 : m < 2 ^ 64 := by
          have := Nat.mul_lt_mul_of_pos_right b2 (Nat.two_pow_pos z)
          rw [← Nat.pow_add, show LB + z = 64 by omega, ← hm] at this
          exact this
        have hshl : IntKind.u64.wrap ((M : Int) * 2 ^ z) = (m : Int) := by
          have e : (M : Int) * 2 ^ z = ((M * 2 ^ z : Nat) : Int) := by simp
          rw [e, ← hm, IntKind.wrap_u64]; omega
        obtain ⟨y, hy⟩ : ∃ y, y = M * 2 ^ (z - 11) := ⟨_, rfl⟩
        have hy2 : m = y * 2 ^ 11 := by
          rw [hm, hy, Nat.mul_assoc, ← Nat.pow_add]
          congr 2
          omega
        have hy53 : y < 9007199254740992 := by omega
        have hy0 : 0 < y := by omega
        have lh := fun q' => lo_hi M LB PW (PW + LB - 1) q' b1 b2 b3 (by omega) rfl

        obtain ⟨fl1, fl2, fl3, fl4⟩ := fix_law M PW (PW + LB - 1) K 1 (by omega) (by omega) HDec.out (by omega) (by omega) (by omega) (by omega) (lh _).1 (lh _).2
        obtain ⟨QF, hQF⟩ : ∃ QF, QF = fixQ M PW (PW + LB - 1) 1 := ⟨_, rfl⟩
        have cF : ∀ W : World, Tabs B W → Calls Tryd.prog 64 #[.int .u64 m, .int .i64 (Y + -127 - z - 23), .int .i64 (1 : Int), .int .i64 (1 : Int), .int .u8 103] W (FixRes W (rh (VN M PW QF) VC) (-QF)) := fun W hTW => by
          have := fixed_any W hTW M z y m PW (Y + -127 - z - 23) (PW + LB - 1) 1 (1 : Int) 103 false (by decide) (by omega) (by omega) hm hy2 hy0 hy53 hm1 (by omega) (by omega) (by omega) (by omega) (by omega) (by omega) (by omega) (fun h => by cases h)
          rw [hQF]
          simpa using this
        rw [← hQF] at fl1 fl2 fl3 fl4
        have hqr : -700 ≤ QF ∧ QF ≤ 700 := by rw [hQF]; unfold fixQ fixP l2; split <;> omega
        have hcutE := fl3.trans (show cutD (rh (VN M PW ((1 : Nat) - K)) VC) = cutD (rh (VN M PW ((1 : Int) - K)) VC) by congr 3)
        have hptE := fl4.trans (show pt (rh (VN M PW ((1 : Nat) - K)) VC) ((1 : Nat) - K) = pt (rh (VN M PW ((1 : Int) - K)) VC) ((1 : Int) - K) by congr 3)

        obtain ⟨D0, hD0⟩ : ∃ D0, D0 = rh (VN M PW QF) VC := ⟨_, rfl⟩
        rw [← hD0] at fl1 fl2 hcutE hptE cF
        have h10n : 10 ^ 1 ≤ 1000000000000000000 := Nat.le_trans (Nat.pow_le_pow_right (by decide) (show 1 ≤ 18 by omega)) (by decide)
        have hDne : ((D0 : Int) != 0) = true := bne_iff_ne.2 (by omega)
        have hnd19 := nDigits_19 D0 (by omega)
        obtain ⟨ND, hND⟩ : ∃ ND, ND = Lib.nDigits D0 := ⟨_, rfl⟩
        have cND : ∀ w, Tabs B w → Calls Tryd.prog 62 #[.int .u64 D0] w fun e w' => e = .returned (.int .i64 ND) ∧ w = w' := fun w hTw => by
          rw [hND]; exact numDigits_any D0 fl1 (by unfold U64; omega) w hTw
        have hpt : (ND : Int) + -QF = pt D0 QF := by
          unfold pt
          rw [if_neg (by omega), hND]
          omega
        have hnew := row_zeros wc 108 24 (by omega)
        have hS24 : Still wc (wc.alloc (.cells z24 108)) := (Still.refl wc).alloc _
        have hgb : g < wc.heap.size := hrc.lt (by omega)
        have hal := alloc108
        have hdecM := VC_pos
        rw [← hND] at hnd19
        clear fl3 fl4 hD0 hQF hm hy hy2 hz hLB lh b1 b2 hdecM
        have HCUT := Lib.hid hcutE
        have HPT := Lib.hid hptE
        have HND := Lib.hid hND
        have HPTT := Lib.hid hpt
        have HNEW := Lib.hid hnew
        have HS24 := Lib.hid hS24
        have HRC := Lib.hid hrc
        clear hcutE hptE hND hpt hnew hS24 hrc
        have hM0' := HM0'.out
        go_wp2_with fail
        trace "A"
        refine (cLB _).mono ?_
        rintro e w' ⟨rfl, rfl⟩
        go_wp2_with fail
        refine (cF _ (HS24.out.tabs hTc)).mono ?_
        rintro e w3 ⟨rfl, hst3⟩
        have hT3 : Tabs B w3 := hst3.tabs (HS24.out.tabs hTc)
        have hrow3 := HNEW.out.still hst3
        have HST3 := Lib.hid hst3
        have HT3 := Lib.hid hT3
        have HR3 := Lib.hid hrow3
        clear hst3 hT3 hrow3
        go_wp2_with fail
        go_region_with (first | (go_at_call 62; refine (cND _ ?_).mono ?_; (exact HT3.out.drewN' 1); rintro e w' ⟨rfl, rfl⟩) | (go_at_call 61; refine (setDigits_any wc.heap.size 24 _ _ (HR3.out.drewN' 1) (by simp) (by omega) D0 (by unfold U64; omega) ND HND.out.symm (by omega) (-QF) (by omega) (by omega)).mono ?_; rintro e w4 ⟨rfl, hk4, ys, hy1, hy2, hy3⟩))
        have hS4 : Still wc w4 := keptBut_then ((HS24.out.trans HST3.out).drewN 1) hk4 (fun q hq => Or.inr (by rw [hq]; exact Nat.le_refl _))
        have hlen : (cutD D0).length ≤ ys.length := by
          have := congrArg List.length hy3
          rw [List.length_take] at this
          omega
        have hcp := cutD_pos D0 fl1
        have hnd2 := HND.out
        have hcall := HE.out NEG (.slice (some ⟨wc.heap.size, 0, none⟩) 24 24) ys (cutD D0).length ((Lib.nDigits D0 : Int) + -QF) wc.heap.size 0 24 _ _ g 12 68 w4 hlen (by omega) (by omega) (by omega) (HRC.out.still hS4) (by omega) (by simp) (fun _ => hy2) (by omega) (fun h => absurd h (by omega))
        rw [hy3] at hcall
        have HC := Lib.hid hcall
        have HS4 := Lib.hid hS4
        clear hcall hS4 hk4 hy1 hy2 hy3 hlen hcp hnd2
        go_wp2_with fail
        refine HC.out.mono ?_
        intro e w9 hres
        obtain ⟨n9, g9, o9, c9, rfl, hw9⟩ := Went.of_res hres
        have hfin := (hw9.since (HS.trans HS4.out)).res
        have HF := Lib.hid hfin
        clear hfin hw9 hres
        go_wp2_with fail
        go_ret
        rw [HTX.out, ← HCUT.out, ← HPT.out, ← HPTT.out, HND.out]
        exact HF.out

      · exact absurd (by decide) hdg

end Go.Proofs.YthfjpofbaeeafaaDoor
