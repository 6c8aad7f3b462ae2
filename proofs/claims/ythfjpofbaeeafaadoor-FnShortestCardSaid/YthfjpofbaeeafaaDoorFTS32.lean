/-
  ftoa32 for the verbs e, f, g and G, with the shortest precision.
-/
import Derived.Test.YthfjpofbaeeafaaDoorEG
import Derived.Test.YthfjpofbaeeafaaDoorES
import Derived.Deep.DeepCutAuto
import Derived.RegionTactic
import Derived.ChangeAlike
import Derived.StillTailTactics
import Derived.Deep.CutBlock
namespace Go.Proofs.YthfjpofbaeeafaaDoor
open Go.RowKit
attribute [local go_sem] imax_int imax_two

set_option maxRecDepth 100000 in
set_option maxHeartbeats 4000000 in
theorem ftos32_101 (txt : Bool → List UInt8 → Int → List UInt8) (hE : ESH 101 pvE txt) (hE0 : ESH0 101 txt) (bits : Nat) (hf : fExp false bits ≠ 255) : F32 (bits % 2 ^ 32) 101 (-1) (shTx txt (fNeg false bits) (fLow false bits) (fPow false bits) (fEdge false bits)) := by
  intro B w g x0 hT hBg hr
  have HE := Lib.hid hE
  have HE0 := Lib.hid hE0
  clear hE hE0
  obtain ⟨n, hn⟩ : ∃ n, n = bits % 2 ^ 32 := ⟨_, rfl⟩
  have hn32 : n < 4294967296 := by rw [hn]; omega
  rw [← hn]
  have h54 := ext54 n
  have h3222 : IntKind.u64.wrap (n : Int) = (n : Int) := by rw [IntKind.wrap_u64]; omega
  obtain ⟨Q, hQ⟩ : ∃ Q, Q = n / 2 ^ 23 := ⟨_, rfl⟩
  obtain ⟨L, hL⟩ : ∃ L, L = n % 2 ^ 23 := ⟨_, rfl⟩
  obtain ⟨E, hE⟩ : ∃ E, E = fExp false bits := ⟨_, rfl⟩
  obtain ⟨NEG, hNEG⟩ : ∃ NEG, NEG = fNeg false bits := ⟨_, rfl⟩
  obtain ⟨M, hM⟩ : ∃ M, M = fLow false bits := ⟨_, rfl⟩
  have hQ1 : Q < 8192 := by rw [hQ]; omega
  have hEQ : Q % 256 = E := by rw [hE, hQ, hn]; rfl
  have e0 : (((n : Int) / 2147483648 != 0) : Bool) = NEG := by rw [hNEG]; exact neg_false bits n hn
  have e1 : (n : Int) / 8388608 = (Q : Int) := by rw [hQ]; omega
  have e2 : IntKind.i64.wrap (Q : Int) = (Q : Int) := by rw [IntKind.wrap_i64]; omega
  have e3 : Go.bits .and .i64 (Q : Int) 255 = (E : Int) := by rw [← hEQ]; exact and_mask_i64 Q 8 (by omega) (by omega)
  have e4 : Go.bits .and .u64 (n : Int) 8388607 = (L : Int) := by rw [hL]; exact and_mask_u64 n 23 (by omega) (by omega)
  have hL1 : L < 8388608 := by rw [hL]; omega
  have e5 : Go.bits .or .u64 (L : Int) 8388608 = ((L + 8388608 : Nat) : Int) := or_pow_u64 L 23 hL1 (by omega)
  have hE1 : E < 255 := by rw [← hE] at hf; omega
  have hE3 : ((E : Int) == 255) = false := by simp; omega
  obtain ⟨Y, hY⟩ : ∃ Y, Y = if E = 0 then 1 else E := ⟨_, rfl⟩
  have hM0 : M = if E = 0 then L else L + 8388608 := by rw [hM, hE, hL]; rw [hn]; rfl
  have hY1 : 1 ≤ Y := by rw [hY]; split <;> omega
  have hY2 : Y < 255 := by rw [hY]; split <;> omega
  have hPow : fPow false bits = (Y : Int) - 150 := by rw [hY, hE]; unfold fPow; split <;> simp
  have hMU : M < 2 * 8388608 := by rw [hM0]; split <;> omega
  have HM := Lib.hid hM
  have HM0 := Lib.hid hM0
  have HY := Lib.hid hY
  have HP := Lib.hid hPow
  have HNEG := Lib.hid hNEG
  obtain ⟨EDGE, hEDGE⟩ : ∃ EDGE, EDGE = fEdge false bits := ⟨_, rfl⟩
  have hzf := fun z => z_fields false bits z
  rw [← hM, ← hEDGE, hPow] at hzf
  rw [← hM, ← hNEG, ← hEDGE, hPow]
  obtain ⟨PW, hPW⟩ : ∃ PW : Int, PW = (Y : Int) - 150 := ⟨_, rfl⟩
  rw [← hPW] at hzf ⊢
  obtain ⟨TX, hTX⟩ : ∃ TX, TX = shTx txt NEG M PW EDGE := ⟨_, rfl⟩
  rw [← hTX]
  have hT0 : M = 0 → TX = txt NEG [] 0 := fun h => by rw [hTX, shTx, if_pos h]
  have hT1 : M ≠ 0 → TX = txt NEG (cutD (shRes M PW EDGE).1) (pt (shRes M PW EDGE).1 (shP PW EDGE - (shRes M PW EDGE).2)) := fun h => by rw [hTX, shTx, if_neg h]
  have HT0 := Lib.hid hT0
  have HT1 := Lib.hid hT1
  have HZF := Lib.hid hzf
  have HPW := Lib.hid hPW
  have HEV := Lib.hid (hEDGE ▸ hM ▸ edge_even false bits : EDGE = true → M % 2 = 0)
  clear hTX hzf hPW hT0 hT1 hEDGE
  clear hQ hL hE hEQ hM hM0 hY hPow hNEG hf hn
  go_enter Tryd.func51, Tryd.ntmps51
  go_wp2_with fail
  go_region
  go_upto_if 78 with fail
  go_cut [14, 15] (fun e m wx => e = .int .i64 (Y : Int) ∧ m = .int .u64 (M : Int) ∧ Still w wx)
  case first =>
    have HS : Still w w.drew := (Still.refl w).drew
    by_cases h0 : E = 0
    · subst h0
      have hy : Y = 1 := HY.out
      have hm : M = L := HM0.out
      subst hy; subst hm
      go_wp2_with fail
      go_meet
      exact ⟨rfl, rfl, HS⟩
    · have hy : Y = E := by rw [HY.out, if_neg h0]
      have hm : M = L + 8388608 := by rw [HM0.out, if_neg h0]
      have hEp : ((E : Int) == 0) = false := by simp; omega
      subst hy; subst hm
      go_wp2_with fail
      go_meet
      exact ⟨rfl, rfl, HS⟩
  case rest =>
    obtain ⟨rfl, rfl, HS⟩ := hcut
    have hrc := hr.still HS
    have hTc := HS.tabs hT
    clear e0 e1 e2 e3 e4 e5 hE3
    have hPW0 := HPW.out
    have hPW2 : (Y : Int) + -127 - 23 = PW := by omega
    have hPWb : -1080 ≤ PW ∧ PW ≤ 1000 := by omega
    have hPWl : -149 ≤ PW := by omega
    clear hPW0
    have hYb : (Y : Int) ≤ 255 := by omega
    have hoptc := hTc.opt
    by_cases hMz : M = 0
    · as_aux_lemma =>
      have hTZ := HT0.out hMz
      have HTZ := Lib.hid hTZ
      clear hTZ HT0 HT1
      subst hMz
      have hcall := HE0.out NEG _ _ g 12 68 wc hrc (by omega) (by simp)
      have HC := Lib.hid hcall
      clear hcall
      go_wp2_with fail
      refine HC.out.mono ?_
      intro e w2 hres
      obtain ⟨n2, g2, o2, c2, rfl, hw⟩ := Went.of_res hres
      have hfin := (hw.since HS).res
      have HF := Lib.hid hfin
      clear hfin hw hres
      go_wp2_with fail
      go_ret
      rw [HTZ.out]
      exact HF.out
    · have hM0' : ((M : Int) == 0) = false := by simp; omega
      have hMpos : 0 < M := by omega
      have hM53 : M < 9007199254740992 := by omega
      have hTX := HT1.out hMz
      have HTX := Lib.hid hTX
      clear HT0 HT1
      clear hTX
      have HM0' := Lib.hid hM0'
      obtain ⟨LB, hLB⟩ : ∃ LB, LB = Lib.bitLen M := ⟨_, rfl⟩
      obtain ⟨b1, b2, b3, b4⟩ := bitLen_law M hMpos (by omega)
      rw [← hLB] at b1 b2 b3 b4
      have hLB53 : LB ≤ 24 := by
        rcases Nat.lt_or_ge 24 LB with g1 | g1
        · have h2 : 2 ^ 24 ≤ 2 ^ (LB - 1) := Nat.pow_le_pow_right (by decide) (by omega)
          omega
        · exact g1
      have cLB := fun w => bitLen_any M LB hM53 hLB w
      obtain ⟨z, hz⟩ : ∃ z, z = 64 - LB := ⟨_, rfl⟩
      have hzI : (64 : Int) - (LB : Int) = (z : Int) := by omega
      obtain ⟨m, hm⟩ : ∃ m, m = M * 2 ^ z := ⟨_, rfl⟩
      have hm1 : 2 ^ 63 ≤ m := by
        have := Nat.mul_le_mul_right (2 ^ z) b1
        rw [← Nat.pow_add, show LB - 1 + z = 63 by omega, ← hm] at this
        exact this
      have hm2 : m < 2 ^ 64 := by
        have := Nat.mul_lt_mul_of_pos_right b2 (Nat.two_pow_pos z)
        rw [← Nat.pow_add, show LB + z = 64 by omega, ← hm] at this
        exact this
      have hshl : IntKind.u64.wrap ((M : Int) * 2 ^ z) = (m : Int) := by
        have e : (M : Int) * 2 ^ z = ((M * 2 ^ z : Nat) : Int) := by simp
        rw [e, ← hm, IntKind.wrap_u64]; omega
      have hzf := HZF.out z
      rw [← hm] at hzf
      obtain ⟨zf1, zf2⟩ := hzf hm1 hm2
      simp only [Bool.false_eq_true, if_false] at zf1 zf2
      obtain ⟨sp1, sp2⟩ := shP_range PW EDGE (by omega) (by omega)
      obtain ⟨q1, q2, q3, q4, q5⟩ := shRes_law M PW EDGE hMpos (by omega) (by omega) (by omega) HEV.out
      have cF : ∀ W : World, Tabs B W → Calls Tryd.prog 60 #[.int .u64 m, .int .i64 (Y + -127 - z - 23)] W (FixRes W (shRes M PW EDGE).1 (-(shP PW EDGE - ((shRes M PW EDGE).2 : Int)))) := fun W hTW => by
        have := sf_60 W hTW M z m PW (Y + -127 - z - 23) EDGE hMpos hm hm1 hm2 (by omega) hPWl (by omega) zf1 (by omega) (by rw [show (Y : Int) + -127 - z - 23 = PW - z by omega]; exact zf2)
        rw [show -(shP PW EDGE - ((shRes M PW EDGE).2 : Int)) = ((shRes M PW EDGE).2 : Int) - shP PW EDGE by omega]
        exact this
      obtain ⟨QF, hQF⟩ : ∃ QF, QF = shP PW EDGE - ((shRes M PW EDGE).2 : Int) := ⟨_, rfl⟩
      obtain ⟨D0, hD0⟩ : ∃ D0, D0 = (shRes M PW EDGE).1 := ⟨_, rfl⟩
      have hTX1 : TX = txt NEG (cutD D0) (pt D0 QF) := by rw [hD0, hQF]; exact HTX.out
      have HTX := Lib.hid hTX1
      have hqr : -700 ≤ QF ∧ QF ≤ 700 := by omega
      have hD18 : D0 < 10 ^ 18 := by
        rw [hD0]
        exact Nat.lt_of_le_of_lt (Nat.le_mul_of_pos_right _ (Nat.pow_pos (by decide))) q4
      rw [← hQF, ← hD0] at cF
      rw [← hD0] at q3
      clear hTX1 zf1 zf2 hm hz hLB b1 b2 HZF HEV hzf q1 q2 q4 q5 hQF hD0 sp1 sp2
      have fl1 : 0 < D0 := q3
      have hnd19 := nDigits_19 D0 (by omega)
      obtain ⟨ND, hND⟩ : ∃ ND, ND = Lib.nDigits D0 := ⟨_, rfl⟩
      have cND : ∀ w, Tabs B w → Calls Tryd.prog 62 #[.int .u64 D0] w fun e w' => e = .returned (.int .i64 ND) ∧ w = w' := fun w hTw => by
        rw [hND]; exact numDigits_any D0 fl1 (by unfold U64; omega) w hTw
      have hpt : (ND : Int) + -QF = pt D0 QF := by
        unfold pt
        rw [if_neg (by omega), hND]
        omega
      have hnew := row_zeros wc 101 32 (by omega)
      have hS24 : Still wc (wc.alloc (.cells z32 101)) := (Still.refl wc).alloc _
      have hgb : g < wc.heap.size := hrc.lt (by omega)
      have hal := alloc101
      rw [← hND] at hnd19
      have HND := Lib.hid hND
      have HPTT := Lib.hid hpt
      have HNEW := Lib.hid hnew
      have HS24 := Lib.hid hS24
      have HRC := Lib.hid hrc
      clear hND hpt hnew hS24 hrc
      have hM0' := HM0'.out
      go_wp2_with fail
      refine (cLB _).mono ?_
      rintro e w' ⟨rfl, rfl⟩
      go_wp2_with fail
      refine (cF _ (HS24.out.tabs hTc)).mono ?_
      rintro e w3 ⟨rfl, hst3⟩
      have hT3 : Tabs B w3 := hst3.tabs (HS24.out.tabs hTc)
      have hrow3 := HNEW.out.still hst3
      have HST3 := Lib.hid hst3
      have HT3 := Lib.hid hT3
      have HR3 := Lib.hid hrow3
      clear hst3 hT3 hrow3 hshl hzI hm1 hm2 cLB cF hPW2 hPWb hPWl hYb hM0' hal b3 b4 hLB53
      go_wp2_with fail
      go_region_with (first | (go_at_call 62; refine (cND _ ?_).mono ?_; (exact HT3.out.drewN' 1); rintro e w' ⟨rfl, rfl⟩) | (go_at_call 61; refine (setDigits_any wc.heap.size 32 _ _ (HR3.out.drewN' 1) (by simp) (by omega) D0 (by unfold U64; omega) ND HND.out.symm (by omega) (-QF) (by omega) (by omega)).mono ?_; rintro e w4 ⟨rfl, hk4, ys, hy1, hy2, hy3⟩))
      have hS4 : Still wc w4 := keptBut_then ((HS24.out.trans HST3.out).drewN 1) hk4 (fun q hq => Or.inr (by rw [hq]; exact Nat.le_refl _))
      have hlen : (cutD D0).length ≤ ys.length := by
        have := congrArg List.length hy3
        rw [List.length_take] at this
        omega
      have hcp := cutD_pos D0 fl1
      have hcl := cutD_le D0
      have hnd2 := HND.out
      have hcall := fun p hp => HE.out NEG (.slice (some ⟨wc.heap.size, 0, none⟩) 32 32) ys (cutD D0).length ((Lib.nDigits D0 : Int) + -QF) wc.heap.size 0 32 _ _ g 12 68 w4 p (by omega) (by omega) hlen (by omega) (by omega) (HRC.out.still hS4) (by omega) (by simp) hy2 (by omega) hp
      rw [hy3] at hcall
      obtain ⟨NC, hNC⟩ : ∃ NC, NC = (cutD D0).length := ⟨_, rfl⟩
      rw [← hNC] at hcall hcp hcl ⊢
      have hNC20 : (NC : Int) ≤ 20 := by omega
      have hNC1 : (1 : Int) ≤ NC := by omega
      have hND20 : (Lib.nDigits D0 : Int) ≤ 20 := by omega
      have HC := Lib.hid hcall
      have HS4 := Lib.hid hS4
      have HNC := Lib.hid hNC
      clear hcall hS4 hk4 hy1 hy2 hy3 hlen hnd2 hNC
      go_wp2_with fail
      refine (HC.out _ (by unfold pvE; omega)).mono ?_
      intro e w9 hres
      obtain ⟨n9, g9, o9, c9, rfl, hw9⟩ := Went.of_res hres
      have hfin := (hw9.since (HS.trans HS4.out)).res
      have HF := Lib.hid hfin
      clear hfin hw9 hres
      go_wp2_with fail
      go_ret
      rw [HTX.out, ← HPTT.out, HND.out]
      exact HF.out


set_option maxRecDepth 100000 in
set_option maxHeartbeats 4000000 in
theorem ftos32_102 (txt : Bool → List UInt8 → Int → List UInt8) (hE : ESH 102 pvF txt) (hE0 : ESH0 102 txt) (bits : Nat) (hf : fExp false bits ≠ 255) : F32 (bits % 2 ^ 32) 102 (-1) (shTx txt (fNeg false bits) (fLow false bits) (fPow false bits) (fEdge false bits)) := by
  intro B w g x0 hT hBg hr
  have HE := Lib.hid hE
  have HE0 := Lib.hid hE0
  clear hE hE0
  obtain ⟨n, hn⟩ : ∃ n, n = bits % 2 ^ 32 := ⟨_, rfl⟩
  have hn32 : n < 4294967296 := by rw [hn]; omega
  rw [← hn]
  have h54 := ext54 n
  have h3222 : IntKind.u64.wrap (n : Int) = (n : Int) := by rw [IntKind.wrap_u64]; omega
  obtain ⟨Q, hQ⟩ : ∃ Q, Q = n / 2 ^ 23 := ⟨_, rfl⟩
  obtain ⟨L, hL⟩ : ∃ L, L = n % 2 ^ 23 := ⟨_, rfl⟩
  obtain ⟨E, hE⟩ : ∃ E, E = fExp false bits := ⟨_, rfl⟩
  obtain ⟨NEG, hNEG⟩ : ∃ NEG, NEG = fNeg false bits := ⟨_, rfl⟩
  obtain ⟨M, hM⟩ : ∃ M, M = fLow false bits := ⟨_, rfl⟩
  have hQ1 : Q < 8192 := by rw [hQ]; omega
  have hEQ : Q % 256 = E := by rw [hE, hQ, hn]; rfl
  have e0 : (((n : Int) / 2147483648 != 0) : Bool) = NEG := by rw [hNEG]; exact neg_false bits n hn
  have e1 : (n : Int) / 8388608 = (Q : Int) := by rw [hQ]; omega
  have e2 : IntKind.i64.wrap (Q : Int) = (Q : Int) := by rw [IntKind.wrap_i64]; omega
  have e3 : Go.bits .and .i64 (Q : Int) 255 = (E : Int) := by rw [← hEQ]; exact and_mask_i64 Q 8 (by omega) (by omega)
  have e4 : Go.bits .and .u64 (n : Int) 8388607 = (L : Int) := by rw [hL]; exact and_mask_u64 n 23 (by omega) (by omega)
  have hL1 : L < 8388608 := by rw [hL]; omega
  have e5 : Go.bits .or .u64 (L : Int) 8388608 = ((L + 8388608 : Nat) : Int) := or_pow_u64 L 23 hL1 (by omega)
  have hE1 : E < 255 := by rw [← hE] at hf; omega
  have hE3 : ((E : Int) == 255) = false := by simp; omega
  obtain ⟨Y, hY⟩ : ∃ Y, Y = if E = 0 then 1 else E := ⟨_, rfl⟩
  have hM0 : M = if E = 0 then L else L + 8388608 := by rw [hM, hE, hL]; rw [hn]; rfl
  have hY1 : 1 ≤ Y := by rw [hY]; split <;> omega
  have hY2 : Y < 255 := by rw [hY]; split <;> omega
  have hPow : fPow false bits = (Y : Int) - 150 := by rw [hY, hE]; unfold fPow; split <;> simp
  have hMU : M < 2 * 8388608 := by rw [hM0]; split <;> omega
  have HM := Lib.hid hM
  have HM0 := Lib.hid hM0
  have HY := Lib.hid hY
  have HP := Lib.hid hPow
  have HNEG := Lib.hid hNEG
  obtain ⟨EDGE, hEDGE⟩ : ∃ EDGE, EDGE = fEdge false bits := ⟨_, rfl⟩
  have hzf := fun z => z_fields false bits z
  rw [← hM, ← hEDGE, hPow] at hzf
  rw [← hM, ← hNEG, ← hEDGE, hPow]
  obtain ⟨PW, hPW⟩ : ∃ PW : Int, PW = (Y : Int) - 150 := ⟨_, rfl⟩
  rw [← hPW] at hzf ⊢
  obtain ⟨TX, hTX⟩ : ∃ TX, TX = shTx txt NEG M PW EDGE := ⟨_, rfl⟩
  rw [← hTX]
  have hT0 : M = 0 → TX = txt NEG [] 0 := fun h => by rw [hTX, shTx, if_pos h]
  have hT1 : M ≠ 0 → TX = txt NEG (cutD (shRes M PW EDGE).1) (pt (shRes M PW EDGE).1 (shP PW EDGE - (shRes M PW EDGE).2)) := fun h => by rw [hTX, shTx, if_neg h]
  have HT0 := Lib.hid hT0
  have HT1 := Lib.hid hT1
  have HZF := Lib.hid hzf
  have HPW := Lib.hid hPW
  have HEV := Lib.hid (hEDGE ▸ hM ▸ edge_even false bits : EDGE = true → M % 2 = 0)
  clear hTX hzf hPW hT0 hT1 hEDGE
  clear hQ hL hE hEQ hM hM0 hY hPow hNEG hf hn
  go_enter Tryd.func51, Tryd.ntmps51
  go_wp2_with fail
  go_region
  go_upto_if 78 with fail
  go_cut [14, 15] (fun e m wx => e = .int .i64 (Y : Int) ∧ m = .int .u64 (M : Int) ∧ Still w wx)
  case first =>
    have HS : Still w w.drew := (Still.refl w).drew
    by_cases h0 : E = 0
    · subst h0
      have hy : Y = 1 := HY.out
      have hm : M = L := HM0.out
      subst hy; subst hm
      go_wp2_with fail
      go_meet
      exact ⟨rfl, rfl, HS⟩
    · have hy : Y = E := by rw [HY.out, if_neg h0]
      have hm : M = L + 8388608 := by rw [HM0.out, if_neg h0]
      have hEp : ((E : Int) == 0) = false := by simp; omega
      subst hy; subst hm
      go_wp2_with fail
      go_meet
      exact ⟨rfl, rfl, HS⟩
  case rest =>
    obtain ⟨rfl, rfl, HS⟩ := hcut
    have hrc := hr.still HS
    have hTc := HS.tabs hT
    clear e0 e1 e2 e3 e4 e5 hE3
    have hPW0 := HPW.out
    have hPW2 : (Y : Int) + -127 - 23 = PW := by omega
    have hPWb : -1080 ≤ PW ∧ PW ≤ 1000 := by omega
    have hPWl : -149 ≤ PW := by omega
    clear hPW0
    have hYb : (Y : Int) ≤ 255 := by omega
    have hoptc := hTc.opt
    by_cases hMz : M = 0
    · as_aux_lemma =>
      have hTZ := HT0.out hMz
      have HTZ := Lib.hid hTZ
      clear hTZ HT0 HT1
      subst hMz
      have hcall := HE0.out NEG _ _ g 12 68 wc hrc (by omega) (by simp)
      have HC := Lib.hid hcall
      clear hcall
      go_wp2_with fail
      refine HC.out.mono ?_
      intro e w2 hres
      obtain ⟨n2, g2, o2, c2, rfl, hw⟩ := Went.of_res hres
      have hfin := (hw.since HS).res
      have HF := Lib.hid hfin
      clear hfin hw hres
      go_wp2_with fail
      go_ret
      rw [HTZ.out]
      exact HF.out
    · have hM0' : ((M : Int) == 0) = false := by simp; omega
      have hMpos : 0 < M := by omega
      have hM53 : M < 9007199254740992 := by omega
      have hTX := HT1.out hMz
      have HTX := Lib.hid hTX
      clear HT0 HT1
      clear hTX
      have HM0' := Lib.hid hM0'
      obtain ⟨LB, hLB⟩ : ∃ LB, LB = Lib.bitLen M := ⟨_, rfl⟩
      obtain ⟨b1, b2, b3, b4⟩ := bitLen_law M hMpos (by omega)
      rw [← hLB] at b1 b2 b3 b4
      have hLB53 : LB ≤ 24 := by
        rcases Nat.lt_or_ge 24 LB with g1 | g1
        · have h2 : 2 ^ 24 ≤ 2 ^ (LB - 1) := Nat.pow_le_pow_right (by decide) (by omega)
          omega
        · exact g1
      have cLB := fun w => bitLen_any M LB hM53 hLB w
      obtain ⟨z, hz⟩ : ∃ z, z = 64 - LB := ⟨_, rfl⟩
      have hzI : (64 : Int) - (LB : Int) = (z : Int) := by omega
      obtain ⟨m, hm⟩ : ∃ m, m = M * 2 ^ z := ⟨_, rfl⟩
      have hm1 : 2 ^ 63 ≤ m := by
        have := Nat.mul_le_mul_right (2 ^ z) b1
        rw [← Nat.pow_add, show LB - 1 + z = 63 by omega, ← hm] at this
        exact this
      have hm2 : m < 2 ^ 64 := by
        have := Nat.mul_lt_mul_of_pos_right b2 (Nat.two_pow_pos z)
        rw [← Nat.pow_add, show LB + z = 64 by omega, ← hm] at this
        exact this
      have hshl : IntKind.u64.wrap ((M : Int) * 2 ^ z) = (m : Int) := by
        have e : (M : Int) * 2 ^ z = ((M * 2 ^ z : Nat) : Int) := by simp
        rw [e, ← hm, IntKind.wrap_u64]; omega
      have hzf := HZF.out z
      rw [← hm] at hzf
      obtain ⟨zf1, zf2⟩ := hzf hm1 hm2
      simp only [Bool.false_eq_true, if_false] at zf1 zf2
      obtain ⟨sp1, sp2⟩ := shP_range PW EDGE (by omega) (by omega)
      obtain ⟨q1, q2, q3, q4, q5⟩ := shRes_law M PW EDGE hMpos (by omega) (by omega) (by omega) HEV.out
      have cF : ∀ W : World, Tabs B W → Calls Tryd.prog 60 #[.int .u64 m, .int .i64 (Y + -127 - z - 23)] W (FixRes W (shRes M PW EDGE).1 (-(shP PW EDGE - ((shRes M PW EDGE).2 : Int)))) := fun W hTW => by
        have := sf_60 W hTW M z m PW (Y + -127 - z - 23) EDGE hMpos hm hm1 hm2 (by omega) hPWl (by omega) zf1 (by omega) (by rw [show (Y : Int) + -127 - z - 23 = PW - z by omega]; exact zf2)
        rw [show -(shP PW EDGE - ((shRes M PW EDGE).2 : Int)) = ((shRes M PW EDGE).2 : Int) - shP PW EDGE by omega]
        exact this
      obtain ⟨QF, hQF⟩ : ∃ QF, QF = shP PW EDGE - ((shRes M PW EDGE).2 : Int) := ⟨_, rfl⟩
      obtain ⟨D0, hD0⟩ : ∃ D0, D0 = (shRes M PW EDGE).1 := ⟨_, rfl⟩
      have hTX1 : TX = txt NEG (cutD D0) (pt D0 QF) := by rw [hD0, hQF]; exact HTX.out
      have HTX := Lib.hid hTX1
      have hqr : -700 ≤ QF ∧ QF ≤ 700 := by omega
      have hD18 : D0 < 10 ^ 18 := by
        rw [hD0]
        exact Nat.lt_of_le_of_lt (Nat.le_mul_of_pos_right _ (Nat.pow_pos (by decide))) q4
      rw [← hQF, ← hD0] at cF
      rw [← hD0] at q3
      clear hTX1 zf1 zf2 hm hz hLB b1 b2 HZF HEV hzf q1 q2 q4 q5 hQF hD0 sp1 sp2
      have fl1 : 0 < D0 := q3
      have hnd19 := nDigits_19 D0 (by omega)
      obtain ⟨ND, hND⟩ : ∃ ND, ND = Lib.nDigits D0 := ⟨_, rfl⟩
      have cND : ∀ w, Tabs B w → Calls Tryd.prog 62 #[.int .u64 D0] w fun e w' => e = .returned (.int .i64 ND) ∧ w = w' := fun w hTw => by
        rw [hND]; exact numDigits_any D0 fl1 (by unfold U64; omega) w hTw
      have hpt : (ND : Int) + -QF = pt D0 QF := by
        unfold pt
        rw [if_neg (by omega), hND]
        omega
      have hnew := row_zeros wc 101 32 (by omega)
      have hS24 : Still wc (wc.alloc (.cells z32 101)) := (Still.refl wc).alloc _
      have hgb : g < wc.heap.size := hrc.lt (by omega)
      have hal := alloc101
      rw [← hND] at hnd19
      have HND := Lib.hid hND
      have HPTT := Lib.hid hpt
      have HNEW := Lib.hid hnew
      have HS24 := Lib.hid hS24
      have HRC := Lib.hid hrc
      clear hND hpt hnew hS24 hrc
      have hM0' := HM0'.out
      go_wp2_with fail
      refine (cLB _).mono ?_
      rintro e w' ⟨rfl, rfl⟩
      go_wp2_with fail
      refine (cF _ (HS24.out.tabs hTc)).mono ?_
      rintro e w3 ⟨rfl, hst3⟩
      have hT3 : Tabs B w3 := hst3.tabs (HS24.out.tabs hTc)
      have hrow3 := HNEW.out.still hst3
      have HST3 := Lib.hid hst3
      have HT3 := Lib.hid hT3
      have HR3 := Lib.hid hrow3
      clear hst3 hT3 hrow3 hshl hzI hm1 hm2 cLB cF hPW2 hPWb hPWl hYb hM0' hal b3 b4 hLB53
      go_wp2_with fail
      go_region_with (first | (go_at_call 62; refine (cND _ ?_).mono ?_; (exact HT3.out.drewN' 1); rintro e w' ⟨rfl, rfl⟩) | (go_at_call 61; refine (setDigits_any wc.heap.size 32 _ _ (HR3.out.drewN' 1) (by simp) (by omega) D0 (by unfold U64; omega) ND HND.out.symm (by omega) (-QF) (by omega) (by omega)).mono ?_; rintro e w4 ⟨rfl, hk4, ys, hy1, hy2, hy3⟩))
      have hS4 : Still wc w4 := keptBut_then ((HS24.out.trans HST3.out).drewN 1) hk4 (fun q hq => Or.inr (by rw [hq]; exact Nat.le_refl _))
      have hlen : (cutD D0).length ≤ ys.length := by
        have := congrArg List.length hy3
        rw [List.length_take] at this
        omega
      have hcp := cutD_pos D0 fl1
      have hcl := cutD_le D0
      have hnd2 := HND.out
      have hcall := fun p hp => HE.out NEG (.slice (some ⟨wc.heap.size, 0, none⟩) 32 32) ys (cutD D0).length ((Lib.nDigits D0 : Int) + -QF) wc.heap.size 0 32 _ _ g 12 68 w4 p (by omega) (by omega) hlen (by omega) (by omega) (HRC.out.still hS4) (by omega) (by simp) hy2 (by omega) hp
      rw [hy3] at hcall
      obtain ⟨NC, hNC⟩ : ∃ NC, NC = (cutD D0).length := ⟨_, rfl⟩
      rw [← hNC] at hcall hcp hcl ⊢
      have hNC20 : (NC : Int) ≤ 20 := by omega
      have hNC1 : (1 : Int) ≤ NC := by omega
      have hND20 : (Lib.nDigits D0 : Int) ≤ 20 := by omega
      have HC := Lib.hid hcall
      have HS4 := Lib.hid hS4
      have HNC := Lib.hid hNC
      clear hcall hS4 hk4 hy1 hy2 hy3 hlen hnd2 hNC
      obtain ⟨DF, hDF⟩ : ∃ DF : Int, DF = (NC : Int) - ((Lib.nDigits D0 : Int) + -QF) := ⟨_, rfl⟩
      by_cases hDn : (NC : Int) - ((Lib.nDigits D0 : Int) + -QF) < 0
      · clear hDF
        go_wp2_with fail
        refine (HC.out _ (by unfold pvF; omega)).mono ?_
        intro e w9 hres
        obtain ⟨n9, g9, o9, c9, rfl, hw9⟩ := Went.of_res hres
        have hfin := (hw9.since (HS.trans HS4.out)).res
        have HF := Lib.hid hfin
        clear hfin hw9 hres
        go_wp2_with fail
        go_ret
        rw [HTX.out, ← HPTT.out, HND.out]
        exact HF.out
      · clear hDF
        go_wp2_with fail
        refine (HC.out _ (by unfold pvF; omega)).mono ?_
        intro e w9 hres
        obtain ⟨n9, g9, o9, c9, rfl, hw9⟩ := Went.of_res hres
        have hfin := (hw9.since (HS.trans HS4.out)).res
        have HF := Lib.hid hfin
        clear hfin hw9 hres
        go_wp2_with fail
        go_ret
        rw [HTX.out, ← HPTT.out, HND.out]
        exact HF.out


set_option maxRecDepth 100000 in
set_option maxHeartbeats 4000000 in
theorem ftos32_103 (txt : Bool → List UInt8 → Int → List UInt8) (hE : ESH 103 pvG txt) (hE0 : ESH0 103 txt) (bits : Nat) (hf : fExp false bits ≠ 255) : F32 (bits % 2 ^ 32) 103 (-1) (shTx txt (fNeg false bits) (fLow false bits) (fPow false bits) (fEdge false bits)) := by
  intro B w g x0 hT hBg hr
  have HE := Lib.hid hE
  have HE0 := Lib.hid hE0
  clear hE hE0
  obtain ⟨n, hn⟩ : ∃ n, n = bits % 2 ^ 32 := ⟨_, rfl⟩
  have hn32 : n < 4294967296 := by rw [hn]; omega
  rw [← hn]
  have h54 := ext54 n
  have h3222 : IntKind.u64.wrap (n : Int) = (n : Int) := by rw [IntKind.wrap_u64]; omega
  obtain ⟨Q, hQ⟩ : ∃ Q, Q = n / 2 ^ 23 := ⟨_, rfl⟩
  obtain ⟨L, hL⟩ : ∃ L, L = n % 2 ^ 23 := ⟨_, rfl⟩
  obtain ⟨E, hE⟩ : ∃ E, E = fExp false bits := ⟨_, rfl⟩
  obtain ⟨NEG, hNEG⟩ : ∃ NEG, NEG = fNeg false bits := ⟨_, rfl⟩
  obtain ⟨M, hM⟩ : ∃ M, M = fLow false bits := ⟨_, rfl⟩
  have hQ1 : Q < 8192 := by rw [hQ]; omega
  have hEQ : Q % 256 = E := by rw [hE, hQ, hn]; rfl
  have e0 : (((n : Int) / 2147483648 != 0) : Bool) = NEG := by rw [hNEG]; exact neg_false bits n hn
  have e1 : (n : Int) / 8388608 = (Q : Int) := by rw [hQ]; omega
  have e2 : IntKind.i64.wrap (Q : Int) = (Q : Int) := by rw [IntKind.wrap_i64]; omega
  have e3 : Go.bits .and .i64 (Q : Int) 255 = (E : Int) := by rw [← hEQ]; exact and_mask_i64 Q 8 (by omega) (by omega)
  have e4 : Go.bits .and .u64 (n : Int) 8388607 = (L : Int) := by rw [hL]; exact and_mask_u64 n 23 (by omega) (by omega)
  have hL1 : L < 8388608 := by rw [hL]; omega
  have e5 : Go.bits .or .u64 (L : Int) 8388608 = ((L + 8388608 : Nat) : Int) := or_pow_u64 L 23 hL1 (by omega)
  have hE1 : E < 255 := by rw [← hE] at hf; omega
  have hE3 : ((E : Int) == 255) = false := by simp; omega
  obtain ⟨Y, hY⟩ : ∃ Y, Y = if E = 0 then 1 else E := ⟨_, rfl⟩
  have hM0 : M = if E = 0 then L else L + 8388608 := by rw [hM, hE, hL]; rw [hn]; rfl
  have hY1 : 1 ≤ Y := by rw [hY]; split <;> omega
  have hY2 : Y < 255 := by rw [hY]; split <;> omega
  have hPow : fPow false bits = (Y : Int) - 150 := by rw [hY, hE]; unfold fPow; split <;> simp
  have hMU : M < 2 * 8388608 := by rw [hM0]; split <;> omega
  have HM := Lib.hid hM
  have HM0 := Lib.hid hM0
  have HY := Lib.hid hY
  have HP := Lib.hid hPow
  have HNEG := Lib.hid hNEG
  obtain ⟨EDGE, hEDGE⟩ : ∃ EDGE, EDGE = fEdge false bits := ⟨_, rfl⟩
  have hzf := fun z => z_fields false bits z
  rw [← hM, ← hEDGE, hPow] at hzf
  rw [← hM, ← hNEG, ← hEDGE, hPow]
  obtain ⟨PW, hPW⟩ : ∃ PW : Int, PW = (Y : Int) - 150 := ⟨_, rfl⟩
  rw [← hPW] at hzf ⊢
  obtain ⟨TX, hTX⟩ : ∃ TX, TX = shTx txt NEG M PW EDGE := ⟨_, rfl⟩
  rw [← hTX]
  have hT0 : M = 0 → TX = txt NEG [] 0 := fun h => by rw [hTX, shTx, if_pos h]
  have hT1 : M ≠ 0 → TX = txt NEG (cutD (shRes M PW EDGE).1) (pt (shRes M PW EDGE).1 (shP PW EDGE - (shRes M PW EDGE).2)) := fun h => by rw [hTX, shTx, if_neg h]
  have HT0 := Lib.hid hT0
  have HT1 := Lib.hid hT1
  have HZF := Lib.hid hzf
  have HPW := Lib.hid hPW
  have HEV := Lib.hid (hEDGE ▸ hM ▸ edge_even false bits : EDGE = true → M % 2 = 0)
  clear hTX hzf hPW hT0 hT1 hEDGE
  clear hQ hL hE hEQ hM hM0 hY hPow hNEG hf hn
  go_enter Tryd.func51, Tryd.ntmps51
  go_wp2_with fail
  go_region
  go_upto_if 78 with fail
  go_cut [14, 15] (fun e m wx => e = .int .i64 (Y : Int) ∧ m = .int .u64 (M : Int) ∧ Still w wx)
  case first =>
    have HS : Still w w.drew := (Still.refl w).drew
    by_cases h0 : E = 0
    · subst h0
      have hy : Y = 1 := HY.out
      have hm : M = L := HM0.out
      subst hy; subst hm
      go_wp2_with fail
      go_meet
      exact ⟨rfl, rfl, HS⟩
    · have hy : Y = E := by rw [HY.out, if_neg h0]
      have hm : M = L + 8388608 := by rw [HM0.out, if_neg h0]
      have hEp : ((E : Int) == 0) = false := by simp; omega
      subst hy; subst hm
      go_wp2_with fail
      go_meet
      exact ⟨rfl, rfl, HS⟩
  case rest =>
    obtain ⟨rfl, rfl, HS⟩ := hcut
    have hrc := hr.still HS
    have hTc := HS.tabs hT
    clear e0 e1 e2 e3 e4 e5 hE3
    have hPW0 := HPW.out
    have hPW2 : (Y : Int) + -127 - 23 = PW := by omega
    have hPWb : -1080 ≤ PW ∧ PW ≤ 1000 := by omega
    have hPWl : -149 ≤ PW := by omega
    clear hPW0
    have hYb : (Y : Int) ≤ 255 := by omega
    have hoptc := hTc.opt
    by_cases hMz : M = 0
    · as_aux_lemma =>
      have hTZ := HT0.out hMz
      have HTZ := Lib.hid hTZ
      clear hTZ HT0 HT1
      subst hMz
      have hcall := HE0.out NEG _ _ g 12 68 wc hrc (by omega) (by simp)
      have HC := Lib.hid hcall
      clear hcall
      go_wp2_with fail
      refine HC.out.mono ?_
      intro e w2 hres
      obtain ⟨n2, g2, o2, c2, rfl, hw⟩ := Went.of_res hres
      have hfin := (hw.since HS).res
      have HF := Lib.hid hfin
      clear hfin hw hres
      go_wp2_with fail
      go_ret
      rw [HTZ.out]
      exact HF.out
    · have hM0' : ((M : Int) == 0) = false := by simp; omega
      have hMpos : 0 < M := by omega
      have hM53 : M < 9007199254740992 := by omega
      have hTX := HT1.out hMz
      have HTX := Lib.hid hTX
      clear HT0 HT1
      clear hTX
      have HM0' := Lib.hid hM0'
      obtain ⟨LB, hLB⟩ : ∃ LB, LB = Lib.bitLen M := ⟨_, rfl⟩
      obtain ⟨b1, b2, b3, b4⟩ := bitLen_law M hMpos (by omega)
      rw [← hLB] at b1 b2 b3 b4
      have hLB53 : LB ≤ 24 := by
        rcases Nat.lt_or_ge 24 LB with g1 | g1
        · have h2 : 2 ^ 24 ≤ 2 ^ (LB - 1) := Nat.pow_le_pow_right (by decide) (by omega)
          omega
        · exact g1
      have cLB := fun w => bitLen_any M LB hM53 hLB w
      obtain ⟨z, hz⟩ : ∃ z, z = 64 - LB := ⟨_, rfl⟩
      have hzI : (64 : Int) - (LB : Int) = (z : Int) := by omega
      obtain ⟨m, hm⟩ : ∃ m, m = M * 2 ^ z := ⟨_, rfl⟩
      have hm1 : 2 ^ 63 ≤ m := by
        have := Nat.mul_le_mul_right (2 ^ z) b1
        rw [← Nat.pow_add, show LB - 1 + z = 63 by omega, ← hm] at this
        exact this
      have hm2 : m < 2 ^ 64 := by
        have := Nat.mul_lt_mul_of_pos_right b2 (Nat.two_pow_pos z)
        rw [← Nat.pow_add, show LB + z = 64 by omega, ← hm] at this
        exact this
      have hshl : IntKind.u64.wrap ((M : Int) * 2 ^ z) = (m : Int) := by
        have e : (M : Int) * 2 ^ z = ((M * 2 ^ z : Nat) : Int) := by simp
        rw [e, ← hm, IntKind.wrap_u64]; omega
      have hzf := HZF.out z
      rw [← hm] at hzf
      obtain ⟨zf1, zf2⟩ := hzf hm1 hm2
      simp only [Bool.false_eq_true, if_false] at zf1 zf2
      obtain ⟨sp1, sp2⟩ := shP_range PW EDGE (by omega) (by omega)
      obtain ⟨q1, q2, q3, q4, q5⟩ := shRes_law M PW EDGE hMpos (by omega) (by omega) (by omega) HEV.out
      have cF : ∀ W : World, Tabs B W → Calls Tryd.prog 60 #[.int .u64 m, .int .i64 (Y + -127 - z - 23)] W (FixRes W (shRes M PW EDGE).1 (-(shP PW EDGE - ((shRes M PW EDGE).2 : Int)))) := fun W hTW => by
        have := sf_60 W hTW M z m PW (Y + -127 - z - 23) EDGE hMpos hm hm1 hm2 (by omega) hPWl (by omega) zf1 (by omega) (by rw [show (Y : Int) + -127 - z - 23 = PW - z by omega]; exact zf2)
        rw [show -(shP PW EDGE - ((shRes M PW EDGE).2 : Int)) = ((shRes M PW EDGE).2 : Int) - shP PW EDGE by omega]
        exact this
      obtain ⟨QF, hQF⟩ : ∃ QF, QF = shP PW EDGE - ((shRes M PW EDGE).2 : Int) := ⟨_, rfl⟩
      obtain ⟨D0, hD0⟩ : ∃ D0, D0 = (shRes M PW EDGE).1 := ⟨_, rfl⟩
      have hTX1 : TX = txt NEG (cutD D0) (pt D0 QF) := by rw [hD0, hQF]; exact HTX.out
      have HTX := Lib.hid hTX1
      have hqr : -700 ≤ QF ∧ QF ≤ 700 := by omega
      have hD18 : D0 < 10 ^ 18 := by
        rw [hD0]
        exact Nat.lt_of_le_of_lt (Nat.le_mul_of_pos_right _ (Nat.pow_pos (by decide))) q4
      rw [← hQF, ← hD0] at cF
      rw [← hD0] at q3
      clear hTX1 zf1 zf2 hm hz hLB b1 b2 HZF HEV hzf q1 q2 q4 q5 hQF hD0 sp1 sp2
      have fl1 : 0 < D0 := q3
      have hnd19 := nDigits_19 D0 (by omega)
      obtain ⟨ND, hND⟩ : ∃ ND, ND = Lib.nDigits D0 := ⟨_, rfl⟩
      have cND : ∀ w, Tabs B w → Calls Tryd.prog 62 #[.int .u64 D0] w fun e w' => e = .returned (.int .i64 ND) ∧ w = w' := fun w hTw => by
        rw [hND]; exact numDigits_any D0 fl1 (by unfold U64; omega) w hTw
      have hpt : (ND : Int) + -QF = pt D0 QF := by
        unfold pt
        rw [if_neg (by omega), hND]
        omega
      have hnew := row_zeros wc 101 32 (by omega)
      have hS24 : Still wc (wc.alloc (.cells z32 101)) := (Still.refl wc).alloc _
      have hgb : g < wc.heap.size := hrc.lt (by omega)
      have hal := alloc101
      rw [← hND] at hnd19
      have HND := Lib.hid hND
      have HPTT := Lib.hid hpt
      have HNEW := Lib.hid hnew
      have HS24 := Lib.hid hS24
      have HRC := Lib.hid hrc
      clear hND hpt hnew hS24 hrc
      have hM0' := HM0'.out
      go_wp2_with fail
      refine (cLB _).mono ?_
      rintro e w' ⟨rfl, rfl⟩
      go_wp2_with fail
      refine (cF _ (HS24.out.tabs hTc)).mono ?_
      rintro e w3 ⟨rfl, hst3⟩
      have hT3 : Tabs B w3 := hst3.tabs (HS24.out.tabs hTc)
      have hrow3 := HNEW.out.still hst3
      have HST3 := Lib.hid hst3
      have HT3 := Lib.hid hT3
      have HR3 := Lib.hid hrow3
      clear hst3 hT3 hrow3 hshl hzI hm1 hm2 cLB cF hPW2 hPWb hPWl hYb hM0' hal b3 b4 hLB53
      go_wp2_with fail
      go_region_with (first | (go_at_call 62; refine (cND _ ?_).mono ?_; (exact HT3.out.drewN' 1); rintro e w' ⟨rfl, rfl⟩) | (go_at_call 61; refine (setDigits_any wc.heap.size 32 _ _ (HR3.out.drewN' 1) (by simp) (by omega) D0 (by unfold U64; omega) ND HND.out.symm (by omega) (-QF) (by omega) (by omega)).mono ?_; rintro e w4 ⟨rfl, hk4, ys, hy1, hy2, hy3⟩))
      have hS4 : Still wc w4 := keptBut_then ((HS24.out.trans HST3.out).drewN 1) hk4 (fun q hq => Or.inr (by rw [hq]; exact Nat.le_refl _))
      have hlen : (cutD D0).length ≤ ys.length := by
        have := congrArg List.length hy3
        rw [List.length_take] at this
        omega
      have hcp := cutD_pos D0 fl1
      have hcl := cutD_le D0
      have hnd2 := HND.out
      have hcall := fun p hp => HE.out NEG (.slice (some ⟨wc.heap.size, 0, none⟩) 32 32) ys (cutD D0).length ((Lib.nDigits D0 : Int) + -QF) wc.heap.size 0 32 _ _ g 12 68 w4 p (by omega) (by omega) hlen (by omega) (by omega) (HRC.out.still hS4) (by omega) (by simp) hy2 (by omega) hp
      rw [hy3] at hcall
      obtain ⟨NC, hNC⟩ : ∃ NC, NC = (cutD D0).length := ⟨_, rfl⟩
      rw [← hNC] at hcall hcp hcl ⊢
      have hNC20 : (NC : Int) ≤ 20 := by omega
      have hNC1 : (1 : Int) ≤ NC := by omega
      have hND20 : (Lib.nDigits D0 : Int) ≤ 20 := by omega
      have HC := Lib.hid hcall
      have HS4 := Lib.hid hS4
      have HNC := Lib.hid hNC
      clear hcall hS4 hk4 hy1 hy2 hy3 hlen hnd2 hNC
      go_wp2_with fail
      refine (HC.out _ (by rfl)).mono ?_
      intro e w9 hres
      obtain ⟨n9, g9, o9, c9, rfl, hw9⟩ := Went.of_res hres
      have hfin := (hw9.since (HS.trans HS4.out)).res
      have HF := Lib.hid hfin
      clear hfin hw9 hres
      go_wp2_with fail
      go_ret
      rw [HTX.out, ← HPTT.out, HND.out]
      exact HF.out


set_option maxRecDepth 100000 in
set_option maxHeartbeats 4000000 in
theorem ftos32_71 (txt : Bool → List UInt8 → Int → List UInt8) (hE : ESH 71 pvG txt) (hE0 : ESH0 71 txt) (bits : Nat) (hf : fExp false bits ≠ 255) : F32 (bits % 2 ^ 32) 71 (-1) (shTx txt (fNeg false bits) (fLow false bits) (fPow false bits) (fEdge false bits)) := by
  intro B w g x0 hT hBg hr
  have HE := Lib.hid hE
  have HE0 := Lib.hid hE0
  clear hE hE0
  obtain ⟨n, hn⟩ : ∃ n, n = bits % 2 ^ 32 := ⟨_, rfl⟩
  have hn32 : n < 4294967296 := by rw [hn]; omega
  rw [← hn]
  have h54 := ext54 n
  have h3222 : IntKind.u64.wrap (n : Int) = (n : Int) := by rw [IntKind.wrap_u64]; omega
  obtain ⟨Q, hQ⟩ : ∃ Q, Q = n / 2 ^ 23 := ⟨_, rfl⟩
  obtain ⟨L, hL⟩ : ∃ L, L = n % 2 ^ 23 := ⟨_, rfl⟩
  obtain ⟨E, hE⟩ : ∃ E, E = fExp false bits := ⟨_, rfl⟩
  obtain ⟨NEG, hNEG⟩ : ∃ NEG, NEG = fNeg false bits := ⟨_, rfl⟩
  obtain ⟨M, hM⟩ : ∃ M, M = fLow false bits := ⟨_, rfl⟩
  have hQ1 : Q < 8192 := by rw [hQ]; omega
  have hEQ : Q % 256 = E := by rw [hE, hQ, hn]; rfl
  have e0 : (((n : Int) / 2147483648 != 0) : Bool) = NEG := by rw [hNEG]; exact neg_false bits n hn
  have e1 : (n : Int) / 8388608 = (Q : Int) := by rw [hQ]; omega
  have e2 : IntKind.i64.wrap (Q : Int) = (Q : Int) := by rw [IntKind.wrap_i64]; omega
  have e3 : Go.bits .and .i64 (Q : Int) 255 = (E : Int) := by rw [← hEQ]; exact and_mask_i64 Q 8 (by omega) (by omega)
  have e4 : Go.bits .and .u64 (n : Int) 8388607 = (L : Int) := by rw [hL]; exact and_mask_u64 n 23 (by omega) (by omega)
  have hL1 : L < 8388608 := by rw [hL]; omega
  have e5 : Go.bits .or .u64 (L : Int) 8388608 = ((L + 8388608 : Nat) : Int) := or_pow_u64 L 23 hL1 (by omega)
  have hE1 : E < 255 := by rw [← hE] at hf; omega
  have hE3 : ((E : Int) == 255) = false := by simp; omega
  obtain ⟨Y, hY⟩ : ∃ Y, Y = if E = 0 then 1 else E := ⟨_, rfl⟩
  have hM0 : M = if E = 0 then L else L + 8388608 := by rw [hM, hE, hL]; rw [hn]; rfl
  have hY1 : 1 ≤ Y := by rw [hY]; split <;> omega
  have hY2 : Y < 255 := by rw [hY]; split <;> omega
  have hPow : fPow false bits = (Y : Int) - 150 := by rw [hY, hE]; unfold fPow; split <;> simp
  have hMU : M < 2 * 8388608 := by rw [hM0]; split <;> omega
  have HM := Lib.hid hM
  have HM0 := Lib.hid hM0
  have HY := Lib.hid hY
  have HP := Lib.hid hPow
  have HNEG := Lib.hid hNEG
  obtain ⟨EDGE, hEDGE⟩ : ∃ EDGE, EDGE = fEdge false bits := ⟨_, rfl⟩
  have hzf := fun z => z_fields false bits z
  rw [← hM, ← hEDGE, hPow] at hzf
  rw [← hM, ← hNEG, ← hEDGE, hPow]
  obtain ⟨PW, hPW⟩ : ∃ PW : Int, PW = (Y : Int) - 150 := ⟨_, rfl⟩
  rw [← hPW] at hzf ⊢
  obtain ⟨TX, hTX⟩ : ∃ TX, TX = shTx txt NEG M PW EDGE := ⟨_, rfl⟩
  rw [← hTX]
  have hT0 : M = 0 → TX = txt NEG [] 0 := fun h => by rw [hTX, shTx, if_pos h]
  have hT1 : M ≠ 0 → TX = txt NEG (cutD (shRes M PW EDGE).1) (pt (shRes M PW EDGE).1 (shP PW EDGE - (shRes M PW EDGE).2)) := fun h => by rw [hTX, shTx, if_neg h]
  have HT0 := Lib.hid hT0
  have HT1 := Lib.hid hT1
  have HZF := Lib.hid hzf
  have HPW := Lib.hid hPW
  have HEV := Lib.hid (hEDGE ▸ hM ▸ edge_even false bits : EDGE = true → M % 2 = 0)
  clear hTX hzf hPW hT0 hT1 hEDGE
  clear hQ hL hE hEQ hM hM0 hY hPow hNEG hf hn
  go_enter Tryd.func51, Tryd.ntmps51
  go_wp2_with fail
  go_region
  go_upto_if 78 with fail
  go_cut [14, 15] (fun e m wx => e = .int .i64 (Y : Int) ∧ m = .int .u64 (M : Int) ∧ Still w wx)
  case first =>
    have HS : Still w w.drew := (Still.refl w).drew
    by_cases h0 : E = 0
    · subst h0
      have hy : Y = 1 := HY.out
      have hm : M = L := HM0.out
      subst hy; subst hm
      go_wp2_with fail
      go_meet
      exact ⟨rfl, rfl, HS⟩
    · have hy : Y = E := by rw [HY.out, if_neg h0]
      have hm : M = L + 8388608 := by rw [HM0.out, if_neg h0]
      have hEp : ((E : Int) == 0) = false := by simp; omega
      subst hy; subst hm
      go_wp2_with fail
      go_meet
      exact ⟨rfl, rfl, HS⟩
  case rest =>
    obtain ⟨rfl, rfl, HS⟩ := hcut
    have hrc := hr.still HS
    have hTc := HS.tabs hT
    clear e0 e1 e2 e3 e4 e5 hE3
    have hPW0 := HPW.out
    have hPW2 : (Y : Int) + -127 - 23 = PW := by omega
    have hPWb : -1080 ≤ PW ∧ PW ≤ 1000 := by omega
    have hPWl : -149 ≤ PW := by omega
    clear hPW0
    have hYb : (Y : Int) ≤ 255 := by omega
    have hoptc := hTc.opt
    by_cases hMz : M = 0
    · as_aux_lemma =>
      have hTZ := HT0.out hMz
      have HTZ := Lib.hid hTZ
      clear hTZ HT0 HT1
      subst hMz
      have hcall := HE0.out NEG _ _ g 12 68 wc hrc (by omega) (by simp)
      have HC := Lib.hid hcall
      clear hcall
      go_wp2_with fail
      refine HC.out.mono ?_
      intro e w2 hres
      obtain ⟨n2, g2, o2, c2, rfl, hw⟩ := Went.of_res hres
      have hfin := (hw.since HS).res
      have HF := Lib.hid hfin
      clear hfin hw hres
      go_wp2_with fail
      go_ret
      rw [HTZ.out]
      exact HF.out
    · have hM0' : ((M : Int) == 0) = false := by simp; omega
      have hMpos : 0 < M := by omega
      have hM53 : M < 9007199254740992 := by omega
      have hTX := HT1.out hMz
      have HTX := Lib.hid hTX
      clear HT0 HT1
      clear hTX
      have HM0' := Lib.hid hM0'
      obtain ⟨LB, hLB⟩ : ∃ LB, LB = Lib.bitLen M := ⟨_, rfl⟩
      obtain ⟨b1, b2, b3, b4⟩ := bitLen_law M hMpos (by omega)
      rw [← hLB] at b1 b2 b3 b4
      have hLB53 : LB ≤ 24 := by
        rcases Nat.lt_or_ge 24 LB with g1 | g1
        · have h2 : 2 ^ 24 ≤ 2 ^ (LB - 1) := Nat.pow_le_pow_right (by decide) (by omega)
          omega
        · exact g1
      have cLB := fun w => bitLen_any M LB hM53 hLB w
      obtain ⟨z, hz⟩ : ∃ z, z = 64 - LB := ⟨_, rfl⟩
      have hzI : (64 : Int) - (LB : Int) = (z : Int) := by omega
      obtain ⟨m, hm⟩ : ∃ m, m = M * 2 ^ z := ⟨_, rfl⟩
      have hm1 : 2 ^ 63 ≤ m := by
        have := Nat.mul_le_mul_right (2 ^ z) b1
        rw [← Nat.pow_add, show LB - 1 + z = 63 by omega, ← hm] at this
        exact this
      have hm2 : m < 2 ^ 64 := by
        have := Nat.mul_lt_mul_of_pos_right b2 (Nat.two_pow_pos z)
        rw [← Nat.pow_add, show LB + z = 64 by omega, ← hm] at this
        exact this
      have hshl : IntKind.u64.wrap ((M : Int) * 2 ^ z) = (m : Int) := by
        have e : (M : Int) * 2 ^ z = ((M * 2 ^ z : Nat) : Int) := by simp
        rw [e, ← hm, IntKind.wrap_u64]; omega
      have hzf := HZF.out z
      rw [← hm] at hzf
      obtain ⟨zf1, zf2⟩ := hzf hm1 hm2
      simp only [Bool.false_eq_true, if_false] at zf1 zf2
      obtain ⟨sp1, sp2⟩ := shP_range PW EDGE (by omega) (by omega)
      obtain ⟨q1, q2, q3, q4, q5⟩ := shRes_law M PW EDGE hMpos (by omega) (by omega) (by omega) HEV.out
      have cF : ∀ W : World, Tabs B W → Calls Tryd.prog 60 #[.int .u64 m, .int .i64 (Y + -127 - z - 23)] W (FixRes W (shRes M PW EDGE).1 (-(shP PW EDGE - ((shRes M PW EDGE).2 : Int)))) := fun W hTW => by
        have := sf_60 W hTW M z m PW (Y + -127 - z - 23) EDGE hMpos hm hm1 hm2 (by omega) hPWl (by omega) zf1 (by omega) (by rw [show (Y : Int) + -127 - z - 23 = PW - z by omega]; exact zf2)
        rw [show -(shP PW EDGE - ((shRes M PW EDGE).2 : Int)) = ((shRes M PW EDGE).2 : Int) - shP PW EDGE by omega]
        exact this
      obtain ⟨QF, hQF⟩ : ∃ QF, QF = shP PW EDGE - ((shRes M PW EDGE).2 : Int) := ⟨_, rfl⟩
      obtain ⟨D0, hD0⟩ : ∃ D0, D0 = (shRes M PW EDGE).1 := ⟨_, rfl⟩
      have hTX1 : TX = txt NEG (cutD D0) (pt D0 QF) := by rw [hD0, hQF]; exact HTX.out
      have HTX := Lib.hid hTX1
      have hqr : -700 ≤ QF ∧ QF ≤ 700 := by omega
      have hD18 : D0 < 10 ^ 18 := by
        rw [hD0]
        exact Nat.lt_of_le_of_lt (Nat.le_mul_of_pos_right _ (Nat.pow_pos (by decide))) q4
      rw [← hQF, ← hD0] at cF
      rw [← hD0] at q3
      clear hTX1 zf1 zf2 hm hz hLB b1 b2 HZF HEV hzf q1 q2 q4 q5 hQF hD0 sp1 sp2
      have fl1 : 0 < D0 := q3
      have hnd19 := nDigits_19 D0 (by omega)
      obtain ⟨ND, hND⟩ : ∃ ND, ND = Lib.nDigits D0 := ⟨_, rfl⟩
      have cND : ∀ w, Tabs B w → Calls Tryd.prog 62 #[.int .u64 D0] w fun e w' => e = .returned (.int .i64 ND) ∧ w = w' := fun w hTw => by
        rw [hND]; exact numDigits_any D0 fl1 (by unfold U64; omega) w hTw
      have hpt : (ND : Int) + -QF = pt D0 QF := by
        unfold pt
        rw [if_neg (by omega), hND]
        omega
      have hnew := row_zeros wc 101 32 (by omega)
      have hS24 : Still wc (wc.alloc (.cells z32 101)) := (Still.refl wc).alloc _
      have hgb : g < wc.heap.size := hrc.lt (by omega)
      have hal := alloc101
      rw [← hND] at hnd19
      have HND := Lib.hid hND
      have HPTT := Lib.hid hpt
      have HNEW := Lib.hid hnew
      have HS24 := Lib.hid hS24
      have HRC := Lib.hid hrc
      clear hND hpt hnew hS24 hrc
      have hM0' := HM0'.out
      go_wp2_with fail
      refine (cLB _).mono ?_
      rintro e w' ⟨rfl, rfl⟩
      go_wp2_with fail
      refine (cF _ (HS24.out.tabs hTc)).mono ?_
      rintro e w3 ⟨rfl, hst3⟩
      have hT3 : Tabs B w3 := hst3.tabs (HS24.out.tabs hTc)
      have hrow3 := HNEW.out.still hst3
      have HST3 := Lib.hid hst3
      have HT3 := Lib.hid hT3
      have HR3 := Lib.hid hrow3
      clear hst3 hT3 hrow3 hshl hzI hm1 hm2 cLB cF hPW2 hPWb hPWl hYb hM0' hal b3 b4 hLB53
      go_wp2_with fail
      go_region_with (first | (go_at_call 62; refine (cND _ ?_).mono ?_; (exact HT3.out.drewN' 1); rintro e w' ⟨rfl, rfl⟩) | (go_at_call 61; refine (setDigits_any wc.heap.size 32 _ _ (HR3.out.drewN' 1) (by simp) (by omega) D0 (by unfold U64; omega) ND HND.out.symm (by omega) (-QF) (by omega) (by omega)).mono ?_; rintro e w4 ⟨rfl, hk4, ys, hy1, hy2, hy3⟩))
      have hS4 : Still wc w4 := keptBut_then ((HS24.out.trans HST3.out).drewN 1) hk4 (fun q hq => Or.inr (by rw [hq]; exact Nat.le_refl _))
      have hlen : (cutD D0).length ≤ ys.length := by
        have := congrArg List.length hy3
        rw [List.length_take] at this
        omega
      have hcp := cutD_pos D0 fl1
      have hcl := cutD_le D0
      have hnd2 := HND.out
      have hcall := fun p hp => HE.out NEG (.slice (some ⟨wc.heap.size, 0, none⟩) 32 32) ys (cutD D0).length ((Lib.nDigits D0 : Int) + -QF) wc.heap.size 0 32 _ _ g 12 68 w4 p (by omega) (by omega) hlen (by omega) (by omega) (HRC.out.still hS4) (by omega) (by simp) hy2 (by omega) hp
      rw [hy3] at hcall
      obtain ⟨NC, hNC⟩ : ∃ NC, NC = (cutD D0).length := ⟨_, rfl⟩
      rw [← hNC] at hcall hcp hcl ⊢
      have hNC20 : (NC : Int) ≤ 20 := by omega
      have hNC1 : (1 : Int) ≤ NC := by omega
      have hND20 : (Lib.nDigits D0 : Int) ≤ 20 := by omega
      have HC := Lib.hid hcall
      have HS4 := Lib.hid hS4
      have HNC := Lib.hid hNC
      clear hcall hS4 hk4 hy1 hy2 hy3 hlen hnd2 hNC
      go_wp2_with fail
      refine (HC.out _ (by rfl)).mono ?_
      intro e w9 hres
      obtain ⟨n9, g9, o9, c9, rfl, hw9⟩ := Went.of_res hres
      have hfin := (hw9.since (HS.trans HS4.out)).res
      have HF := Lib.hid hfin
      clear hfin hw9 hres
      go_wp2_with fail
      go_ret
      rw [HTX.out, ← HPTT.out, HND.out]
      exact HF.out


end Go.Proofs.YthfjpofbaeeafaaDoor
