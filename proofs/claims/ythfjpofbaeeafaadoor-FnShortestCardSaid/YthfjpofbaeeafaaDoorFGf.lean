/-
  fmtEFG for the verb g or G, without an exponent: what it appends.
-/
import Derived.Test.YthfjpofbaeeafaaDoorGL
import Derived.LoopTactic
import Derived.Deep.LoopGhost
import Derived.Deep.DeepCutAuto
namespace Go.Proofs.YthfjpofbaeeafaaDoor
open Go.RowKit
attribute [local go_sem] imax_int imin_int imax_two imin_two

set_option maxRecDepth 100000 in
set_option maxHeartbeats 4000000 in
theorem fmtG_f (neg sh : Bool) (sV : Value) (bs : List UInt8) (nd prec0 : Nat) (dp : Int) (gs os cs : Nat) (hnd : nd ≤ bs.length) (hdp1 : -900 < dp) (hdp2 : dp < 900) (hprec0 : prec0 < 1000) (hnd2 : nd < 1000)
    (v : Value) (olds : List UInt8) (g o c : Nat) (w : World) (hr : Row w v olds g o c) (hc0 : 0 < c) (hl : olds.length ≤ 1000000) (hs : 0 < nd → Row w sV bs gs os cs) (hgs : gs ≠ g) (hdpn : nd = 0 → dp = 0) (hu : gE sh dp nd prec0 = false) :
    Calls Tryd.prog 58 #[v, .bool neg, sV, .int .i64 dp, .int .i64 nd, .int .i64 prec0, .int .u8 103, .bool sh] w (AppRes w g o c olds (fText neg (bs.take nd) dp ((if dp < prec0 then (nd : Int) else prec0) - dp).toNat)) := by
  obtain ⟨prec, hP⟩ : ∃ prec, prec = ((if dp < prec0 then (nd : Int) else prec0) - dp).toNat := ⟨_, rfl⟩
  rw [← hP]
  have hprec : prec < 2000 := by rw [hP]; split <;> omega
  have hdpn0 : 0 < dp → 0 < nd := by omega
  have HP0 := Lib.hid hP
  have HU := Lib.hid hu
  have HN0 := Lib.hid hdpn
  clear hu hdpn
  have hv := hr.val
  rw [hv]
  have hW := Went.refl hr
  clear hP
  clear hv hr
  go_enter Tryd.func58, Tryd.ntmps58
  go_upto_if 36 with fail
  go_cut [5, 6] (fun p f wx => p = .int .i64 (prec : Int) ∧ f = .int .u8 102 ∧ w = wx)
  case first => as_aux_lemma =>
    by_cases c1 : nd < prec0
    · have c1I : (nd : Int) < prec0 := by omega
      by_cases c2 : dp ≤ nd
      · cases sh
        · have c3 : ¬ dp - 1 < -4 := by have := gE_no HU.out; omega
          have hep : gEp false dp nd prec0 = (nd : Int) := by simp [gEp, c1, c2]
          have c4 : dp - 1 < (nd : Int) := by have := gE_no HU.out; rw [hep] at this; omega
          clear hep
          by_cases c5 : dp < prec0
          · have hP5 : prec = ((nd : Int) - dp).toNat := by rw [HP0.out, if_pos c5]
            go_wp2_with fail
            all_goals
              go_meet
              exact ⟨by first | rfl | (congr 1; omega), rfl, rfl⟩
          · have hP5 : prec = ((prec0 : Int) - dp).toNat := by rw [HP0.out, if_neg c5]
            go_wp2_with fail
            all_goals
              go_meet
              exact ⟨by first | rfl | (congr 1; omega), rfl, rfl⟩
        · have c3 : ¬ dp - 1 < -4 := by have := gE_no HU.out; omega
          have hep : gEp true dp nd prec0 = 6 := by simp [gEp]
          have c4 : dp - 1 < 6 := by have := gE_no HU.out; rw [hep] at this; omega
          clear hep
          by_cases c5 : dp < prec0
          · have hP5 : prec = ((nd : Int) - dp).toNat := by rw [HP0.out, if_pos c5]
            go_wp2_with fail
            all_goals
              go_meet
              exact ⟨by first | rfl | (congr 1; omega), rfl, rfl⟩
          · have hP5 : prec = ((prec0 : Int) - dp).toNat := by rw [HP0.out, if_neg c5]
            go_wp2_with fail
            all_goals
              go_meet
              exact ⟨by first | rfl | (congr 1; omega), rfl, rfl⟩
      · cases sh
        · have c3 : ¬ dp - 1 < -4 := by have := gE_no HU.out; omega
          have hep : gEp false dp nd prec0 = (prec0 : Int) := by simp [gEp, c1, c2]
          have c4 : dp - 1 < (prec0 : Int) := by have := gE_no HU.out; rw [hep] at this; omega
          clear hep
          by_cases c5 : dp < prec0
          · have hP5 : prec = ((nd : Int) - dp).toNat := by rw [HP0.out, if_pos c5]
            go_wp2_with fail
            all_goals
              go_meet
              exact ⟨by first | rfl | (congr 1; omega), rfl, rfl⟩
          · have hP5 : prec = ((prec0 : Int) - dp).toNat := by rw [HP0.out, if_neg c5]
            go_wp2_with fail
            all_goals
              go_meet
              exact ⟨by first | rfl | (congr 1; omega), rfl, rfl⟩
        · have c3 : ¬ dp - 1 < -4 := by have := gE_no HU.out; omega
          have hep : gEp true dp nd prec0 = 6 := by simp [gEp]
          have c4 : dp - 1 < 6 := by have := gE_no HU.out; rw [hep] at this; omega
          clear hep
          by_cases c5 : dp < prec0
          · have hP5 : prec = ((nd : Int) - dp).toNat := by rw [HP0.out, if_pos c5]
            go_wp2_with fail
            all_goals
              go_meet
              exact ⟨by first | rfl | (congr 1; omega), rfl, rfl⟩
          · have hP5 : prec = ((prec0 : Int) - dp).toNat := by rw [HP0.out, if_neg c5]
            go_wp2_with fail
            all_goals
              go_meet
              exact ⟨by first | rfl | (congr 1; omega), rfl, rfl⟩
    · have c1I : ¬ (nd : Int) < prec0 := by omega
      cases sh
      · have c3 : ¬ dp - 1 < -4 := by have := gE_no HU.out; omega
        have hep : gEp false dp nd prec0 = (prec0 : Int) := by simp [gEp, c1]
        have c4 : dp - 1 < (prec0 : Int) := by have := gE_no HU.out; rw [hep] at this; omega
        clear hep
        by_cases c5 : dp < prec0
        · have hP5 : prec = ((nd : Int) - dp).toNat := by rw [HP0.out, if_pos c5]
          go_wp2_with fail
          all_goals
            go_meet
            exact ⟨by first | rfl | (congr 1; omega), rfl, rfl⟩
        · have hP5 : prec = ((prec0 : Int) - dp).toNat := by rw [HP0.out, if_neg c5]
          go_wp2_with fail
          all_goals
            go_meet
            exact ⟨by first | rfl | (congr 1; omega), rfl, rfl⟩
      · have c3 : ¬ dp - 1 < -4 := by have := gE_no HU.out; omega
        have hep : gEp true dp nd prec0 = 6 := by simp [gEp]
        have c4 : dp - 1 < 6 := by have := gE_no HU.out; rw [hep] at this; omega
        clear hep
        by_cases c5 : dp < prec0
        · have hP5 : prec = ((nd : Int) - dp).toNat := by rw [HP0.out, if_pos c5]
          go_wp2_with fail
          all_goals
            go_meet
            exact ⟨by first | rfl | (congr 1; omega), rfl, rfl⟩
        · have hP5 : prec = ((prec0 : Int) - dp).toNat := by rw [HP0.out, if_neg c5]
          go_wp2_with fail
          all_goals
            go_meet
            exact ⟨by first | rfl | (congr 1; omega), rfl, rfl⟩
  case rest =>
    obtain ⟨rfl, rfl, rfl⟩ := hcut
    have hdpn := hdpn0
    obtain ⟨ds, hds⟩ : ∃ ds, ds = bs.take nd := ⟨_, rfl⟩
    have hdl : ds.length = nd := by rw [hds, List.length_take]; omega
    have HDS := Lib.hid hds
    clear hds
    go_upto_if 178 with fail
    go_cut [0] (fun s wx => ∃ n g1 o1 c1, s = .slice (some ⟨g1, o1, none⟩) n c1 ∧ Went w g o c olds (sgn neg) n g1 o1 c1 wx)
    case first => as_aux_lemma =>
      cases neg
      · go_wp2_with fail
        go_meet
        exact ⟨_, _, _, _, rfl, hW⟩
      · go_wp2_with (at_builtin; refine wpList_went rfl _ _ 62 62 rfl Tryd.underlying62 hW hc0 ((Still.refl _).alloc _) rfl _ [45] rfl (src_one _ 45 62 Tryd.underlying62) (by simp; omega) ?_)
        intro n0 g0 o0 c0 w0 hW0
        go_wp2_with fail
        go_meet
        exact ⟨_, _, _, _, rfl, hW0⟩
    case rest =>
      obtain ⟨n0, g0, o0, c0, rfl, hW0⟩ := hcut
      have hsl0 : (sgn neg).length ≤ 1 := by cases neg <;> simp [sgn]
      obtain ⟨K0, hK0⟩ : ∃ K0, K0 = sgn neg := ⟨_, rfl⟩
      rw [← hK0] at hW0 hsl0
      have HK0 := Lib.hid hK0
      clear hK0
      obtain ⟨IN, hIN⟩ : ∃ IN, IN = if 0 < dp then fill dp.toNat ds else [48] := ⟨_, rfl⟩
      have HIN := Lib.hid hIN
      clear hIN
      go_upto_if 183 with fail
      go_cut [0] (fun s wx => ∃ n g1 o1 c1, s = .slice (some ⟨g1, o1, none⟩) n c1 ∧ Went w g o c olds (K0 ++ IN) n g1 o1 c1 wx)
      case first => as_aux_lemma =>
        by_cases hdp : 0 < dp
        · obtain ⟨D, rfl⟩ : ∃ D : Nat, dp = (D : Int) := ⟨dp.toNat, by omega⟩
          have hnd0 := hdpn hdp
          have hdd1 : decide ((0 : Int) < (D : Int)) = true := decide_eq_true hdp
          rw [hdd1]
          have hrow := hs hnd0
          have hgl : gs < w.heap.size := hrow.lt (by have := hrow.le; omega)
          have hle0 := hrow.le
          obtain rfl := hrow.val
          obtain ⟨m, hm⟩ : ∃ m, m = min nd D := ⟨_, rfl⟩
          have hmin : (if D < nd then (D : Int) else (nd : Int)) = (m : Int) := by
            rw [hm]; by_cases h : D < nd
            · rw [if_pos h]; omega
            · rw [if_neg h]; omega
          obtain ⟨Z, hZ⟩ : ∃ Z, Z = D - m := ⟨_, rfl⟩
          have hZi : (D : Int) - m = (Z : Int) := by omega
          have hmc : m ≤ cs := by omega
          have hm2 : m ≤ nd := by omega
          have hZ2 : Z ≤ D := by omega
          have hIN2 : IN = ds.take m ++ List.replicate Z 48 := by
            rw [HIN.out, if_pos hdp, fill, Int.toNat_natCast]
            congr 1
            · rw [hm, ← hdl, Nat.min_comm, ← List.take_eq_take_min]
            · congr 1; omega
          have HIN := Lib.hid hIN2
          clear hIN2 hm hZ
          have hcellq : ∀ (j : Nat) (hj : j < ds.length) (wx : World) {n' g' o' c' : Nat} {ks : List UInt8}, Went w g o c olds ks n' g' o' c' wx → wx.cell? ⟨gs, os + j, none⟩ = some (.int .u8 ((ds[j]'hj).toNat : Int)) := by
            intro j hj wx n' g' o' c' ks hwx
            have h1 := (hrow.went hwx hgs hgl).at j (by omega)
            have h2 : bs[j]'(by omega) = ds[j]'hj := by simp [HDS.out]
            rw [h1, h2]
          go_wp2_with fail
          go_loopg [0, 25, 191] m (fun q s _cx b wr => ∃ (n g1 o1 c1 j : Nat), s = .slice (some ⟨g1, o1, none⟩) n c1 ∧ b = .int .i64 (j : Int) ∧ j + q = m ∧ Went w g o c olds (K0 ++ ds.take j) n g1 o1 c1 wr)
          case atStart => exact ⟨_, _, _, _, 0, rfl, rfl, by omega, by simpa using hW0⟩
          case round => as_aux_lemma =>
            obtain ⟨n1, g1, o1, c1, j1, rfl, rfl, hjq1, hWx1⟩ := hrel
            by_cases hjz1 : j1 < m
            · have hji1 : (j1 : Int) < m := by omega
              have hjl1 : j1 < ds.length := by omega
              obtain ⟨bx, hbx⟩ : ∃ bx, bx = ds[j1]'hjl1 := ⟨_, rfl⟩
              have hcell1 := hcellq j1 hjl1 _ (by assumption)
              rw [← hbx] at hcell1
              have htk1 : ds.take (j1 + 1) = ds.take j1 ++ [bx] := by rw [List.take_succ_eq_append_getElem hjl1, hbx]
              have HTK1 := Lib.hid htk1
              clear hbx htk1
              go_wp2_with (at_builtin; refine wpList_went rfl _ _ 62 62 rfl Tryd.underlying62 hWx1 hc0 ((Still.refl _).alloc _) rfl _ [bx] rfl (src_one _ bx 62 Tryd.underlying62) (by simp; omega) ?_)
              intro n11 g11 o11 c11 w11 hWy1
              go_wp2_with fail
              go_roundg (gk - 1)
              case measure => omega
              case rel => exact ⟨_, _, _, _, j1 + 1, rfl, by congr 1, by omega, by rw [HTK1.out]; simpa using hWy1⟩
            · obtain rfl : m = j1 := by omega
              go_wp2_with fail
              go_loopg [0, 203] Z (fun q s b wr => ∃ (n g1 o1 c1 j : Nat), s = .slice (some ⟨g1, o1, none⟩) n c1 ∧ b = .int .i64 (j : Int) ∧ j + q = Z ∧ Went w g o c olds (K0 ++ ds.take m ++ List.replicate j 48) n g1 o1 c1 wr)
              case atStart => exact ⟨_, _, _, _, 0, rfl, rfl, by omega, by simpa using hWx1⟩
              case round => as_aux_lemma =>
                obtain ⟨n2, g2, o2, c2, j2, rfl, rfl, hjq2, hWx2⟩ := hrel
                by_cases hjz2 : j2 < Z
                · have hji2 : (j2 : Int) < Z := by omega
                  go_wp2_with (at_builtin; refine wpList_went rfl _ _ 62 62 rfl Tryd.underlying62 hWx2 hc0 ((Still.refl _).alloc _) rfl _ [48] rfl (src_one _ 48 62 Tryd.underlying62) (by simp; omega) ?_)
                  intro n21 g21 o21 c21 w21 hWy2
                  go_wp2_with fail
                  go_roundg (gk - 1)
                  case measure => omega
                  case rel => exact ⟨_, _, _, _, j2 + 1, rfl, by congr 1, by omega, by rw [List.replicate_succ']; simpa using hWy2⟩
                · obtain rfl : Z = j2 := by omega
                  go_wp2_with fail
                  go_meet
                  exact ⟨_, _, _, _, rfl, by rw [HIN.out, ← List.append_assoc]; exact hWx2⟩
        · have hdp' : ¬ 0 < dp := hdp
          have hIN3 : IN = [48] := by rw [HIN.out, if_neg hdp]
          go_wp2_with (at_builtin; refine wpList_went rfl _ _ 62 62 rfl Tryd.underlying62 hW0 hc0 ((Still.refl _).alloc _) rfl _ [48] rfl (src_one _ 48 62 Tryd.underlying62) (by simp; omega) ?_)
          intro n1 g1 o1 c1 w1 hW1
          rw [← hIN3] at hW1
          clear hIN3
          go_wp2_with fail
          go_meet
          exact ⟨_, _, _, _, rfl, hW1⟩
      case rest =>
        obtain ⟨n2, g2, o2, c2, rfl, hW2⟩ := hcut
        obtain ⟨K1, hK1⟩ : ∃ K1, K1 = K0 ++ IN := ⟨_, rfl⟩
        rw [← hK1] at hW2
        have hK1l : K1.length ≤ 1000 := by
          rw [hK1, HIN.out, List.length_append]
          split
          · rw [fill_length]; omega
          · simp; omega
        have HK1 := Lib.hid hK1
        clear hK1
        go_upto_if 213 with fail
        go_cut [0] (fun s wx => ∃ n g1 o1 c1, s = .slice (some ⟨g1, o1, none⟩) n c1 ∧ Went w g o c olds (K1 ++ fracE prec (List.replicate (-dp).toNat 48 ++ ds.drop dp.toNat)) n g1 o1 c1 wx)
        case first => as_aux_lemma =>
          by_cases hp : prec = 0
          · subst hp
            go_wp2_with fail
            go_meet
            exact ⟨_, _, _, _, rfl, by simpa [fracE] using hW2⟩
          · have hp1 : (0 : Int) < prec := by omega
            obtain ⟨NZ, hNZ⟩ : ∃ NZ, NZ = (-dp).toNat := ⟨_, rfl⟩
            obtain ⟨LZ, hLZ⟩ : ∃ LZ, LZ = min prec NZ := ⟨_, rfl⟩
            obtain ⟨MM, hMM⟩ : ∃ MM, MM = min (prec - NZ) (nd - dp.toNat) := ⟨_, rfl⟩
            obtain ⟨TZ, hTZ⟩ : ∃ TZ, TZ = prec - NZ - (nd - dp.toNat) := ⟨_, rfl⟩
            go_wp2_with (at_builtin; refine wpList_went rfl _ _ 62 62 rfl Tryd.underlying62 hW2 hc0 ((Still.refl _).alloc _) rfl _ [46] rfl (src_one _ 46 62 Tryd.underlying62) (by simp; omega) ?_)
            intro n3 g3 o3 c3 w3 hW3
            go_upto_region 72 with fail
            go_cut [0, 26, 27, 28, 29] (fun s lz off m tz wx => s = .slice (some ⟨g3, o3, none⟩) n3 c3 ∧ lz = .int .i64 (LZ : Int) ∧ off = .int .i64 (dp + LZ) ∧ m = .int .i64 (MM : Int) ∧ tz = .int .i64 (TZ : Int) ∧ w3 = wx)
            case first => as_aux_lemma =>
              go_wp2_with fail
              all_goals
                go_meet
                exact ⟨rfl, by first | rfl | (congr 1; omega), by first | rfl | (congr 1; omega), by first | rfl | (congr 1; omega), by first | rfl | (congr 1; omega), rfl⟩
            case rest =>
              obtain ⟨rfl, rfl, rfl, rfl, rfl, rfl⟩ := hcut
              obtain ⟨OFF, hOFF⟩ : ∃ OFF : Int, OFF = dp + LZ := ⟨_, rfl⟩
              rw [← hOFF]
              obtain ⟨DD, hDD⟩ : ∃ DD : Nat, DD = dp.toNat := ⟨_, rfl⟩
              obtain ⟨EL, hEL⟩ : ∃ EL, EL = ds.drop DD := ⟨_, rfl⟩
              have hELl : EL.length = nd - DD := by rw [hEL, List.length_drop, hdl]
              have hMMl : MM ≤ EL.length := by omega
              have hoff : 0 < MM → OFF = (DD : Int) := by omega
              have hfr : fracE prec (List.replicate (-dp).toNat 48 ++ ds.drop dp.toNat) = [46] ++ List.replicate LZ 48 ++ EL.take MM ++ List.replicate TZ 48 := by
                have e : EL.take MM = EL.take (prec - NZ) := by
                  rw [List.take_eq_take_min (i := prec - NZ), hELl, hMM, hDD]
                rw [fracE, if_neg hp, fill_parts, ← hNZ, ← hDD, ← hEL, ← hLZ, e, hELl, hDD, ← hTZ]
                simp
              have hcellE : ∀ (j : Nat) (hj : j < EL.length) (wx : World) {n' g' o' c' : Nat} {ks : List UInt8}, Went w g o c olds ks n' g' o' c' wx → wx.cell? ⟨gs, os + (DD + j), none⟩ = some (.int .u8 ((EL[j]'hj).toNat : Int)) := by
                intro j hj wx n' g' o' c' ks hwx
                have hrow := hs (by omega)
                have hgl : gs < w.heap.size := hrow.lt (by have := hrow.le; omega)
                have h1 := (hrow.went hwx hgs hgl).at (DD + j) (by omega)
                have h2 : bs[DD + j]'(by omega) = EL[j]'hj := by simp [hEL, HDS.out]
                rw [h1, h2]
              have hsv : 0 < nd → sV = .slice (some ⟨gs, os, none⟩) bs.length cs := fun h => (hs h).val
              have hLZ1 : LZ ≤ prec := by omega
              have hTZ1 : TZ ≤ prec := by omega
              have hMM1 : MM ≤ prec := by omega
              have hMMD : 0 < MM → DD + MM ≤ nd := by omega
              have HFR := Lib.hid hfr
              have HOFF := Lib.hid hoff
              have HSV := Lib.hid hsv
              have HELL := Lib.hid hELl
              clear hfr hOFF hDD hEL hELl hNZ hLZ hMM hTZ hoff hsv hs
              go_wp2_with fail
              go_loopg [0, 240] LZ (fun q s b wr => ∃ (n g1 o1 c1 j : Nat), s = .slice (some ⟨g1, o1, none⟩) n c1 ∧ b = .int .i64 (j : Int) ∧ j + q = LZ ∧ Went w g o c olds (K1 ++ [46] ++ List.replicate j 48) n g1 o1 c1 wr)
              case atStart => exact ⟨_, _, _, _, 0, rfl, rfl, by omega, by simpa using hW3⟩
              case round => as_aux_lemma =>
                obtain ⟨n3, g3, o3, c3, j3, rfl, rfl, hjq3, hWx3⟩ := hrel
                by_cases hjz3 : j3 < LZ
                · have hji3 : (j3 : Int) < LZ := by omega
                  go_wp2_with (at_builtin; refine wpList_went rfl _ _ 62 62 rfl Tryd.underlying62 hWx3 hc0 ((Still.refl _).alloc _) rfl _ [48] rfl (src_one _ 48 62 Tryd.underlying62) (by simp; omega) ?_)
                  intro n31 g31 o31 c31 w31 hWy3
                  go_wp2_with fail
                  go_roundg (gk - 1)
                  case measure => omega
                  case rel => exact ⟨_, _, _, _, j3 + 1, rfl, by congr 1, by omega, by rw [List.replicate_succ']; simpa using hWy3⟩
                · obtain rfl : LZ = j3 := by omega
                  go_wp2_with fail
                  go_loopg [0, 30, 247] MM (fun q s _i b wr => ∃ (n g1 o1 c1 j : Nat), s = .slice (some ⟨g1, o1, none⟩) n c1 ∧ b = .int .i64 (j : Int) ∧ j + q = MM ∧ Went w g o c olds (K1 ++ [46] ++ List.replicate LZ 48 ++ EL.take j) n g1 o1 c1 wr)
                  case atStart => exact ⟨_, _, _, _, 0, rfl, rfl, by omega, by simpa using hWx3⟩
                  case round => as_aux_lemma =>
                    obtain ⟨n4, g4, o4, c4, j4, rfl, rfl, hjq4, hWx4⟩ := hrel
                    by_cases hjz4 : j4 < MM
                    · have hji4 : (j4 : Int) < MM := by omega
                      have hjl4 : j4 < EL.length := by omega
                      obtain ⟨bx, hbx⟩ : ∃ bx, bx = EL[j4]'hjl4 := ⟨_, rfl⟩
                      have hcell4 := hcellE j4 hjl4 _ (by assumption)
                      rw [← hbx] at hcell4
                      have hoffj : OFF + (j4 : Int) = ((DD + j4 : Nat) : Int) := by rw [HOFF.out (by omega)]; omega
                      have hnd4 := HELL.out
                      have hsv4 := HSV.out (by omega)
                      subst hsv4
                      have hbl4 : DD + j4 < bs.length := by omega
                      have hbl4' : ((DD + j4 : Nat) : Int) < bs.length := by omega
                      have htk4 : EL.take (j4 + 1) = EL.take j4 ++ [bx] := by rw [List.take_succ_eq_append_getElem hjl4, hbx]
                      have HTK4 := Lib.hid htk4
                      clear hbx htk4
                      go_wp2_with (at_builtin; refine wpList_went rfl _ _ 62 62 rfl Tryd.underlying62 hWx4 hc0 ((Still.refl _).alloc _) rfl _ [bx] rfl (src_one _ bx 62 Tryd.underlying62) (by simp; omega) ?_)
                      intro n41 g41 o41 c41 w41 hWy4
                      go_wp2_with fail
                      go_roundg (gk - 1)
                      case measure => omega
                      case rel => exact ⟨_, _, _, _, j4 + 1, rfl, by congr 1, by omega, by rw [HTK4.out]; simpa using hWy4⟩
                    · obtain rfl : MM = j4 := by omega
                      go_wp2_with fail
                      go_loopg [0, 261] TZ (fun q s b wr => ∃ (n g1 o1 c1 j : Nat), s = .slice (some ⟨g1, o1, none⟩) n c1 ∧ b = .int .i64 (j : Int) ∧ j + q = TZ ∧ Went w g o c olds (K1 ++ [46] ++ List.replicate LZ 48 ++ EL.take MM ++ List.replicate j 48) n g1 o1 c1 wr)
                      case atStart => exact ⟨_, _, _, _, 0, rfl, rfl, by omega, by simpa using hWx4⟩
                      case round => as_aux_lemma =>
                        obtain ⟨n5, g5, o5, c5, j5, rfl, rfl, hjq5, hWx5⟩ := hrel
                        by_cases hjz5 : j5 < TZ
                        · have hji5 : (j5 : Int) < TZ := by omega
                          go_wp2_with (at_builtin; refine wpList_went rfl _ _ 62 62 rfl Tryd.underlying62 hWx5 hc0 ((Still.refl _).alloc _) rfl _ [48] rfl (src_one _ 48 62 Tryd.underlying62) (by simp; omega) ?_)
                          intro n51 g51 o51 c51 w51 hWy5
                          go_wp2_with fail
                          go_roundg (gk - 1)
                          case measure => omega
                          case rel => exact ⟨_, _, _, _, j5 + 1, rfl, by congr 1, by omega, by rw [List.replicate_succ']; simpa using hWy5⟩
                        · obtain rfl : TZ = j5 := by omega
                          go_wp2_with fail
                          go_meet
                          rw [HFR.out]
                          exact ⟨_, _, _, _, rfl, by simpa using hWx5⟩
        case rest =>
          obtain ⟨n3, g3, o3, c3, rfl, hW3⟩ := hcut
          have hres := hW3.res
          have HF := Lib.hid hres
          clear hres hW3
          go_wp2_with fail
          go_ret
          rw [fText, ← HDS.out, ← HIN.out, ← HK0.out, ← HK1.out]
          exact HF.out

end Go.Proofs.YthfjpofbaeeafaaDoor
