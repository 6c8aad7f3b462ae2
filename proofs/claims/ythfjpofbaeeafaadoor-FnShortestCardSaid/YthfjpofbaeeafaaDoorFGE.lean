/-
  fmtEFG for the verb g or G, with an exponent: what it appends.
-/
import Derived.Test.YthfjpofbaeeafaaDoorGL
import Derived.LoopTactic
import Derived.Deep.LoopGhost
import Derived.Deep.DeepCutAuto
namespace Go.Proofs.YthfjpofbaeeafaaDoor
open Go.RowKit
attribute [local go_sem] imax_int imin_int imax_two imin_two

set_option maxRecDepth 100000 in
set_option maxHeartbeats 4000000 in
theorem fmtG_E (neg sh : Bool) (sV : Value) (bs : List UInt8) (nd prec0 : Nat) (dp : Int) (gs os cs : Nat) (hnd : nd ≤ bs.length) (hdp1 : -900 < dp) (hdp2 : dp < 900) (hprec0 : prec0 < 1000) (hp01 : 1 ≤ prec0) (hnd2 : nd < 1000)
    (v : Value) (olds : List UInt8) (g o c : Nat) (w : World) (hr : Row w v olds g o c) (hc0 : 0 < c) (hl : olds.length ≤ 1000000) (hs : 0 < nd → Row w sV bs gs os cs) (hgs : gs ≠ g) (hdpn : nd = 0 → dp = 0) (hu : gE sh dp nd prec0 = true) :
    Calls Tryd.prog 58 #[v, .bool neg, sV, .int .i64 dp, .int .i64 nd, .int .i64 prec0, .int .u8 71, .bool sh] w (AppRes w g o c olds (eText neg 69 (bs.take nd) dp (min prec0 nd - 1))) := by
  obtain ⟨prec, hP⟩ : ∃ prec, prec = min prec0 nd - 1 := ⟨_, rfl⟩
  rw [← hP]
  have hprec : prec < 2000 := by rw [hP]; omega
  have hnd1 : 1 ≤ nd := nd_pos hdpn hp01 hu
  have HP0 := Lib.hid hP
  have HU := Lib.hid hu
  have HN0 := Lib.hid hdpn
  clear hu hdpn
  have hv := hr.val
  rw [hv]
  have hW := Went.refl hr
  clear hv hr
  go_enter Tryd.func58, Tryd.ntmps58
  go_upto_if 36 with fail
  go_cut [5, 6] (fun p f wx => p = .int .i64 (prec : Int) ∧ f = .int .u8 69 ∧ w = wx)
  case first => as_aux_lemma =>
    by_cases c1 : nd < prec0
    · have c1I : (nd : Int) < prec0 := by omega
      by_cases c2 : dp ≤ nd
      · cases sh
        · by_cases c3 : dp - 1 < -4
          · have hep : gEp false dp nd prec0 = (nd : Int) := by simp [gEp, c1, c2]
            clear hep
            go_wp2_with fail
            all_goals
              go_meet
              exact ⟨by first | rfl | (congr 1; omega), rfl, rfl⟩
          · have hep : gEp false dp nd prec0 = (nd : Int) := by simp [gEp, c1, c2]
            have c4 : (nd : Int) ≤ dp - 1 := by have := gE_yes HU.out; rw [hep] at this; omega
            clear hep
            go_wp2_with fail
            all_goals
              go_meet
              exact ⟨by first | rfl | (congr 1; omega), rfl, rfl⟩
        · by_cases c3 : dp - 1 < -4
          · have hep : gEp true dp nd prec0 = 6 := by simp [gEp]
            clear hep
            go_wp2_with fail
            all_goals
              go_meet
              exact ⟨by first | rfl | (congr 1; omega), rfl, rfl⟩
          · have hep : gEp true dp nd prec0 = 6 := by simp [gEp]
            have c4 : 6 ≤ dp - 1 := by have := gE_yes HU.out; rw [hep] at this; omega
            clear hep
            go_wp2_with fail
            all_goals
              go_meet
              exact ⟨by first | rfl | (congr 1; omega), rfl, rfl⟩
      · cases sh
        · by_cases c3 : dp - 1 < -4
          · have hep : gEp false dp nd prec0 = (prec0 : Int) := by simp [gEp, c1, c2]
            clear hep
            go_wp2_with fail
            all_goals
              go_meet
              exact ⟨by first | rfl | (congr 1; omega), rfl, rfl⟩
          · have hep : gEp false dp nd prec0 = (prec0 : Int) := by simp [gEp, c1, c2]
            have c4 : (prec0 : Int) ≤ dp - 1 := by have := gE_yes HU.out; rw [hep] at this; omega
            clear hep
            go_wp2_with fail
            all_goals
              go_meet
              exact ⟨by first | rfl | (congr 1; omega), rfl, rfl⟩
        · by_cases c3 : dp - 1 < -4
          · have hep : gEp true dp nd prec0 = 6 := by simp [gEp]
            clear hep
            go_wp2_with fail
            all_goals
              go_meet
              exact ⟨by first | rfl | (congr 1; omega), rfl, rfl⟩
          · have hep : gEp true dp nd prec0 = 6 := by simp [gEp]
            have c4 : 6 ≤ dp - 1 := by have := gE_yes HU.out; rw [hep] at this; omega
            clear hep
            go_wp2_with fail
            all_goals
              go_meet
              exact ⟨by first | rfl | (congr 1; omega), rfl, rfl⟩
    · have c1I : ¬ (nd : Int) < prec0 := by omega
      cases sh
      · by_cases c3 : dp - 1 < -4
        · have hep : gEp false dp nd prec0 = (prec0 : Int) := by simp [gEp, c1]
          clear hep
          go_wp2_with fail
          all_goals
            go_meet
            exact ⟨by first | rfl | (congr 1; omega), rfl, rfl⟩
        · have hep : gEp false dp nd prec0 = (prec0 : Int) := by simp [gEp, c1]
          have c4 : (prec0 : Int) ≤ dp - 1 := by have := gE_yes HU.out; rw [hep] at this; omega
          clear hep
          go_wp2_with fail
          all_goals
            go_meet
            exact ⟨by first | rfl | (congr 1; omega), rfl, rfl⟩
      · by_cases c3 : dp - 1 < -4
        · have hep : gEp true dp nd prec0 = 6 := by simp [gEp]
          clear hep
          go_wp2_with fail
          all_goals
            go_meet
            exact ⟨by first | rfl | (congr 1; omega), rfl, rfl⟩
        · have hep : gEp true dp nd prec0 = 6 := by simp [gEp]
          have c4 : 6 ≤ dp - 1 := by have := gE_yes HU.out; rw [hep] at this; omega
          clear hep
          go_wp2_with fail
          all_goals
            go_meet
            exact ⟨by first | rfl | (congr 1; omega), rfl, rfl⟩
  case rest =>
    obtain ⟨rfl, rfl, rfl⟩ := hcut
    clear hP hnd1
    go_upto_if 78 with fail
    go_cut [0] (fun s wx => ∃ n g1 o1 c1, s = .slice (some ⟨g1, o1, none⟩) n c1 ∧ Went w g o c olds (sgn neg) n g1 o1 c1 wx)
    case first => as_aux_lemma =>
      cases neg
      · go_wp2_with fail
        go_meet
        exact ⟨_, _, _, _, rfl, hW⟩
      · go_wp2_with (at_builtin; refine wpList_went rfl _ _ 62 62 rfl Tryd.underlying62 hW hc0 ((Still.refl _).alloc _) rfl _ [45] rfl (src_one _ 45 62 Tryd.underlying62) (by simp; omega) ?_)
        intro n0 g0 o0 c0 w0 hW0
        go_wp2_with fail
        go_meet
        exact ⟨_, _, _, _, rfl, hW0⟩
    case rest =>
      obtain ⟨n0, g0, o0, c0, rfl, hW0⟩ := hcut
      have hsl0 : (sgn neg).length ≤ 1 := by cases neg <;> simp [sgn]
      go_upto_if 83 with fail
      go_cut [19] (fun s wx => s = .int .u8 (((bs.take nd).headD 48).toNat : Int) ∧ Went w g o c olds (sgn neg) n0 g0 o0 c0 wx)
      case first => as_aux_lemma =>
        by_cases h0 : nd = 0
        · subst h0
          go_wp2_with fail
          go_meet
          exact ⟨by simp, hW0⟩
        · have hrow := hs (by omega)
          have hgl : gs < w.heap.size := hrow.lt (by have := hrow.le; omega)
          have hrow1 := hrow.went hW0 hgs hgl
          have hx0 := hrow1.at 0 (by omega)
          have hle0 := hrow.le
          obtain rfl := hrow.val
          rw [Nat.add_zero] at hx0
          have hb0 : bs[0] = (bs.take nd).headD 48 := by
            match bs, nd, h0 with
            | b :: l, k + 1, _ => rfl
            | [], k + 1, _ => simp at hnd
          rw [hb0] at hx0
          clear hb0
          have hbl : 0 < bs.length := by omega
          go_wp2_with fail
          go_meet
          exact ⟨by rw [List.headD_eq_head?_getD], hW0⟩
      case rest =>
        obtain ⟨rfl, hW0⟩ := hcut
        obtain ⟨b0, hb0⟩ : ∃ b0, b0 = (bs.take nd).headD 48 := ⟨_, rfl⟩
        obtain ⟨K0, hK0⟩ : ∃ K0, K0 = sgn neg := ⟨_, rfl⟩
        rw [← hb0]
        rw [← hK0] at hW0 hsl0
        have HB0 := Lib.hid hb0
        have HK0 := Lib.hid hK0
        clear hb0 hK0
        go_wp2_with (at_builtin; refine wpList_went rfl _ _ 62 62 rfl Tryd.underlying62 hW0 hc0 ((Still.refl _).alloc _) rfl _ [b0] rfl (src_one _ b0 62 Tryd.underlying62) (by simp; omega) ?_)
        intro n1 g1 o1 c1 w1 hW1
        go_upto_if 92 with fail
        go_cut [0] (fun s wx => ∃ n g1 o1 c1, s = .slice (some ⟨g1, o1, none⟩) n c1 ∧ Went w g o c olds (K0 ++ [b0] ++ fracE prec ((bs.take nd).drop 1)) n g1 o1 c1 wx)
        case first => as_aux_lemma =>
          by_cases hp : prec = 0
          · subst hp
            go_wp2_with fail
            go_meet
            exact ⟨_, _, _, _, rfl, by simpa [fracE] using hW1⟩
          · have hp1 : (0 : Int) < prec := by omega
            go_wp2_with (at_builtin; refine wpList_went rfl _ _ 62 62 rfl Tryd.underlying62 hW1 hc0 ((Still.refl _).alloc _) rfl _ [46] rfl (src_one _ 46 62 Tryd.underlying62) (by simp; omega) ?_)
            intro n2 g2 o2 c2 w2 hW2
            obtain ⟨m, hm⟩ : ∃ m, m = min nd (prec + 1) := ⟨_, rfl⟩
            have hmin : (if ((prec : Int) + 1) < nd then ((prec : Int) + 1) else nd) = (m : Int) := by
              rw [hm]; by_cases h : prec + 1 < nd
              · rw [if_pos (by omega)]; omega
              · rw [if_neg (by omega)]; omega
            obtain ⟨mid, hmid⟩ : ∃ mid, mid = ((bs.take nd).drop 1).take prec := ⟨_, rfl⟩
            have hml : mid.length = m - 1 := by rw [hmid, hm]; simp; omega
            have HM := Lib.hid hm
            have HMID := Lib.hid hmid
            have hm2 : m ≤ nd := by omega
            clear hm hmid
            go_upto_if 102 with fail
            go_cut [0, 20] (fun s ii wx => ∃ n g1 o1 c1, s = .slice (some ⟨g1, o1, none⟩) n c1 ∧ ii = .int .i64 ((mid.length + 1 : Nat) : Int) ∧ Went w g o c olds (K0 ++ [b0] ++ [46] ++ mid) n g1 o1 c1 wx)
            case first => as_aux_lemma =>
              by_cases h1m : 1 < m
              · have h1m' : (1 : Int) < m := by omega
                have hrow := hs (by omega)
                have hgl : gs < w.heap.size := hrow.lt (by have := hrow.le; omega)
                have hrow1 := (hrow.went hW2 hgs hgl).sub 1 m (by omega) (by omega)
                have hle0 := hrow.le
                obtain rfl := hrow.val
                have hmid2 : (bs.drop 1).take (m - 1) = mid := by
                  rw [HMID.out, List.drop_take, List.take_take, HM.out]
                  congr 1
                  omega
                rw [hmid2] at hrow1
                have hsrc := hrow1.src 62 Tryd.underlying62
                have hcs : (m : Int) ≤ cs := by omega
                go_wp2_with (at_builtin; refine wpList_went rfl _ _ 62 62 rfl Tryd.underlying62 hW2 hc0 (Still.refl _) rfl _ mid rfl hsrc (by simp; omega) ?_)
                intro n3 g3 o3 c3 w3 hW3
                go_wp2_with fail
                go_meet
                exact ⟨_, _, _, _, rfl, by rw [hml]; congr 1; omega, by simpa using hW3⟩
              · have hm1 : mid = [] := List.eq_nil_of_length_eq_zero (by omega)
                subst hm1
                have h1m' : ¬ (1 : Int) < m := by omega
                go_wp2_with fail
                go_meet
                exact ⟨_, _, _, _, rfl, rfl, by simpa using hW2⟩
            case rest =>
              obtain ⟨n3, g3, o3, c3, rfl, rfl, hW3⟩ := hcut
              obtain ⟨Z, hZ⟩ : ∃ Z, Z = prec - mid.length := ⟨_, rfl⟩
              have hml2 : mid.length ≤ prec := by have := HM.out; omega
              have hZi : (prec : Int) + 1 - ((mid.length + 1 : Nat) : Int) = (Z : Int) := by omega
              have HZ := Lib.hid hZ
              obtain ⟨ml, hmle⟩ : ∃ ml, ml = mid.length := ⟨_, rfl⟩
              have HML := Lib.hid hmle
              rw [← hmle] at hZi hml2 ⊢
              have hZ2 : Z ≤ prec := by omega
              clear hZ hml hmle
              go_wp2_with fail
              go_loopg [0, 114] Z (fun q s b wr => ∃ (n g1 o1 c1 j : Nat), s = .slice (some ⟨g1, o1, none⟩) n c1 ∧ b = .int .i64 (j : Int) ∧ j + q = Z ∧ Went w g o c olds (K0 ++ [b0] ++ [46] ++ mid ++ List.replicate j 48) n g1 o1 c1 wr)
              case atStart => exact ⟨n3, g3, o3, c3, 0, rfl, rfl, by omega, by simpa using hW3⟩
              case round => as_aux_lemma =>
                obtain ⟨n4, g4, o4, c4, jj, rfl, rfl, hjq, hW4⟩ := hrel
                have hml3 : mid.length ≤ prec := by have := HML.out; omega
                by_cases hjz : jj < Z
                · go_wp2_with (at_builtin; refine wpList_went rfl _ _ 62 62 rfl Tryd.underlying62 hW4 hc0 ((Still.refl _).alloc _) rfl _ [48] rfl (src_one _ 48 62 Tryd.underlying62) (by simp; omega) ?_)
                  intro n5 g5 o5 c5 w5 hW5
                  go_wp2_with fail
                  go_roundg (gk - 1)
                  case measure => omega
                  case rel => exact ⟨n5, g5, o5, c5, jj + 1, rfl, by congr 1, by omega, by rw [List.replicate_succ']; simpa using hW5⟩
                · obtain rfl : jj = Z := by omega
                  have hfin : K0 ++ [b0] ++ fracE prec ((bs.take nd).drop 1) = K0 ++ [b0] ++ [46] ++ mid ++ List.replicate jj 48 := by
                    rw [fracE, if_neg hp, fill, ← HMID.out]
                    have e : prec - ((bs.take nd).drop 1).length = jj := by
                      have h1 := HZ.out
                      have h2 : mid.length = min prec ((bs.take nd).drop 1).length := by rw [HMID.out, List.length_take]
                      omega
                    rw [e]
                    simp
                  rw [← hfin] at hW4
                  go_wp2_with fail
                  go_meet
                  exact ⟨_, _, _, _, rfl, hW4⟩
        case rest =>
          obtain ⟨n5, g5, o5, c5, rfl, hW5⟩ := hcut
          obtain ⟨FR, hFR⟩ : ∃ FR, FR = fracE prec ((bs.take nd).drop 1) := ⟨_, rfl⟩
          rw [← hFR] at hW5
          have hfl : FR.length ≤ prec + 1 := by rw [hFR]; exact fracE_length _ _
          have HFR := Lib.hid hFR
          clear hFR
          go_wp2_with (at_builtin; refine wpList_went rfl _ _ 62 62 rfl Tryd.underlying62 hW5 hc0 ((Still.refl _).alloc _) rfl _ [69] rfl (src_one _ 69 62 Tryd.underlying62) (by simp; omega) ?_)
          intro n6 g6 o6 c6 w6 hW6
          obtain ⟨E, hE⟩ : ∃ E : Int, E = if nd = 0 then 0 else dp - 1 := ⟨_, rfl⟩
          have hE1 : -902 < E := by rw [hE]; split <;> omega
          have hE2 : E < 902 := by rw [hE]; split <;> omega
          have HE := Lib.hid hE
          clear hE
          go_upto_if 127 with fail
          go_cut [22] (fun e wx => e = .int .i64 E ∧ w6 = wx)
          case first => as_aux_lemma =>
            by_cases h0 : nd = 0
            · have hEE : E = 0 := by rw [HE.out, if_pos h0]
              subst hEE
              have h0' : ((nd : Int) == 0) = true := by simp; omega
              go_wp2_with fail
              go_meet
              exact ⟨rfl, rfl⟩
            · have hEE : dp - 1 = E := by rw [HE.out, if_neg h0]
              have h0' : ((nd : Int) == 0) = false := by simp; omega
              go_wp2_with fail
              go_meet
              exact ⟨by rw [hEE], rfl⟩
          case rest =>
            obtain ⟨rfl, rfl⟩ := hcut
            go_upto_if 129 with fail
            go_cut [19, 22] (fun sg e wx => sg = .int .u8 ((if E < 0 then (45 : UInt8) else 43).toNat : Int) ∧ e = .int .i64 (E.natAbs : Int) ∧ w6 = wx)
            case first => as_aux_lemma =>
              by_cases hE0 : E < 0
              · have hneg : IntKind.i64.wrap (-E) = (E.natAbs : Int) := by rw [IntKind.wrap_i64]; omega
                go_wp2_with fail
                go_meet
                exact ⟨by rw [if_pos hE0]; rfl, by go_num, rfl⟩
              · have hE0' : 0 ≤ E := by omega
                go_wp2_with fail
                go_meet
                exact ⟨by rw [if_neg (by omega)]; rfl, by go_num, rfl⟩
            case rest =>
              obtain ⟨rfl, rfl, rfl⟩ := hcut
              obtain ⟨SG, hSG⟩ : ∃ SG : UInt8, SG = if E < 0 then (45 : UInt8) else 43 := ⟨_, rfl⟩
              obtain ⟨A, hA⟩ : ∃ A, A = E.natAbs := ⟨_, rfl⟩
              have hA1 : A < 1000 := by omega
              rw [← hSG, ← hA]
              have HSG := Lib.hid hSG
              have HA := Lib.hid hA
              clear hSG hA
              go_wp2_with (at_builtin; refine wpList_went rfl _ _ 62 62 rfl Tryd.underlying62 hW6 hc0 ((Still.refl _).alloc _) rfl _ [SG] rfl (src_one _ SG 62 Tryd.underlying62) (by simp; omega) ?_)
              intro n7 g7 o7 c7 w7 hW7
              have hfin : sgn neg ++ [(bs.take nd).headD 48] ++ fracE prec ((bs.take nd).drop 1) ++ [69] = K0 ++ [b0] ++ FR ++ [69] := by rw [← HB0.out, ← HK0.out, ← HFR.out]
              have htl : (bs.take nd).length = nd := by rw [List.length_take]; omega
              have htx : eText neg 69 (bs.take nd) dp prec = K0 ++ [b0] ++ FR ++ [69] ++ (SG :: (if A < 10 then [48, dch A] else if A < 100 then [dch (A / 10), dch (A % 10)] else [dch (A / 100), dch (A / 10 % 10), dch (A % 10)])) := by
                rw [eText, hfin, htl, ← HE.out, expE, ← HSG.out, ← HA.out]
              have HTX := Lib.hid htx
              clear htx hfin htl
              by_cases hA10 : A < 10
              · have hAi : (A : Int) < 10 := by omega
                go_wp2_with (at_builtin; refine wpList_went rfl _ _ 62 62 rfl Tryd.underlying62 hW7 hc0 ((Still.refl _).alloc _) rfl _ [48, dch A] rfl (src_two _ _ _ 48 (dch A) rfl (dch_eq _ _ (by omega) (by omega)) 62 Tryd.underlying62) (by simp; omega) ?_)
                intro n8 g8 o8 c8 w8 hW8
                have hres := hW8.res
                have HF := Lib.hid hres
                clear hres hW8
                go_wp2_with fail
                go_ret
                rw [HTX.out, if_pos (by omega)]
                simpa using HF.out
              · by_cases hA100 : A < 100
                · have hAi : (A : Int) < 100 := by omega
                  have hAj : (10 : Int) ≤ A := by omega
                  go_wp2_with (at_builtin; refine wpList_went rfl _ _ 62 62 rfl Tryd.underlying62 hW7 hc0 ((Still.refl _).alloc _) rfl _ [dch (A / 10), dch (A % 10)] rfl (src_two _ _ _ (dch (A / 10)) (dch (A % 10)) (dch_eq _ _ (by omega) (by omega)) (dch_eq _ _ (by omega) (by omega)) 62 Tryd.underlying62) (by simp; omega) ?_)
                  intro n8 g8 o8 c8 w8 hW8
                  have hres := hW8.res
                  have HF := Lib.hid hres
                  clear hres hW8
                  go_wp2_with fail
                  go_ret
                  rw [HTX.out, if_neg (by omega), if_pos (by omega)]
                  simpa using HF.out
                · have hAi : (100 : Int) ≤ A := by omega
                  go_wp2_with (at_builtin; refine wpList_went rfl _ _ 62 62 rfl Tryd.underlying62 hW7 hc0 ((Still.refl _).alloc _) rfl _ [dch (A / 100), dch (A / 10 % 10), dch (A % 10)] rfl (src_three _ _ _ _ (dch (A / 100)) (dch (A / 10 % 10)) (dch (A % 10)) (dch_eq _ _ (by omega) (by omega)) (dch_eq _ _ (by omega) (by omega)) (dch_eq _ _ (by omega) (by omega)) 62 Tryd.underlying62) (by simp; omega) ?_)
                  intro n8 g8 o8 c8 w8 hW8
                  have hres := hW8.res
                  have HF := Lib.hid hres
                  clear hres hW8
                  go_wp2_with fail
                  go_ret
                  rw [HTX.out, if_neg (by omega), if_neg (by omega)]
                  simpa using HF.out

end Go.Proofs.YthfjpofbaeeafaaDoor
