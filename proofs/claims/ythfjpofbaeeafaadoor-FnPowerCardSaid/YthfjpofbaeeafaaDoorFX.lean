/-
  fmtX without a precision: digits in base 16 and a power of two.
-/
import Derived.Test.YthfjpofbaeeafaaDoorFXL
import Derived.LoopTactic
import Derived.Deep.LoopGhost
import Derived.Deep.DeepCutAuto
namespace Go.Proofs.YthfjpofbaeeafaaDoor
open Go.RowKit

set_option maxRecDepth 100000 in
set_option maxHeartbeats 1000000 in
theorem fmtX_lo (neg : Bool) (mant mb k : Nat) (exp : Int) (hmb : mb ≤ 52) (hm0 : 0 < mant) (hk1 : P60 ≤ mant * 2 ^ (60 - mb) * 2 ^ k) (hk2 : mant * 2 ^ (60 - mb) * 2 ^ k < 2 * P60) (h0 : -2000 < exp) (h1 : exp < 2000) (v : Value) (olds : List UInt8) (g o c : Nat) (w : World) (hr : Row w v olds g o c) (hc0 : 0 < c) (hl : olds.length + 100 ≤ 1000000)
    :
    Calls Tryd.prog 57 #[v, .int .i64 (-1), .int .u8 (if false then 88 else 120), .bool neg, .int .u64 mant, .int .i64 exp, .int .i64 mb] w (AppRes w g o c olds (fmtXText false neg 1 (mant * 2 ^ (60 - mb) * 2 ^ k * 16 % 2 ^ 64) (exp - k))) := by
  have hv := hr.val
  rw [hv]
  have hW := Went.refl hr
  have hm : (0 : Int) < mant := by omega
  obtain ⟨M, hM⟩ : ∃ M, M = mant * 2 ^ (60 - mb) := ⟨_, rfl⟩
  rw [← hM] at hk1 hk2 ⊢
  have hMp : 0 < M := by rw [hM]; exact Nat.mul_pos hm0 (Nat.two_pow_pos _)
  have hshl : IntKind.u64.wrap ((mant : Int) * 2 ^ (60 - mb)) = (M : Int) := shlM hM hk2
  have HMP := Lib.hid hMp
  have HM := Lib.hid hM
  have HK1 := Lib.hid hk1
  have HK2 := Lib.hid hk2
  clear hv hr hM hk1 hk2 hMp
  · go_enter Tryd.func57, Tryd.ntmps57
    go_wp2_with fail
    go_loop [4, 5] (fun a b => ∃ x j : Nat, Hid (x = M * 2 ^ j) ∧ j ≤ k ∧ a = .int .u64 (x : Int) ∧ b = .int .i64 (exp - j)) (fun _ b => (k - (exp - intOf b)).toNat)
    case atStart => exact ⟨M, 0, by show M = M * 2 ^ 0; omega, Nat.zero_le _, rfl, by go_num⟩
    case round =>
      obtain ⟨x, j, hx, hj, rfl, rfl⟩ := hrel
      by_cases hjk : j < k
      · have hlt : x < P60 := xlt hx.out HK2.out hjk
        have hpos : 0 < x := by rw [hx.out]; exact Nat.mul_pos HMP.out (Nat.two_pow_pos j)
        have hand := and60 x (by omega)
        rw [if_pos hlt] at hand
        have hxw : IntKind.u64.wrap ((x : Int) * 2) = ((x * 2 : Nat) : Int) := by rw [IntKind.wrap_u64]; unfold P60 at hlt; omega
        have hkb : k ≤ 60 := k60 HMP.out HK2.out
        go_wp2_with fail
        all_goals
          refine ⟨⟨x * 2, j + 1, ?_, by omega, by go_num, by go_num⟩, ?_⟩
          · show x * 2 = M * 2 ^ (j + 1)
            rw [hx.out, Nat.pow_succ, Nat.mul_assoc]
          · simp [intOf]; omega
      · obtain rfl : j = k := by omega
        have hge : P60 ≤ x := by rw [hx.out]; exact HK1.out
        have hlt2 : x < 2 * P60 := by rw [hx.out]; exact HK2.out
        have hand := and60 x hlt2
        rw [if_neg (by omega)] at hand
        have hpos : 0 < x := by unfold P60 at hge; omega
        have hs60 : bits .and .u64 ((x : Int) / 1152921504606846976) 1 = 1 := by rw [show (x : Int) / 1152921504606846976 = 1 by unfold P60 at hge hlt2; omega]; decide
        have hsl : IntKind.u64.wrap ((x : Int) * 16) = ((x * 16 % 2 ^ 64 : Nat) : Int) := by rw [IntKind.wrap_u64]; omega
        obtain ⟨T, hT⟩ : ∃ T, T = x * 16 % 2 ^ 64 := ⟨_, rfl⟩
        rw [← hT] at hsl
        have HT := Lib.hid hT
        have hkb : j ≤ 60 := k60 HMP.out HK2.out
        clear hT
        go_upto_if 74 with fail
        go_cut [0] (fun s wx => ∃ n g1 o1 c1, s = .slice (some ⟨g1, o1, none⟩) n c1 ∧ Went w g o c olds (sgn neg) n g1 o1 c1 wx)
        case first =>
          cases neg
          · go_wp2_with fail
            go_meet
            exact ⟨_, _, _, _, rfl, hW⟩
          · go_wp2_with (at_builtin; refine wpList_went rfl _ _ 62 62 rfl Tryd.underlying62 hW hc0 ((Still.refl _).alloc _) rfl _ [45] rfl (src_one _ 45 62 Tryd.underlying62) (by simp; omega) ?_)
            intro n0 g0 o0 c0 w0 hW0
            go_wp2_with fail
            go_meet
            exact ⟨_, _, _, _, rfl, hW0⟩
        case rest =>
          obtain ⟨n0, g0, o0, c0, rfl, hW0⟩ := hcut
          have hsl0 : (sgn neg).length ≤ 1 := by cases neg <;> simp [sgn]
          go_wp2_with (at_builtin; refine wpList_went rfl _ _ 62 62 rfl Tryd.underlying62 hW0 hc0 ((Still.refl _).alloc _) rfl _ [48, 120, 49] rfl (src_three _ 48 120 49 48 120 49 rfl rfl rfl 62 Tryd.underlying62) (by simp; omega) ?_)
          intro n1 g1 o1 c1 w1 hW1
          obtain ⟨K1, hK1⟩ : ∃ K1, K1 = sgn neg ++ [48, 120, 49] := ⟨_, rfl⟩
          rw [← hK1] at hW1
          have hl1 : K1.length ≤ 4 := by rw [hK1]; simp; omega
          have HK1' := Lib.hid hK1
          clear hK1
          go_upto_if 94 with fail
          go_cut [0] (fun s wx => ∃ n g1 o1 c1, s = .slice (some ⟨g1, o1, none⟩) n c1 ∧ Went w g o c olds (K1 ++ fracX false T) n g1 o1 c1 wx)
          case first =>
            by_cases hT0 : T = 0
            · subst hT0
              go_wp2_with fail
              go_meet
              exact ⟨_, _, _, _, rfl, by simpa [fracX] using hW1⟩
            · have hT1 : 0 < T := by omega
              have hTx : ((T : Int) != 0) = true := by simp; omega
              go_wp2_with (at_builtin; refine wpList_went rfl _ _ 62 62 rfl Tryd.underlying62 hW1 hc0 ((Still.refl _).alloc _) rfl _ [46] rfl (src_one _ 46 62 Tryd.underlying62) (by simp; omega) ?_)
              intro n2 g2 o2 c2 w2 hW2
              go_wp2_with fail
              go_loopg [0, 4] 16 (fun q s b wr => ∃ (t n g1 o1 c1 : Nat) (ks : List UInt8), s = .slice (some ⟨g1, o1, none⟩) n c1 ∧ b = .int .u64 (t : Int) ∧ Went w g o c olds (K1 ++ ([46] ++ ks)) n g1 o1 c1 wr ∧ ks.length + q = 16 ∧ HexInv false T q t ks)
              case atStart => exact ⟨T, n2, g2, o2, c2, [], rfl, rfl, by simpa using hW2, rfl, rfl, by have := HT.out; omega, by simp [Nat.mod_one]⟩
              case round =>
                obtain ⟨t, n3, g3, o3, c3, ks, rfl, rfl, hW3, hkq, hinv⟩ := hrel
                by_cases ht0 : t = 0
                · subst ht0
                  have hks : Hid (ks = hexTail false 16 T) := by
                    have h1 := hinv.1
                    rw [hexTail_zero, List.append_nil] at h1
                    exact h1
                  clear hinv
                  go_wp2_with fail
                  go_meet
                  exact ⟨_, _, _, _, rfl, by rw [fracX, if_neg hT0, ← hks.out]; simpa using hW3⟩
                · have ht1 : 0 < t := by omega
                  have htx : ((t : Int) != 0) = true := by simp; omega
                  have hdx : bits .and .u64 ((t : Int) / 1152921504606846976) 15 = ((t / P60 : Nat) : Int) := and15 t hinv.2.1
                  have hidx : ∀ W, (Instr.index 9 (.string ⟨#[48, 49, 50, 51, 52, 53, 54, 55, 56, 57, 97, 98, 99, 100, 101, 102]⟩) (.int .u64 ((t / P60 : Nat) : Int))).run Tryd.prog W = .ok (.int .u8 ((hexd false (t / P60)).toNat : Int)) W := hexIdx_false (t / P60) (by have := hinv.2.1; unfold P60; omega)
                  have hslt : IntKind.u64.wrap ((t : Int) * 16) = ((t * 16 % 2 ^ 64 : Nat) : Int) := by rw [IntKind.wrap_u64]; omega
                  obtain ⟨D, hD⟩ : ∃ D, D = t / P60 := ⟨_, rfl⟩
                  obtain ⟨t2, ht2⟩ : ∃ t2, t2 = t * 16 % 2 ^ 64 := ⟨_, rfl⟩
                  rw [← hD] at hdx hidx
                  rw [← ht2] at hslt
                  have HD := Lib.hid hD
                  have HINV := Lib.hid hinv
                  clear hinv
                  have HT2 := Lib.hid ht2
                  clear hD ht2
                  go_wp2_with (at_builtin; refine wpList_went rfl _ _ 62 62 rfl Tryd.underlying62 hW3 hc0 ((Still.refl _).alloc _) rfl _ [hexd false D] rfl (src_one _ (hexd false D) 62 Tryd.underlying62) (by simp; omega) ?_)
                  intro n4 g4 o4 c4 w4 hW4
                  go_wp2_with fail
                  go_roundg (gk - 1)
                  case measure => have := hexInv_pos HINV.out ht0; omega
                  case rel =>
                    have hp := hexInv_pos HINV.out ht0
                    exact ⟨t2, n4, g4, o4, c4, ks ++ [hexd false D], rfl, rfl, by simpa using hW4, by simp; omega, by rw [HT2.out, HD.out]; exact hexInv_step HINV.out (by omega) ht0⟩
          case rest =>
            obtain ⟨n5, g5, o5, c5, rfl, hW5⟩ := hcut
            have hlow := Tryd.internal_strconv_lower 120
            have hfr : (fracX false T).length ≤ 17 := fracX_length false T
            obtain ⟨E, hE⟩ : ∃ E : Int, E = exp - j := ⟨_, rfl⟩
            have hE1 : -3000 < E := by omega
            have hE2 : E < 3000 := by omega
            rw [← hE]
            obtain ⟨K5, hK5⟩ : ∃ K5, K5 = K1 ++ fracX false T := ⟨_, rfl⟩
            rw [← hK5] at hW5
            have hl5 : K5.length ≤ 30 := by rw [hK5]; simp; omega
            have HK5 := Lib.hid hK5
            have HE := Lib.hid hE
            clear hK5 hE hW1
            go_wp2_with (first | (go_at_call 71; refine (hlow _).mono ?_; rintro e w' ⟨rfl, rfl⟩) | (at_builtin; refine wpList_went rfl _ _ 62 62 rfl Tryd.underlying62 hW5 hc0 ((Still.refl _).alloc _) rfl _ [112] rfl (src_one _ 112 62 Tryd.underlying62) (by simp; omega) ?_))
            intro n6 g6 o6 c6 w6 hW6
            obtain ⟨A, hA⟩ : ∃ A, A = E.natAbs := ⟨_, rfl⟩
            go_upto_if 139 with fail
            go_cut [5, 19] (fun e ch wx => e = .int .i64 (A : Int) ∧ ch = .int .u8 ((if E < 0 then (45 : UInt8) else 43).toNat : Int) ∧ w6 = wx)
            case first =>
              by_cases hEn : E < 0
              · have hneg : IntKind.i64.wrap (-E) = (A : Int) := by rw [IntKind.wrap_i64]; omega
                go_wp2_with fail
                go_meet
                exact ⟨by go_num, by rw [if_pos hEn]; rfl, rfl⟩
              · have hEp : 0 ≤ E := by omega
                go_wp2_with fail
                go_meet
                exact ⟨by go_num, by rw [if_neg (by omega)]; rfl, rfl⟩
            case rest =>
              obtain ⟨rfl, rfl, rfl⟩ := hcut
              have hA3 : A < 3000 := by omega
              obtain ⟨sg, hsg⟩ : ∃ sg : UInt8, sg = if E < 0 then (45 : UInt8) else 43 := ⟨_, rfl⟩
              rw [← hsg]
              have HSG := Lib.hid hsg
              have HA := Lib.hid hA
              clear hsg hA
              go_wp2_with (at_builtin; refine wpList_went rfl _ _ 62 62 rfl Tryd.underlying62 hW6 hc0 ((Still.refl _).alloc _) rfl _ [sg] rfl (src_one _ sg 62 Tryd.underlying62) (by simp; omega) ?_)
              intro n7 g7 o7 c7 w7 hW7
              by_cases hA1 : A < 100
              · have hAi : (A : Int) < 100 := by omega
                go_wp2_with (at_builtin; refine wpList_went rfl _ _ 62 62 rfl Tryd.underlying62 hW7 hc0 ((Still.refl _).alloc _) rfl _ [dch (A / 10), dch (A % 10)] rfl (src_two _ _ _ (dch (A / 10)) (dch (A % 10)) (dch_eq _ _ (by omega) (by omega)) (dch_eq _ _ (by omega) (by omega)) 62 Tryd.underlying62) (by simp; omega) ?_)
                intro n8 g8 o8 c8 w8 hW8
                have hfin := hW8.res
                have htext : K5 ++ (112 :: sg :: [dch (A / 10), dch (A % 10)]) = fmtXText false neg 1 T E := by
                  rw [HK5.out, HK1'.out, HSG.out]
                  simp [fmtXText, expX, ← HA.out, hA1, dch]
                rw [show _ = _ from htext] at hfin
                have HF := Lib.hid hfin
                clear hfin hW8 htext
                go_wp2_with fail
                go_ret
                rw [← hx.out, ← HT.out, ← HE.out]
                exact HF.out
              · by_cases hA2 : A < 1000
                · have hAi : (100 : Int) ≤ A := by omega
                  have hAj : (A : Int) < 1000 := by omega
                  go_wp2_with (at_builtin; refine wpList_went rfl _ _ 62 62 rfl Tryd.underlying62 hW7 hc0 ((Still.refl _).alloc _) rfl _ [dch (A / 100), dch (A / 10 % 10), dch (A % 10)] rfl (src_three _ _ _ _ (dch (A / 100)) (dch (A / 10 % 10)) (dch (A % 10)) (dch_eq _ _ (by omega) (by omega)) (dch_eq _ _ (by omega) (by omega)) (dch_eq _ _ (by omega) (by omega)) 62 Tryd.underlying62) (by simp; omega) ?_)
                  intro n8 g8 o8 c8 w8 hW8
                  have hfin := hW8.res
                  have htext : K5 ++ (112 :: sg :: [dch (A / 100), dch (A / 10 % 10), dch (A % 10)]) = fmtXText false neg 1 T E := by
                    rw [HK5.out, HK1'.out, HSG.out]
                    simp [fmtXText, expX, ← HA.out, hA1, hA2, dch]
                  rw [show _ = _ from htext] at hfin
                  have HF := Lib.hid hfin
                  clear hfin hW8 htext
                  go_wp2_with fail
                  go_ret
                  rw [← hx.out, ← HT.out, ← HE.out]
                  exact HF.out
                · have hAi : (1000 : Int) ≤ A := by omega
                  go_wp2_with (at_builtin; refine wpList_went rfl _ _ 62 62 rfl Tryd.underlying62 hW7 hc0 ((Still.refl _).alloc _) rfl _ [dch (A / 1000), dch (A / 100 % 10), dch (A / 10 % 10), dch (A % 10)] rfl (src_four _ _ _ _ _ (dch (A / 1000)) (dch (A / 100 % 10)) (dch (A / 10 % 10)) (dch (A % 10)) (dch_eq _ _ (by omega) (by omega)) (dch_eq _ _ (by omega) (by omega)) (dch_eq _ _ (by omega) (by omega)) (dch_eq _ _ (by omega) (by omega)) 62 Tryd.underlying62) (by simp; omega) ?_)
                  intro n8 g8 o8 c8 w8 hW8
                  have hfin := hW8.res
                  have htext : K5 ++ (112 :: sg :: [dch (A / 1000), dch (A / 100 % 10), dch (A / 10 % 10), dch (A % 10)]) = fmtXText false neg 1 T E := by
                    rw [HK5.out, HK1'.out, HSG.out]
                    simp [fmtXText, expX, ← HA.out, hA1, hA2, dch]
                  rw [show _ = _ from htext] at hfin
                  have HF := Lib.hid hfin
                  clear hfin hW8 htext
                  go_wp2_with fail
                  go_ret
                  rw [← hx.out, ← HT.out, ← HE.out]
                  exact HF.out

set_option maxRecDepth 100000 in
set_option maxHeartbeats 1000000 in
theorem fmtX_up (neg : Bool) (mant mb k : Nat) (exp : Int) (hmb : mb ≤ 52) (hm0 : 0 < mant) (hk1 : P60 ≤ mant * 2 ^ (60 - mb) * 2 ^ k) (hk2 : mant * 2 ^ (60 - mb) * 2 ^ k < 2 * P60) (h0 : -2000 < exp) (h1 : exp < 2000) (v : Value) (olds : List UInt8) (g o c : Nat) (w : World) (hr : Row w v olds g o c) (hc0 : 0 < c) (hl : olds.length + 100 ≤ 1000000)
    :
    Calls Tryd.prog 57 #[v, .int .i64 (-1), .int .u8 (if true then 88 else 120), .bool neg, .int .u64 mant, .int .i64 exp, .int .i64 mb] w (AppRes w g o c olds (fmtXText true neg 1 (mant * 2 ^ (60 - mb) * 2 ^ k * 16 % 2 ^ 64) (exp - k))) := by
  have hv := hr.val
  rw [hv]
  have hW := Went.refl hr
  have hm : (0 : Int) < mant := by omega
  obtain ⟨M, hM⟩ : ∃ M, M = mant * 2 ^ (60 - mb) := ⟨_, rfl⟩
  rw [← hM] at hk1 hk2 ⊢
  have hMp : 0 < M := by rw [hM]; exact Nat.mul_pos hm0 (Nat.two_pow_pos _)
  have hshl : IntKind.u64.wrap ((mant : Int) * 2 ^ (60 - mb)) = (M : Int) := shlM hM hk2
  have HMP := Lib.hid hMp
  have HM := Lib.hid hM
  have HK1 := Lib.hid hk1
  have HK2 := Lib.hid hk2
  clear hv hr hM hk1 hk2 hMp
  · go_enter Tryd.func57, Tryd.ntmps57
    go_wp2_with fail
    go_loop [4, 5] (fun a b => ∃ x j : Nat, Hid (x = M * 2 ^ j) ∧ j ≤ k ∧ a = .int .u64 (x : Int) ∧ b = .int .i64 (exp - j)) (fun _ b => (k - (exp - intOf b)).toNat)
    case atStart => exact ⟨M, 0, by show M = M * 2 ^ 0; omega, Nat.zero_le _, rfl, by go_num⟩
    case round =>
      obtain ⟨x, j, hx, hj, rfl, rfl⟩ := hrel
      by_cases hjk : j < k
      · have hlt : x < P60 := xlt hx.out HK2.out hjk
        have hpos : 0 < x := by rw [hx.out]; exact Nat.mul_pos HMP.out (Nat.two_pow_pos j)
        have hand := and60 x (by omega)
        rw [if_pos hlt] at hand
        have hxw : IntKind.u64.wrap ((x : Int) * 2) = ((x * 2 : Nat) : Int) := by rw [IntKind.wrap_u64]; unfold P60 at hlt; omega
        have hkb : k ≤ 60 := k60 HMP.out HK2.out
        go_wp2_with fail
        all_goals
          refine ⟨⟨x * 2, j + 1, ?_, by omega, by go_num, by go_num⟩, ?_⟩
          · show x * 2 = M * 2 ^ (j + 1)
            rw [hx.out, Nat.pow_succ, Nat.mul_assoc]
          · simp [intOf]; omega
      · obtain rfl : j = k := by omega
        have hge : P60 ≤ x := by rw [hx.out]; exact HK1.out
        have hlt2 : x < 2 * P60 := by rw [hx.out]; exact HK2.out
        have hand := and60 x hlt2
        rw [if_neg (by omega)] at hand
        have hpos : 0 < x := by unfold P60 at hge; omega
        have hs60 : bits .and .u64 ((x : Int) / 1152921504606846976) 1 = 1 := by rw [show (x : Int) / 1152921504606846976 = 1 by unfold P60 at hge hlt2; omega]; decide
        have hsl : IntKind.u64.wrap ((x : Int) * 16) = ((x * 16 % 2 ^ 64 : Nat) : Int) := by rw [IntKind.wrap_u64]; omega
        obtain ⟨T, hT⟩ : ∃ T, T = x * 16 % 2 ^ 64 := ⟨_, rfl⟩
        rw [← hT] at hsl
        have HT := Lib.hid hT
        have hkb : j ≤ 60 := k60 HMP.out HK2.out
        clear hT
        go_upto_if 74 with fail
        go_cut [0] (fun s wx => ∃ n g1 o1 c1, s = .slice (some ⟨g1, o1, none⟩) n c1 ∧ Went w g o c olds (sgn neg) n g1 o1 c1 wx)
        case first =>
          cases neg
          · go_wp2_with fail
            go_meet
            exact ⟨_, _, _, _, rfl, hW⟩
          · go_wp2_with (at_builtin; refine wpList_went rfl _ _ 62 62 rfl Tryd.underlying62 hW hc0 ((Still.refl _).alloc _) rfl _ [45] rfl (src_one _ 45 62 Tryd.underlying62) (by simp; omega) ?_)
            intro n0 g0 o0 c0 w0 hW0
            go_wp2_with fail
            go_meet
            exact ⟨_, _, _, _, rfl, hW0⟩
        case rest =>
          obtain ⟨n0, g0, o0, c0, rfl, hW0⟩ := hcut
          have hsl0 : (sgn neg).length ≤ 1 := by cases neg <;> simp [sgn]
          go_wp2_with (at_builtin; refine wpList_went rfl _ _ 62 62 rfl Tryd.underlying62 hW0 hc0 ((Still.refl _).alloc _) rfl _ [48, 88, 49] rfl (src_three _ 48 88 49 48 88 49 rfl rfl rfl 62 Tryd.underlying62) (by simp; omega) ?_)
          intro n1 g1 o1 c1 w1 hW1
          obtain ⟨K1, hK1⟩ : ∃ K1, K1 = sgn neg ++ [48, 88, 49] := ⟨_, rfl⟩
          rw [← hK1] at hW1
          have hl1 : K1.length ≤ 4 := by rw [hK1]; simp; omega
          have HK1' := Lib.hid hK1
          clear hK1
          go_upto_if 94 with fail
          go_cut [0] (fun s wx => ∃ n g1 o1 c1, s = .slice (some ⟨g1, o1, none⟩) n c1 ∧ Went w g o c olds (K1 ++ fracX true T) n g1 o1 c1 wx)
          case first =>
            by_cases hT0 : T = 0
            · subst hT0
              go_wp2_with fail
              go_meet
              exact ⟨_, _, _, _, rfl, by simpa [fracX] using hW1⟩
            · have hT1 : 0 < T := by omega
              have hTx : ((T : Int) != 0) = true := by simp; omega
              go_wp2_with (at_builtin; refine wpList_went rfl _ _ 62 62 rfl Tryd.underlying62 hW1 hc0 ((Still.refl _).alloc _) rfl _ [46] rfl (src_one _ 46 62 Tryd.underlying62) (by simp; omega) ?_)
              intro n2 g2 o2 c2 w2 hW2
              go_wp2_with fail
              go_loopg [0, 4] 16 (fun q s b wr => ∃ (t n g1 o1 c1 : Nat) (ks : List UInt8), s = .slice (some ⟨g1, o1, none⟩) n c1 ∧ b = .int .u64 (t : Int) ∧ Went w g o c olds (K1 ++ ([46] ++ ks)) n g1 o1 c1 wr ∧ ks.length + q = 16 ∧ HexInv true T q t ks)
              case atStart => exact ⟨T, n2, g2, o2, c2, [], rfl, rfl, by simpa using hW2, rfl, rfl, by have := HT.out; omega, by simp [Nat.mod_one]⟩
              case round =>
                obtain ⟨t, n3, g3, o3, c3, ks, rfl, rfl, hW3, hkq, hinv⟩ := hrel
                by_cases ht0 : t = 0
                · subst ht0
                  have hks : Hid (ks = hexTail true 16 T) := by
                    have h1 := hinv.1
                    rw [hexTail_zero, List.append_nil] at h1
                    exact h1
                  clear hinv
                  go_wp2_with fail
                  go_meet
                  exact ⟨_, _, _, _, rfl, by rw [fracX, if_neg hT0, ← hks.out]; simpa using hW3⟩
                · have ht1 : 0 < t := by omega
                  have htx : ((t : Int) != 0) = true := by simp; omega
                  have hdx : bits .and .u64 ((t : Int) / 1152921504606846976) 15 = ((t / P60 : Nat) : Int) := and15 t hinv.2.1
                  have hidx : ∀ W, (Instr.index 9 (.string ⟨#[48, 49, 50, 51, 52, 53, 54, 55, 56, 57, 65, 66, 67, 68, 69, 70]⟩) (.int .u64 ((t / P60 : Nat) : Int))).run Tryd.prog W = .ok (.int .u8 ((hexd true (t / P60)).toNat : Int)) W := hexIdx_true (t / P60) (by have := hinv.2.1; unfold P60; omega)
                  have hslt : IntKind.u64.wrap ((t : Int) * 16) = ((t * 16 % 2 ^ 64 : Nat) : Int) := by rw [IntKind.wrap_u64]; omega
                  obtain ⟨D, hD⟩ : ∃ D, D = t / P60 := ⟨_, rfl⟩
                  obtain ⟨t2, ht2⟩ : ∃ t2, t2 = t * 16 % 2 ^ 64 := ⟨_, rfl⟩
                  rw [← hD] at hdx hidx
                  rw [← ht2] at hslt
                  have HD := Lib.hid hD
                  have HINV := Lib.hid hinv
                  clear hinv
                  have HT2 := Lib.hid ht2
                  clear hD ht2
                  go_wp2_with (at_builtin; refine wpList_went rfl _ _ 62 62 rfl Tryd.underlying62 hW3 hc0 ((Still.refl _).alloc _) rfl _ [hexd true D] rfl (src_one _ (hexd true D) 62 Tryd.underlying62) (by simp; omega) ?_)
                  intro n4 g4 o4 c4 w4 hW4
                  go_wp2_with fail
                  go_roundg (gk - 1)
                  case measure => have := hexInv_pos HINV.out ht0; omega
                  case rel =>
                    have hp := hexInv_pos HINV.out ht0
                    exact ⟨t2, n4, g4, o4, c4, ks ++ [hexd true D], rfl, rfl, by simpa using hW4, by simp; omega, by rw [HT2.out, HD.out]; exact hexInv_step HINV.out (by omega) ht0⟩
          case rest =>
            obtain ⟨n5, g5, o5, c5, rfl, hW5⟩ := hcut
            have hlow := Tryd.internal_strconv_lower 88
            have hfr : (fracX true T).length ≤ 17 := fracX_length true T
            obtain ⟨E, hE⟩ : ∃ E : Int, E = exp - j := ⟨_, rfl⟩
            have hE1 : -3000 < E := by omega
            have hE2 : E < 3000 := by omega
            rw [← hE]
            obtain ⟨K5, hK5⟩ : ∃ K5, K5 = K1 ++ fracX true T := ⟨_, rfl⟩
            rw [← hK5] at hW5
            have hl5 : K5.length ≤ 30 := by rw [hK5]; simp; omega
            have HK5 := Lib.hid hK5
            have HE := Lib.hid hE
            clear hK5 hE hW1
            go_wp2_with (first | (go_at_call 71; refine (hlow _).mono ?_; rintro e w' ⟨rfl, rfl⟩) | (at_builtin; refine wpList_went rfl _ _ 62 62 rfl Tryd.underlying62 hW5 hc0 ((Still.refl _).alloc _) rfl _ [80] rfl (src_one _ 80 62 Tryd.underlying62) (by simp; omega) ?_))
            intro n6 g6 o6 c6 w6 hW6
            obtain ⟨A, hA⟩ : ∃ A, A = E.natAbs := ⟨_, rfl⟩
            go_upto_if 139 with fail
            go_cut [5, 19] (fun e ch wx => e = .int .i64 (A : Int) ∧ ch = .int .u8 ((if E < 0 then (45 : UInt8) else 43).toNat : Int) ∧ w6 = wx)
            case first =>
              by_cases hEn : E < 0
              · have hneg : IntKind.i64.wrap (-E) = (A : Int) := by rw [IntKind.wrap_i64]; omega
                go_wp2_with fail
                go_meet
                exact ⟨by go_num, by rw [if_pos hEn]; rfl, rfl⟩
              · have hEp : 0 ≤ E := by omega
                go_wp2_with fail
                go_meet
                exact ⟨by go_num, by rw [if_neg (by omega)]; rfl, rfl⟩
            case rest =>
              obtain ⟨rfl, rfl, rfl⟩ := hcut
              have hA3 : A < 3000 := by omega
              obtain ⟨sg, hsg⟩ : ∃ sg : UInt8, sg = if E < 0 then (45 : UInt8) else 43 := ⟨_, rfl⟩
              rw [← hsg]
              have HSG := Lib.hid hsg
              have HA := Lib.hid hA
              clear hsg hA
              go_wp2_with (at_builtin; refine wpList_went rfl _ _ 62 62 rfl Tryd.underlying62 hW6 hc0 ((Still.refl _).alloc _) rfl _ [sg] rfl (src_one _ sg 62 Tryd.underlying62) (by simp; omega) ?_)
              intro n7 g7 o7 c7 w7 hW7
              by_cases hA1 : A < 100
              · have hAi : (A : Int) < 100 := by omega
                go_wp2_with (at_builtin; refine wpList_went rfl _ _ 62 62 rfl Tryd.underlying62 hW7 hc0 ((Still.refl _).alloc _) rfl _ [dch (A / 10), dch (A % 10)] rfl (src_two _ _ _ (dch (A / 10)) (dch (A % 10)) (dch_eq _ _ (by omega) (by omega)) (dch_eq _ _ (by omega) (by omega)) 62 Tryd.underlying62) (by simp; omega) ?_)
                intro n8 g8 o8 c8 w8 hW8
                have hfin := hW8.res
                have htext : K5 ++ (80 :: sg :: [dch (A / 10), dch (A % 10)]) = fmtXText true neg 1 T E := by
                  rw [HK5.out, HK1'.out, HSG.out]
                  simp [fmtXText, expX, ← HA.out, hA1, dch]
                rw [show _ = _ from htext] at hfin
                have HF := Lib.hid hfin
                clear hfin hW8 htext
                go_wp2_with fail
                go_ret
                rw [← hx.out, ← HT.out, ← HE.out]
                exact HF.out
              · by_cases hA2 : A < 1000
                · have hAi : (100 : Int) ≤ A := by omega
                  have hAj : (A : Int) < 1000 := by omega
                  go_wp2_with (at_builtin; refine wpList_went rfl _ _ 62 62 rfl Tryd.underlying62 hW7 hc0 ((Still.refl _).alloc _) rfl _ [dch (A / 100), dch (A / 10 % 10), dch (A % 10)] rfl (src_three _ _ _ _ (dch (A / 100)) (dch (A / 10 % 10)) (dch (A % 10)) (dch_eq _ _ (by omega) (by omega)) (dch_eq _ _ (by omega) (by omega)) (dch_eq _ _ (by omega) (by omega)) 62 Tryd.underlying62) (by simp; omega) ?_)
                  intro n8 g8 o8 c8 w8 hW8
                  have hfin := hW8.res
                  have htext : K5 ++ (80 :: sg :: [dch (A / 100), dch (A / 10 % 10), dch (A % 10)]) = fmtXText true neg 1 T E := by
                    rw [HK5.out, HK1'.out, HSG.out]
                    simp [fmtXText, expX, ← HA.out, hA1, hA2, dch]
                  rw [show _ = _ from htext] at hfin
                  have HF := Lib.hid hfin
                  clear hfin hW8 htext
                  go_wp2_with fail
                  go_ret
                  rw [← hx.out, ← HT.out, ← HE.out]
                  exact HF.out
                · have hAi : (1000 : Int) ≤ A := by omega
                  go_wp2_with (at_builtin; refine wpList_went rfl _ _ 62 62 rfl Tryd.underlying62 hW7 hc0 ((Still.refl _).alloc _) rfl _ [dch (A / 1000), dch (A / 100 % 10), dch (A / 10 % 10), dch (A % 10)] rfl (src_four _ _ _ _ _ (dch (A / 1000)) (dch (A / 100 % 10)) (dch (A / 10 % 10)) (dch (A % 10)) (dch_eq _ _ (by omega) (by omega)) (dch_eq _ _ (by omega) (by omega)) (dch_eq _ _ (by omega) (by omega)) (dch_eq _ _ (by omega) (by omega)) 62 Tryd.underlying62) (by simp; omega) ?_)
                  intro n8 g8 o8 c8 w8 hW8
                  have hfin := hW8.res
                  have htext : K5 ++ (80 :: sg :: [dch (A / 1000), dch (A / 100 % 10), dch (A / 10 % 10), dch (A % 10)]) = fmtXText true neg 1 T E := by
                    rw [HK5.out, HK1'.out, HSG.out]
                    simp [fmtXText, expX, ← HA.out, hA1, hA2, dch]
                  rw [show _ = _ from htext] at hfin
                  have HF := Lib.hid hfin
                  clear hfin hW8 htext
                  go_wp2_with fail
                  go_ret
                  rw [← hx.out, ← HT.out, ← HE.out]
                  exact HF.out

theorem fmtX_any (upper neg : Bool) (mant mb k : Nat) (exp : Int) (hmb : mb ≤ 52) (hm0 : 0 < mant) (hk1 : P60 ≤ mant * 2 ^ (60 - mb) * 2 ^ k) (hk2 : mant * 2 ^ (60 - mb) * 2 ^ k < 2 * P60) (h0 : -2000 < exp) (h1 : exp < 2000) (v : Value) (olds : List UInt8) (g o c : Nat) (w : World) (hr : Row w v olds g o c) (hc0 : 0 < c) (hl : olds.length + 100 ≤ 1000000)
    :
    Calls Tryd.prog 57 #[v, .int .i64 (-1), .int .u8 (if upper then 88 else 120), .bool neg, .int .u64 mant, .int .i64 exp, .int .i64 mb] w (AppRes w g o c olds (fmtXText upper neg 1 (mant * 2 ^ (60 - mb) * 2 ^ k * 16 % 2 ^ 64) (exp - k))) := by
  cases upper
  · exact fmtX_lo neg mant mb k exp hmb hm0 hk1 hk2 h0 h1 v olds g o c w hr hc0 hl
  · exact fmtX_up neg mant mb k exp hmb hm0 hk1 hk2 h0 h1 v olds g o c w hr hc0 hl

end Go.Proofs.YthfjpofbaeeafaaDoor
