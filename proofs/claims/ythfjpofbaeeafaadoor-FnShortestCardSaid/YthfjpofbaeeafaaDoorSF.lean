/-
  shortFloat.
-/
import Derived.Test.YthfjpofbaeeafaaDoorSD
import Derived.Test.YthfjpofbaeeafaaDoorShL
import Derived.Test.YthfjpofbaeeafaaDoorNum2
import Derived.Deep.DeepCutAuto
import Derived.RegionTactic
import Derived.ChangeAlike
import Derived.StillTailTactics
import Derived.Deep.CutBlock
namespace Go.Proofs.YthfjpofbaeeafaaDoor
open Go.RowKit

def shP (P : Int) (edge : Bool) : Int := if edge then -sk P else -l2 P
def shE (edge : Bool) : Nat := if edge then 1 else 2
def shRes (L : Nat) (P : Int) (edge : Bool) : Nat × Nat := shD (VN (4 * L - shE edge) (P - 2) (shP P edge)) (VN (4 * L + 2) (P - 2) (shP P edge)) (VN L P (shP P edge)) VC (L % 2)

theorem sh_width (P : Int) (edge : Bool) (h0 : -1100 ≤ P) (h1 : P < 1100) : VC ≤ (2 + shE edge) * VN 1 (P - 2) (shP P edge) ∧ (2 + shE edge) * VN 1 (P - 2) (shP P edge) < 10 * VC := by
  have hq : ∀ q, VN 1 P q = 4 * VN 1 (P - 2) q := fun q => by
    have := VN_half 1 (P - 2) q 2 (by omega)
    rw [show P - 2 + ((2 : Nat) : Int) = P by omega] at this
    rw [this]
    exact Nat.mul_comm _ _
  have ht : ∀ q, -999 ≤ q → VN 1 P q = VN 1 P (q - 1) * 10 := fun q h => by
    have := VN_ten 1 P (q - 1) 1 (by omega)
    rw [show q - 1 + ((1 : Nat) : Int) = q by omega, Nat.pow_one] at this
    exact this
  have hl : -400 ≤ l2 P ∧ l2 P ≤ 400 := by unfold l2; omega
  have hs : -400 ≤ sk P ∧ sk P ≤ 400 := by unfold sk; omega
  cases edge
  · obtain ⟨a1, a2⟩ := l2_at P (by omega) (by omega)
    have b1 := hq (-l2 P)
    have b2 := ht (-l2 P) (by omega)
    simp only [shP, shE, Bool.false_eq_true, if_false]
    omega
  · obtain ⟨a1, a2⟩ := sk_at P (by omega) (by omega)
    have b1 := hq (-sk P)
    have b2 := ht (-sk P) (by omega)
    simp only [shP, shE, if_true]
    omega

theorem usc_sh (x z : Nat) (P p : Int) (s i : Nat) (hi : p = (i : Int) - 348) (hi2 : i < 696) (hx0 : 0 < x) (hX : x * 2 ^ (z - 2) < 2 ^ 64) (hz : 11 ≤ z) (hP : -1200 ≤ P - z) (hs : (s : Int) = -(P - z + lp10 p + 3)) (hs1 : 5 ≤ s) :
    uscN (x * 2 ^ (z - 2)) (rowHi i) (rowLo i) s = UU x (P - 2) p := by
  have e1 : x * 2 ^ (z - 2) = x * 2 ^ (z - 11) * 2 ^ 9 := by
    rw [Nat.mul_assoc, ← Nat.pow_add, show z - 11 + 9 = z - 2 by omega]
  have hy : x * 2 ^ (z - 11) < 2 ^ 55 := by rw [e1] at hX; omega
  have h := usc_b (x * 2 ^ (z - 11)) (P - z) p s (by omega) (by omega) (by omega) (Nat.mul_pos hx0 (Nat.two_pow_pos _)) hy hs hs1
  rw [← e1, VN_two _ _ _ _ (by omega), show P - (z : Int) + ((z - 2 : Nat) : Int) = P - 2 by omega, show (p + 348).toNat = i by omega] at h
  exact h

theorem UU_small (x : Nat) (P p : Int) (hx : x < 2 ^ 57) (h : VN 1 (P - 2) p < 4 * VC) : UU x (P - 2) p < 4611686018427387904 := by
  have h1 : VN x (P - 2) p = x * VN 1 (P - 2) p := by
    have := VN_mul 1 x (P - 2) p
    rw [Nat.one_mul] at this
    exact this
  have h2 : VN x (P - 2) p < 2 ^ 59 * VC := by
    rw [h1]
    have a := Nat.mul_le_mul_right (VN 1 (P - 2) p) (Nat.le_of_lt hx)
    have b := Nat.mul_lt_mul_of_pos_left h (show 0 < 2 ^ 57 by decide)
    have c : 2 ^ 57 * (4 * VC) = 2 ^ 59 * VC := by rw [← Nat.mul_assoc]
    omega
  have h3 := unr_le VC_pos h2
  unfold UU
  omega

theorem and1_i64 (L : Nat) (h : L < 9223372036854775808) : Go.bits .and .i64 (L : Int) 1 = ((L % 2 : Nat) : Int) := by
  have := and_mask_i64 L 1 h (by decide)
  simpa using this

set_option maxRecDepth 100000 in
set_option maxHeartbeats 2000000 in
theorem sf_68 {B : Nat} (W : World) (hT : Tabs B W) (L z m : Nat) (P e : Int) (edge : Bool) (hL : 1 ≤ L) (hm : m = L * 2 ^ z) (hm1 : 2 ^ 63 ≤ m) (hm2 : m < 2 ^ 64) (he : e = P - z) (hP0 : -1074 ≤ P) (hP1 : P ≤ 1000)
    (hz : z = 11 ∨ 11 < z ∧ P = -1074) (hz2 : z ≤ 63) (hedge : edge = (decide (m = 9223372036854775808) && decide (-1085 < e))) :
    Calls Tryd.prog 68 #[.int .u64 m, .int .i64 e] W (FixRes W (shRes L P edge).1 (((shRes L P edge).2 : Int) - shP P edge)) := by
  obtain ⟨p, hp⟩ : ∃ p, p = shP P edge := ⟨_, rfl⟩
  obtain ⟨wd1, wd2⟩ := sh_width P edge (by omega) (by omega)
  have hel : -400 ≤ l2 P ∧ l2 P ≤ 400 := by unfold l2; omega
  have hes : -400 ≤ sk P ∧ sk P ≤ 400 := by unfold sk; omega
  have hep : shE edge = 1 ∨ shE edge = 2 := by cases edge <;> simp [shE]
  have hep4 : shE edge ≤ 2 := by omega
  rw [← hp] at wd1 wd2
  have hu4 : VN 1 (P - 2) p < 4 * VC := by
    have : 3 * VN 1 (P - 2) p ≤ (2 + shE edge) * VN 1 (P - 2) p := Nat.mul_le_mul_right _ (by omega)
    omega
  have hpr : -348 ≤ p ∧ p ≤ 347 := by
    rw [hp]
    unfold shP l2 sk
    cases edge
    · simp only [Bool.false_eq_true, if_false]; omega
    · simp only [if_true]; omega
  obtain ⟨LP, hLP⟩ : ∃ LP, LP = lp10 p := ⟨_, rfl⟩
  have hLPr : -1900 < LP ∧ LP < 1900 := by rw [hLP]; unfold lp10; omega
  have hzl : 11 ≤ z := by omega
  obtain ⟨s, hs⟩ : ∃ s : Nat, (s : Int) = -(e + LP + 3) ∧ 5 ≤ s ∧ s < 64 := by
    refine ⟨(-(e + LP + 3)).toNat, ?_⟩
    have h1 : -1 ≤ P + LP ∧ P + LP ≤ 3 := by
      rw [hLP, hp]
      unfold lp10 shP l2 sk
      cases edge
      · simp only [Bool.false_eq_true, if_false]; omega
      · simp only [if_true]; omega
    omega
  obtain ⟨hs, hs5, hs64⟩ := hs
  obtain ⟨i, hi⟩ : ∃ i : Nat, p = (i : Int) - 348 := ⟨(p + 348).toNat, by omega⟩
  have hi2 : i < 696 := by omega
  have cL : ∀ x w, x = P → Calls Tryd.prog 63 #[.int .i64 x] w fun e' w' => e' = .returned (.int .i64 (l2 P)) ∧ w = w' := fun x w hx => by
    subst hx
    exact log10Pow2_any x w (by omega) (by omega)
  have cK : ∀ x w, x = P → Calls Tryd.prog 72 #[.int .i64 x] w fun e' w' => e' = .returned (.int .i64 (sk P)) ∧ w = w' := fun x w hx => by
    subst hx
    exact skewed_any x w (by omega) (by omega)
  have cP : ∀ w, Calls Tryd.prog 74 #[.int .i64 p] w fun e' w' => e' = .returned (.int .i64 LP) ∧ w = w' := fun w => by
    have := log2Pow10_any p w (by omega) (by omega)
    rw [hLP]
    exact this
  have cS := prescale_any W hT e p LP i s hi2 hi hs (by omega) (by omega) (by omega) (by omega) (.int .u64 0) (.int .u64 0) (.int .i64 0)
  obtain ⟨r1, r2, r3, _, _⟩ := row_at i hi2
  have cU : ∀ (x X : Nat), X = x * 2 ^ (z - 2) → 0 < x → X < 2 ^ 64 → ∀ (w : World) (g : Nat), Scl w g (rowHi i) (rowLo i) s → Calls Tryd.prog 75 #[.int .u64 X, .pointer (some ⟨g, 0, none⟩)] w (DrewInt (UU x (P - 2) p) w) := fun x X hX hx0 hX2 w g h => by
    have := usc_sh x z P p s i hi hi2 hx0 (by rw [← hX]; exact hX2) (by omega) (by omega) (by rw [hs, hLP, he]) hs5
    rw [← hX] at this
    rw [← this]
    exact uscale_any X _ _ s g w (by unfold U64; omega) (by unfold U64; omega) (by unfold U64; omega) hs64 (by omega) h.c0 h.c1 h.c2
  -- the numbers
  obtain ⟨z1, hz1⟩ : ∃ z1, z = z1 + 2 := ⟨z - 2, by omega⟩
  have h2z : 2 ^ z = 4 * 2 ^ z1 := by rw [hz1, Nat.pow_add]; omega
  obtain ⟨T, hTT⟩ : ∃ T, T = 2 ^ z1 := ⟨_, rfl⟩
  have hT512 : 512 ≤ T := by
    have := Nat.pow_le_pow_right (n := 2) (by decide) (show 9 ≤ z1 by omega)
    rw [hTT]
    exact this
  have hTm : T < 2 ^ 62 := by
    rw [hTT]
    exact Nat.pow_lt_pow_right (by decide) (by omega)
  have hmT : m = 4 * (L * T) := by rw [hm, h2z, hTT]; simp only [Nat.mul_left_comm]
  have hL57 : L < 2 ^ 53 := by
    have := Nat.mul_le_mul_left L hT512
    omega
  have hLT1 : T ≤ L * T := Nat.le_mul_of_pos_left T hL
  obtain ⟨MN, hMN⟩ : ∃ MN, MN = (4 * L - shE edge) * T := ⟨_, rfl⟩
  obtain ⟨MX, hMX⟩ : ∃ MX, MX = (4 * L + 2) * T := ⟨_, rfl⟩
  have hMN2 : MN + shE edge * T = m := by
    rw [hMN, ← Nat.add_mul, Nat.sub_add_cancel (by omega), hmT, Nat.mul_assoc]
  have hMX2 : MX = m + 2 * T := by rw [hMX, Nat.add_mul, hmT, Nat.mul_assoc]
  have heT : shE edge * T = T ∨ shE edge * T = 2 * T := by rcases hep with h | h <;> rw [h] <;> omega
  have hMX64 : MX < 2 ^ 64 := by
    have h1 : m + 4 * T ≤ 2 ^ 64 := by
      have h2 : m + 4 * T = (L + 1) * 2 ^ z := by rw [Nat.add_mul, Nat.one_mul, ← hm, h2z, hTT]
      have h3 : L < 2 ^ (64 - z) := by
        refine Nat.lt_of_mul_lt_mul_right (a := 2 ^ z) ?_
        rw [← hm, ← Nat.pow_add, show 64 - z + z = 64 by omega]
        exact hm2
      have h4 := Nat.mul_le_mul_right (2 ^ z) (show L + 1 ≤ 2 ^ (64 - z) from h3)
      rw [← Nat.pow_add, show 64 - z + z = 64 by omega] at h4
      omega
    omega
  have z2 : z - 2 = z1 := by omega
  have hzz : (z : Int) = (z1 : Int) + 2 := by omega
  have cMN := cU (4 * L - shE edge) MN (by rw [hMN, z2, hTT]) (by omega) (by omega)
  have cMX := cU (4 * L + 2) MX (by rw [hMX, z2, hTT]) (by omega) (by omega)
  have cMM := cU (4 * L) m (by rw [z2, ← hTT, hmT, Nat.mul_assoc]) (by omega) (by omega)
  obtain ⟨UA, hUA⟩ : ∃ UA, UA = UU (4 * L - shE edge) (P - 2) p := ⟨_, rfl⟩
  obtain ⟨UB, hUB⟩ : ∃ UB, UB = UU (4 * L + 2) (P - 2) p := ⟨_, rfl⟩
  obtain ⟨UV, hUV⟩ : ∃ UV, UV = UU (4 * L) (P - 2) p := ⟨_, rfl⟩
  have bA := UU_small (4 * L - shE edge) P p (by omega) hu4
  have bB := UU_small (4 * L + 2) P p (by omega) hu4
  have bV := UU_small (4 * L) P p (by omega) hu4
  have hV0 : VN (4 * L) (P - 2) p = VN L P p := by
    have := VN_two L 2 (P - 2) p (by omega)
    rw [show P - 2 + ((2 : Nat) : Int) = P by omega] at this
    rw [← this, Nat.mul_comm]
  have hrd : ∀ w, Calls Tryd.prog 79 #[.int .u64 UV] w fun e' w' => e' = .returned (.int .u64 (rh (VN L P p) VC : Nat)) ∧ w = w' := fun w => by
    rw [hUV, ← hV0]
    exact round_UU (4 * L) (P - 2) p w (by omega)
  obtain ⟨OD, hOD⟩ : ∃ OD, OD = L % 2 := ⟨_, rfl⟩
  have hOD1 : OD ≤ 1 := by omega
  have hB1 : 4 ≤ UB ∧ 0 < UB := by
    have h1 : ¬ UB < 4 * 1 := fun h => by
      rw [hUB] at h
      unfold UU at h
      rw [unr_lt_iff VC_pos] at h
      have h3 : VN 1 (P - 2) p * 6 ≤ VN (4 * L + 2) (P - 2) p := by
        have := VN_le (show 6 ≤ 4 * L + 2 by omega) (P - 2) p
        have h4 := VN_mul 1 6 (P - 2) p
        rw [Nat.one_mul] at h4
        omega
      have h5 : (2 + shE edge) * VN 1 (P - 2) p ≤ 4 * VN 1 (P - 2) p := Nat.mul_le_mul_right _ (by omega)
      omega
    omega
  obtain ⟨R, hR⟩ : ∃ R, R = shRes L P edge := ⟨_, rfl⟩
  have hRR : R = if (UA + OD + 3) / 4 ≤ (UB - OD) / 4 / 10 * 10 then ((UB - OD) / 4 / 10, 1) else (if (UA + OD + 3) / 4 < (UB - OD) / 4 then rh (VN L P p) VC else (UA + OD + 3) / 4, 0) := by
    rw [hR, hUA, hUB, hOD, hp]
    rfl
  rw [← hR, ← hp]
  rw [← hUA] at cMN bA
  rw [← hUB] at cMX bB
  rw [← hUV] at cMM bV
  obtain ⟨XM, hXM⟩ : ∃ XM, XM = (UB - OD) / 4 := ⟨_, rfl⟩
  obtain ⟨NM, hNM⟩ : ∃ NM, NM = (UA + OD + 3) / 4 := ⟨_, rfl⟩
  rw [← hXM, ← hNM] at hRR
  have cCeil : ∀ w, Calls Tryd.prog 77 #[.int .u64 (UA + OD : Int)] w fun e' w' => e' = .returned (.int .u64 (NM : Int)) ∧ w = w' := fun w => by
    have := ceil_any (UA + OD : Int) w (by omega) (by omega)
    rw [show (NM : Int) = ((UA : Int) + OD + 3) / 4 by omega]
    exact this
  have cFloor : ∀ w, Calls Tryd.prog 78 #[.int .u64 (UB + -OD : Int)] w fun e' w' => e' = .returned (.int .u64 (XM : Int)) ∧ w = w' := fun w => by
    have := floor_any (UB + -OD : Int) w (by omega) (by omega)
    rw [show (XM : Int) = ((UB : Int) + -OD) / 4 by omega]
    exact this
  have cNA : ∀ w, Calls Tryd.prog 76 #[.int .u64 (UA : Int), .int .i64 OD] w fun e' w' => e' = .returned (.int .u64 (UA + OD : Int)) ∧ w = w' := fun w => nudge_any _ _ w (by omega) (by omega)
  have cNB : ∀ w, Calls Tryd.prog 76 #[.int .u64 (UB : Int), .int .i64 (-OD)] w fun e' w' => e' = .returned (.int .u64 (UB + -OD : Int)) ∧ w = w' := fun w => nudge_any _ _ w (by omega) (by omega)
  have hrdb : rh (VN L P p) VC < 4611686018427387904 := by
    have h1 := (rh_unr (VN L P p) VC VC_pos).symm
    rw [h1, ← hV0]
    unfold UU at hUV
    omega
  obtain ⟨RD, hRDD⟩ : ∃ RD, RD = rh (VN L P p) VC := ⟨_, rfl⟩
  rw [← hRDD] at hrd hRR hrdb
  have hXMb : XM < 4611686018427387904 := by omega
  have hNMb : NM < 4611686018427387904 := by omega
  have cAnd : Go.bits .and .i64 (L : Int) 1 = (OD : Int) := by rw [hOD]; exact and1_i64 L (by omega)
  have cDiv : (m : Int) / 2 ^ z = (L : Int) := by
    have h1 : m / 2 ^ z = L := by rw [hm]; exact Nat.mul_div_cancel L (Nat.two_pow_pos z)
    have h2 : ((m / 2 ^ z : Nat) : Int) = (m : Int) / 2 ^ z := by simp
    omega
  have cWL : IntKind.i64.wrap (L : Int) = (L : Int) := by rw [IntKind.wrap_i64]; omega
  have cT0 : IntKind.u64.wrap (2 ^ z1) = (T : Int) := by
    have h1 : ((2 : Int) ^ z1) = ((2 ^ z1 : Nat) : Int) := by simp
    rw [h1, ← hTT, IntKind.wrap_u64]; omega
  have cT1 : IntKind.u64.wrap (2 ^ (z1 + 1)) = ((2 * T : Nat) : Int) := by
    have h1 : ((2 : Int) ^ (z1 + 1)) = ((2 ^ (z1 + 1) : Nat) : Int) := by simp
    rw [h1, Nat.pow_succ, ← hTT, IntKind.wrap_u64]; omega
  obtain ⟨gg, hgg⟩ : ∃ gg, gg = W.heap.size := ⟨_, rfl⟩
  rw [← hgg] at cS
  have HGG := Lib.hid hgg
  have HRR := Lib.hid hRR
  have HP := Lib.hid hp
  have HE := Lib.hid hedge
  have HMN := Lib.hid hMN2
  have HMX := Lib.hid hMX2
  have HTT := Lib.hid hTT
  have hz1b : z1 ≤ 61 := by omega
  have h1OD : (OD : Int) ≤ 1 := by omega
  have he1 : e ≤ P - z := by omega
  have he2 : P - z ≤ e := by omega
  clear he wd1 wd2 hu4 hLP hs hi hi2 r1 r2 r3 cU h2z hmT hLT1 hMN hMX hV0 hUA hUB hUV hB1 hR hXM hNM hRDD hm hOD hgg hRR hp hedge hMN2 hMX2 hTT hs5 hs64
  have iv : ∀ {a b : Int}, a = b → Value.int .u64 a = Value.int .u64 b := fun h => by rw [h]
  go_enter Tryd.func68, Tryd.ntmps68
  go_upto_region 11 with fail
  go_cut [11] (fun z0 wx => z0 = .int .i64 (11) ∧ W = wx)
  case first =>
    go_wp2_with fail
    go_meet
    exact ⟨rfl, rfl⟩
  obtain ⟨rfl, rfl⟩ := hcut
  go_step
  go_step
  go_cut [5, 8, 9, 10] (fun a b c d wx => a = .int .i64 p ∧ b = .int .u64 (MN : Int) ∧ c = .int .u64 (MX : Int) ∧ d = .int .i64 (OD : Int) ∧ W = wx)
  case first =>
    have hmn := HMN.out
    have hmx := HMX.out
    have hpe := HP.out
    have hee := HE.out
    have htt := HTT.out
    by_cases h63 : m = 9223372036854775808 ∧ -1085 < e
    · obtain ⟨h63, hlt⟩ := h63
      have hed : edge = true := by rw [hee, decide_eq_true h63, decide_eq_true hlt]; rfl
      have hz9 : z = 11 := by omega
      subst hed
      have hpk : p = -sk P := hpe
      have hmn1 : MN + 1 * T = m := hmn
      have cc1 : ((m : Int) == 9223372036854775808) = true := beq_iff_eq.2 (by omega)
      have cc2 : decide ((e : Int) > -1085) = true := decide_eq_true (by omega)
      have hT9 : T = 512 := by rw [htt, show z1 = 11 - 2 by omega]
      have cD9 : (m : Int) / 2048 = (L : Int) := by rw [← cDiv, hz9]; rfl
      have hk1 : (m : Int) - 512 = (MN : Int) := by omega
      have hk2 : (m : Int) + 2 * 512 = (MX : Int) := by omega
      clear cDiv cT0 cT1 hz hz2 hzl z2 hz1 hzz hz1b hT9 htt hm1 hm2 h63 hmn1 cL hmx
      clear hmn hpe hee HMN HMX HP HE HTT
      go_wp2_with fail
      refine (cK _ _ (by omega)).mono ?_
      rintro e' w' ⟨rfl, rfl⟩
      go_wp2_with fail
      go_meet
      exact ⟨by rw [hpk], iv (by omega), iv (by omega), rfl, rfl⟩
    · have hed : edge = false := by
        rw [hee]
        by_cases h1 : m = 9223372036854775808
        · rw [decide_eq_false (fun h2 => h63 ⟨h1, h2⟩), Bool.and_false]
        · rw [decide_eq_false h1, Bool.false_and]
      subst hed
      have hpk : p = -l2 P := hpe
      have hmn1 : MN + 2 * T = m := hmn
      rcases hz with hz9 | ⟨hz9, hPm⟩
      · have cc2 : decide ((e : Int) ≥ -1085) = true := decide_eq_true (by omega)
        have hT9 : T = 512 := by rw [htt, show z1 = 11 - 2 by omega]
        have cD9 : (m : Int) / 2048 = (L : Int) := by rw [← cDiv, hz9]; rfl
        have hk1 : (m : Int) - 2 * 512 = (MN : Int) := by omega
        have hk2 : (m : Int) + 2 * 512 = (MX : Int) := by omega
        clear cDiv cT0 cT1 hz2 hzl z2 hz1 hzz hz1b hT9 htt hmn1 cK hmx
        clear hmn hpe hee HMN HMX HP HE HTT
        by_cases h1 : m = 9223372036854775808
        · have cc1 : ((m : Int) == 9223372036854775808) = true := beq_iff_eq.2 (by omega)
          have cc3 : decide ((e : Int) > -1085) = false := decide_eq_false (fun h2 => h63 ⟨h1, by omega⟩)
          clear h63 h1
          go_wp2_with fail
          refine (cL _ _ (by omega)).mono ?_
          rintro e' w' ⟨rfl, rfl⟩
          go_wp2_with fail
          go_meet
          exact ⟨by rw [hpk], iv (by omega), iv (by omega), rfl, rfl⟩
        · have cc1 : ((m : Int) == 9223372036854775808) = false := beq_eq_false_iff_ne.2 (by omega)
          clear h63 h1
          go_wp2_with fail
          refine (cL _ _ (by omega)).mono ?_
          rintro e' w' ⟨rfl, rfl⟩
          go_wp2_with fail
          go_meet
          exact ⟨by rw [hpk], iv (by omega), iv (by omega), rfl, rfl⟩
      · have cc2 : decide ((e : Int) ≥ -1085) = false := decide_eq_false (by omega)
        have hk1 : (m : Int) - ((2 * T : Nat) : Int) = (MN : Int) := by omega
        have hk2 : (m : Int) + ((2 * T : Nat) : Int) = (MX : Int) := by omega
        have hPm1 : P ≤ -1074 := by omega
        obtain ⟨za, hza⟩ : ∃ za, za = z1 + 1 := ⟨_, rfl⟩
        rw [← hza] at cT1
        have hze : (11 : Int) + (-1085 - e) = (z : Int) := by omega
        have hzf : (z : Int) - 1 = (za : Int) := by omega
        have hza1 : za ≤ 62 := by omega
        clear hzz hza hPm hzl z2 hz1 htt cK hmx
        clear hmn hpe hee HMN HMX HP HE HTT
        by_cases h1 : m = 9223372036854775808
        · have cc1 : ((m : Int) == 9223372036854775808) = true := beq_iff_eq.2 (by omega)
          have cc3 : decide ((e : Int) > -1085) = false := decide_eq_false (fun h2 => h63 ⟨h1, by omega⟩)
          clear h63 h1
          go_wp2_with fail
          refine (cL _ _ (by omega)).mono ?_
          rintro e' w' ⟨rfl, rfl⟩
          go_wp2_with fail
          go_meet
          exact ⟨by rw [hpk], iv (by omega), iv (by omega), rfl, rfl⟩
        · have cc1 : ((m : Int) == 9223372036854775808) = false := beq_eq_false_iff_ne.2 (by omega)
          clear h63 h1
          go_wp2_with fail
          refine (cL _ _ (by omega)).mono ?_
          rintro e' w' ⟨rfl, rfl⟩
          go_wp2_with fail
          go_meet
          exact ⟨by rw [hpk], iv (by omega), iv (by omega), rfl, rfl⟩
  case rest =>
    obtain ⟨rfl, rfl, rfl, rfl, rfl⟩ := hcut
    clear he1 he2 hz hz2 hzl z2 hz1 hzz hz1b cT0 cT1 cDiv cL cK hm1 hm2 hL57 hT512 hTm cAnd cWL HP HE HMN HMX HTT
    go_wp2_with fail
    refine (cP _).mono ?_
    rintro e' w' ⟨rfl, rfl⟩
    go_wp2_with fail
    rw [← HGG.out]
    refine cS.mono ?_
    rintro e' w1 ⟨rfl, hscl, hst1, hsz1⟩
    go_wp2_with fail
    refine (cMN _ _ hscl).mono ?_
    rintro e' w2 ⟨rfl, nd, rfl⟩
    go_wp2_with fail
    refine (cNA _).mono ?_
    rintro e' w' ⟨rfl, rfl⟩
    go_wp2_with fail
    refine (cCeil _).mono ?_
    rintro e' w' ⟨rfl, rfl⟩
    go_wp2_with fail
    refine (cMX _ _ (hscl.drewN nd)).mono ?_
    rintro e' w2 ⟨rfl, nd2, rfl⟩
    go_wp2_with fail
    refine (cNB _).mono ?_
    rintro e' w' ⟨rfl, rfl⟩
    go_wp2_with fail
    refine (cFloor _).mono ?_
    rintro e' w' ⟨rfl, rfl⟩
    have hst3 : Still W (w1.drewN (nd + nd2)) := hst1.drewN (nd + nd2)
    have hsc3 := hscl.drewN (nd + nd2)
    have hst1' := hst1
    have H3 := Lib.hid hst3
    have H1 := Lib.hid hst1'
    clear hst3 hst1' hst1 hsz1 hscl cMN cMX cCeil cFloor cNA cNB cP cS
    obtain ⟨X10, hX10⟩ : ∃ X10, X10 = XM / 10 := ⟨_, rfl⟩
    have hXi : (XM : Int) / 10 = (X10 : Int) := by omega
    have hX10b : X10 < 461168601842738800 := by omega
    have HX10 := Lib.hid hX10
    clear hX10
    have hn1 : IntKind.i64.wrap (-(p - 1)) = 1 - p := by rw [IntKind.wrap_i64]; omega
    have hn2 : IntKind.i64.wrap (-p) = -p := by rw [IntKind.wrap_i64]; omega
    by_cases h10 : NM ≤ XM / 10 * 10
    · have hR2 : R = (X10, 1) := by rw [HRR.out, if_pos h10, HX10.out]
      subst hR2
      have c10 : decide ((X10 : Int) * 10 ≥ (NM : Int)) = true := decide_eq_true (by omega)
      go_wp2_with fail
      exact bodyPost_ret (v := .tuple #[.int .u64 (X10 : Int), .int .i64 (1 - p)]) (by simp [results, Tryd.results68, go_sem]) rfl ⟨rfl, H3.out⟩
    · have c10 : decide ((X10 : Int) * 10 ≥ (NM : Int)) = false := decide_eq_false (by omega)
      by_cases hlt : NM < XM
      · have hR2 : R = (RD, 0) := by rw [HRR.out, if_neg h10, if_pos hlt]
        subst hR2
        have c11 : decide ((NM : Int) < (XM : Int)) = true := decide_eq_true (by omega)
        go_wp2_with fail
        refine (cMM _ _ hsc3).mono ?_
        rintro e' w2 ⟨rfl, nd3, rfl⟩
        go_wp2_with fail
        refine (hrd _).mono ?_
        rintro e' w' ⟨rfl, rfl⟩
        go_wp2_with fail
        exact bodyPost_ret (v := .tuple #[.int .u64 (RD : Int), .int .i64 (0 - p)]) (by simp [results, Tryd.results68, go_sem]) rfl ⟨rfl, H1.out.drewN _⟩
      · have hR2 : R = (NM, 0) := by rw [HRR.out, if_neg h10, if_neg hlt]
        subst hR2
        have c11 : decide ((NM : Int) < (XM : Int)) = false := decide_eq_false (by omega)
        go_wp2_with fail
        exact bodyPost_ret (v := .tuple #[.int .u64 (NM : Int), .int .i64 (0 - p)]) (by simp [results, Tryd.results68, go_sem]) rfl ⟨rfl, H3.out⟩

set_option maxRecDepth 100000 in
set_option maxHeartbeats 2000000 in
theorem sf_60 {B : Nat} (W : World) (hT : Tabs B W) (L z m : Nat) (P e : Int) (edge : Bool) (hL : 1 ≤ L) (hm : m = L * 2 ^ z) (hm1 : 2 ^ 63 ≤ m) (hm2 : m < 2 ^ 64) (he : e = P - z) (hP0 : -149 ≤ P) (hP1 : P ≤ 1000)
    (hz : z = 40 ∨ 40 < z ∧ P = -149) (hz2 : z ≤ 63) (hedge : edge = (decide (m = 9223372036854775808) && decide (-189 < e))) :
    Calls Tryd.prog 60 #[.int .u64 m, .int .i64 e] W (FixRes W (shRes L P edge).1 (((shRes L P edge).2 : Int) - shP P edge)) := by
  obtain ⟨p, hp⟩ : ∃ p, p = shP P edge := ⟨_, rfl⟩
  obtain ⟨wd1, wd2⟩ := sh_width P edge (by omega) (by omega)
  have hel : -400 ≤ l2 P ∧ l2 P ≤ 400 := by unfold l2; omega
  have hes : -400 ≤ sk P ∧ sk P ≤ 400 := by unfold sk; omega
  have hep : shE edge = 1 ∨ shE edge = 2 := by cases edge <;> simp [shE]
  have hep4 : shE edge ≤ 2 := by omega
  rw [← hp] at wd1 wd2
  have hu4 : VN 1 (P - 2) p < 4 * VC := by
    have : 3 * VN 1 (P - 2) p ≤ (2 + shE edge) * VN 1 (P - 2) p := Nat.mul_le_mul_right _ (by omega)
    omega
  have hpr : -348 ≤ p ∧ p ≤ 347 := by
    rw [hp]
    unfold shP l2 sk
    cases edge
    · simp only [Bool.false_eq_true, if_false]; omega
    · simp only [if_true]; omega
  obtain ⟨LP, hLP⟩ : ∃ LP, LP = lp10 p := ⟨_, rfl⟩
  have hLPr : -1900 < LP ∧ LP < 1900 := by rw [hLP]; unfold lp10; omega
  have hzl : 40 ≤ z := by omega
  obtain ⟨s, hs⟩ : ∃ s : Nat, (s : Int) = -(e + LP + 3) ∧ 5 ≤ s ∧ s < 64 := by
    refine ⟨(-(e + LP + 3)).toNat, ?_⟩
    have h1 : -1 ≤ P + LP ∧ P + LP ≤ 3 := by
      rw [hLP, hp]
      unfold lp10 shP l2 sk
      cases edge
      · simp only [Bool.false_eq_true, if_false]; omega
      · simp only [if_true]; omega
    omega
  obtain ⟨hs, hs5, hs64⟩ := hs
  obtain ⟨i, hi⟩ : ∃ i : Nat, p = (i : Int) - 348 := ⟨(p + 348).toNat, by omega⟩
  have hi2 : i < 696 := by omega
  have cL : ∀ x w, x = P → Calls Tryd.prog 63 #[.int .i64 x] w fun e' w' => e' = .returned (.int .i64 (l2 P)) ∧ w = w' := fun x w hx => by
    subst hx
    exact log10Pow2_any x w (by omega) (by omega)
  have cK : ∀ x w, x = P → Calls Tryd.prog 72 #[.int .i64 x] w fun e' w' => e' = .returned (.int .i64 (sk P)) ∧ w = w' := fun x w hx => by
    subst hx
    exact skewed_any x w (by omega) (by omega)
  have cP : ∀ w, Calls Tryd.prog 74 #[.int .i64 p] w fun e' w' => e' = .returned (.int .i64 LP) ∧ w = w' := fun w => by
    have := log2Pow10_any p w (by omega) (by omega)
    rw [hLP]
    exact this
  have cS := prescale_any W hT e p LP i s hi2 hi hs (by omega) (by omega) (by omega) (by omega) (.int .u64 0) (.int .u64 0) (.int .i64 0)
  obtain ⟨r1, r2, r3, _, _⟩ := row_at i hi2
  have cU : ∀ (x X : Nat), X = x * 2 ^ (z - 2) → 0 < x → X < 2 ^ 64 → ∀ (w : World) (g : Nat), Scl w g (rowHi i) (rowLo i) s → Calls Tryd.prog 75 #[.int .u64 X, .pointer (some ⟨g, 0, none⟩)] w (DrewInt (UU x (P - 2) p) w) := fun x X hX hx0 hX2 w g h => by
    have := usc_sh x z P p s i hi hi2 hx0 (by rw [← hX]; exact hX2) (by omega) (by omega) (by rw [hs, hLP, he]) hs5
    rw [← hX] at this
    rw [← this]
    exact uscale_any X _ _ s g w (by unfold U64; omega) (by unfold U64; omega) (by unfold U64; omega) hs64 (by omega) h.c0 h.c1 h.c2
  -- the numbers
  obtain ⟨z1, hz1⟩ : ∃ z1, z = z1 + 2 := ⟨z - 2, by omega⟩
  have h2z : 2 ^ z = 4 * 2 ^ z1 := by rw [hz1, Nat.pow_add]; omega
  obtain ⟨T, hTT⟩ : ∃ T, T = 2 ^ z1 := ⟨_, rfl⟩
  have hT512 : 512 ≤ T := by
    have := Nat.pow_le_pow_right (n := 2) (by decide) (show 9 ≤ z1 by omega)
    rw [hTT]
    exact this
  have hTm : T < 2 ^ 62 := by
    rw [hTT]
    exact Nat.pow_lt_pow_right (by decide) (by omega)
  have hmT : m = 4 * (L * T) := by rw [hm, h2z, hTT]; simp only [Nat.mul_left_comm]
  have hL57 : L < 2 ^ 53 := by
    have := Nat.mul_le_mul_left L hT512
    omega
  have hLT1 : T ≤ L * T := Nat.le_mul_of_pos_left T hL
  obtain ⟨MN, hMN⟩ : ∃ MN, MN = (4 * L - shE edge) * T := ⟨_, rfl⟩
  obtain ⟨MX, hMX⟩ : ∃ MX, MX = (4 * L + 2) * T := ⟨_, rfl⟩
  have hMN2 : MN + shE edge * T = m := by
    rw [hMN, ← Nat.add_mul, Nat.sub_add_cancel (by omega), hmT, Nat.mul_assoc]
  have hMX2 : MX = m + 2 * T := by rw [hMX, Nat.add_mul, hmT, Nat.mul_assoc]
  have heT : shE edge * T = T ∨ shE edge * T = 2 * T := by rcases hep with h | h <;> rw [h] <;> omega
  have hMX64 : MX < 2 ^ 64 := by
    have h1 : m + 4 * T ≤ 2 ^ 64 := by
      have h2 : m + 4 * T = (L + 1) * 2 ^ z := by rw [Nat.add_mul, Nat.one_mul, ← hm, h2z, hTT]
      have h3 : L < 2 ^ (64 - z) := by
        refine Nat.lt_of_mul_lt_mul_right (a := 2 ^ z) ?_
        rw [← hm, ← Nat.pow_add, show 64 - z + z = 64 by omega]
        exact hm2
      have h4 := Nat.mul_le_mul_right (2 ^ z) (show L + 1 ≤ 2 ^ (64 - z) from h3)
      rw [← Nat.pow_add, show 64 - z + z = 64 by omega] at h4
      omega
    omega
  have z2 : z - 2 = z1 := by omega
  have hzz : (z : Int) = (z1 : Int) + 2 := by omega
  have cMN := cU (4 * L - shE edge) MN (by rw [hMN, z2, hTT]) (by omega) (by omega)
  have cMX := cU (4 * L + 2) MX (by rw [hMX, z2, hTT]) (by omega) (by omega)
  have cMM := cU (4 * L) m (by rw [z2, ← hTT, hmT, Nat.mul_assoc]) (by omega) (by omega)
  obtain ⟨UA, hUA⟩ : ∃ UA, UA = UU (4 * L - shE edge) (P - 2) p := ⟨_, rfl⟩
  obtain ⟨UB, hUB⟩ : ∃ UB, UB = UU (4 * L + 2) (P - 2) p := ⟨_, rfl⟩
  obtain ⟨UV, hUV⟩ : ∃ UV, UV = UU (4 * L) (P - 2) p := ⟨_, rfl⟩
  have bA := UU_small (4 * L - shE edge) P p (by omega) hu4
  have bB := UU_small (4 * L + 2) P p (by omega) hu4
  have bV := UU_small (4 * L) P p (by omega) hu4
  have hV0 : VN (4 * L) (P - 2) p = VN L P p := by
    have := VN_two L 2 (P - 2) p (by omega)
    rw [show P - 2 + ((2 : Nat) : Int) = P by omega] at this
    rw [← this, Nat.mul_comm]
  have hrd : ∀ w, Calls Tryd.prog 79 #[.int .u64 UV] w fun e' w' => e' = .returned (.int .u64 (rh (VN L P p) VC : Nat)) ∧ w = w' := fun w => by
    rw [hUV, ← hV0]
    exact round_UU (4 * L) (P - 2) p w (by omega)
  obtain ⟨OD, hOD⟩ : ∃ OD, OD = L % 2 := ⟨_, rfl⟩
  have hOD1 : OD ≤ 1 := by omega
  have hB1 : 4 ≤ UB ∧ 0 < UB := by
    have h1 : ¬ UB < 4 * 1 := fun h => by
      rw [hUB] at h
      unfold UU at h
      rw [unr_lt_iff VC_pos] at h
      have h3 : VN 1 (P - 2) p * 6 ≤ VN (4 * L + 2) (P - 2) p := by
        have := VN_le (show 6 ≤ 4 * L + 2 by omega) (P - 2) p
        have h4 := VN_mul 1 6 (P - 2) p
        rw [Nat.one_mul] at h4
        omega
      have h5 : (2 + shE edge) * VN 1 (P - 2) p ≤ 4 * VN 1 (P - 2) p := Nat.mul_le_mul_right _ (by omega)
      omega
    omega
  obtain ⟨R, hR⟩ : ∃ R, R = shRes L P edge := ⟨_, rfl⟩
  have hRR : R = if (UA + OD + 3) / 4 ≤ (UB - OD) / 4 / 10 * 10 then ((UB - OD) / 4 / 10, 1) else (if (UA + OD + 3) / 4 < (UB - OD) / 4 then rh (VN L P p) VC else (UA + OD + 3) / 4, 0) := by
    rw [hR, hUA, hUB, hOD, hp]
    rfl
  rw [← hR, ← hp]
  rw [← hUA] at cMN bA
  rw [← hUB] at cMX bB
  rw [← hUV] at cMM bV
  obtain ⟨XM, hXM⟩ : ∃ XM, XM = (UB - OD) / 4 := ⟨_, rfl⟩
  obtain ⟨NM, hNM⟩ : ∃ NM, NM = (UA + OD + 3) / 4 := ⟨_, rfl⟩
  rw [← hXM, ← hNM] at hRR
  have cCeil : ∀ w, Calls Tryd.prog 77 #[.int .u64 (UA + OD : Int)] w fun e' w' => e' = .returned (.int .u64 (NM : Int)) ∧ w = w' := fun w => by
    have := ceil_any (UA + OD : Int) w (by omega) (by omega)
    rw [show (NM : Int) = ((UA : Int) + OD + 3) / 4 by omega]
    exact this
  have cFloor : ∀ w, Calls Tryd.prog 78 #[.int .u64 (UB + -OD : Int)] w fun e' w' => e' = .returned (.int .u64 (XM : Int)) ∧ w = w' := fun w => by
    have := floor_any (UB + -OD : Int) w (by omega) (by omega)
    rw [show (XM : Int) = ((UB : Int) + -OD) / 4 by omega]
    exact this
  have cNA : ∀ w, Calls Tryd.prog 76 #[.int .u64 (UA : Int), .int .i64 OD] w fun e' w' => e' = .returned (.int .u64 (UA + OD : Int)) ∧ w = w' := fun w => nudge_any _ _ w (by omega) (by omega)
  have cNB : ∀ w, Calls Tryd.prog 76 #[.int .u64 (UB : Int), .int .i64 (-OD)] w fun e' w' => e' = .returned (.int .u64 (UB + -OD : Int)) ∧ w = w' := fun w => nudge_any _ _ w (by omega) (by omega)
  have hrdb : rh (VN L P p) VC < 4611686018427387904 := by
    have h1 := (rh_unr (VN L P p) VC VC_pos).symm
    rw [h1, ← hV0]
    unfold UU at hUV
    omega
  obtain ⟨RD, hRDD⟩ : ∃ RD, RD = rh (VN L P p) VC := ⟨_, rfl⟩
  rw [← hRDD] at hrd hRR hrdb
  have hXMb : XM < 4611686018427387904 := by omega
  have hNMb : NM < 4611686018427387904 := by omega
  have cAnd : Go.bits .and .i64 (L : Int) 1 = (OD : Int) := by rw [hOD]; exact and1_i64 L (by omega)
  have cDiv : (m : Int) / 2 ^ z = (L : Int) := by
    have h1 : m / 2 ^ z = L := by rw [hm]; exact Nat.mul_div_cancel L (Nat.two_pow_pos z)
    have h2 : ((m / 2 ^ z : Nat) : Int) = (m : Int) / 2 ^ z := by simp
    omega
  have cWL : IntKind.i64.wrap (L : Int) = (L : Int) := by rw [IntKind.wrap_i64]; omega
  have cT0 : IntKind.u64.wrap (2 ^ z1) = (T : Int) := by
    have h1 : ((2 : Int) ^ z1) = ((2 ^ z1 : Nat) : Int) := by simp
    rw [h1, ← hTT, IntKind.wrap_u64]; omega
  have cT1 : IntKind.u64.wrap (2 ^ (z1 + 1)) = ((2 * T : Nat) : Int) := by
    have h1 : ((2 : Int) ^ (z1 + 1)) = ((2 ^ (z1 + 1) : Nat) : Int) := by simp
    rw [h1, Nat.pow_succ, ← hTT, IntKind.wrap_u64]; omega
  obtain ⟨gg, hgg⟩ : ∃ gg, gg = W.heap.size := ⟨_, rfl⟩
  rw [← hgg] at cS
  have HGG := Lib.hid hgg
  have HRR := Lib.hid hRR
  have HP := Lib.hid hp
  have HE := Lib.hid hedge
  have HMN := Lib.hid hMN2
  have HMX := Lib.hid hMX2
  have HTT := Lib.hid hTT
  have hz1b : z1 ≤ 61 := by omega
  have h1OD : (OD : Int) ≤ 1 := by omega
  have he1 : e ≤ P - z := by omega
  have he2 : P - z ≤ e := by omega
  clear he wd1 wd2 hu4 hLP hs hi hi2 r1 r2 r3 cU h2z hmT hLT1 hMN hMX hV0 hUA hUB hUV hB1 hR hXM hNM hRDD hm hOD hgg hRR hp hedge hMN2 hMX2 hTT hs5 hs64
  have iv : ∀ {a b : Int}, a = b → Value.int .u64 a = Value.int .u64 b := fun h => by rw [h]
  go_enter Tryd.func60, Tryd.ntmps60
  go_upto_region 11 with fail
  go_cut [11] (fun z0 wx => z0 = .int .i64 (40) ∧ W = wx)
  case first =>
    go_wp2_with fail
    go_meet
    exact ⟨rfl, rfl⟩
  obtain ⟨rfl, rfl⟩ := hcut
  go_step
  go_step
  go_cut [5, 8, 9, 10] (fun a b c d wx => a = .int .i64 p ∧ b = .int .u64 (MN : Int) ∧ c = .int .u64 (MX : Int) ∧ d = .int .i64 (OD : Int) ∧ W = wx)
  case first =>
    have hmn := HMN.out
    have hmx := HMX.out
    have hpe := HP.out
    have hee := HE.out
    have htt := HTT.out
    by_cases h63 : m = 9223372036854775808 ∧ -189 < e
    · obtain ⟨h63, hlt⟩ := h63
      have hed : edge = true := by rw [hee, decide_eq_true h63, decide_eq_true hlt]; rfl
      have hz9 : z = 40 := by omega
      subst hed
      have hpk : p = -sk P := hpe
      have hmn1 : MN + 1 * T = m := hmn
      have cc1 : ((m : Int) == 9223372036854775808) = true := beq_iff_eq.2 (by omega)
      have cc2 : decide ((e : Int) > -189) = true := decide_eq_true (by omega)
      have hT9 : T = 274877906944 := by rw [htt, show z1 = 40 - 2 by omega]
      have cD9 : (m : Int) / 1099511627776 = (L : Int) := by rw [← cDiv, hz9]; rfl
      have hk1 : (m : Int) - 274877906944 = (MN : Int) := by omega
      have hk2 : (m : Int) + 2 * 274877906944 = (MX : Int) := by omega
      clear cDiv cT0 cT1 hz hz2 hzl z2 hz1 hzz hz1b hT9 htt hm1 hm2 h63 hmn1 cL hmx
      clear hmn hpe hee HMN HMX HP HE HTT
      go_wp2_with fail
      refine (cK _ _ (by omega)).mono ?_
      rintro e' w' ⟨rfl, rfl⟩
      go_wp2_with fail
      go_meet
      exact ⟨by rw [hpk], iv (by omega), iv (by omega), rfl, rfl⟩
    · have hed : edge = false := by
        rw [hee]
        by_cases h1 : m = 9223372036854775808
        · rw [decide_eq_false (fun h2 => h63 ⟨h1, h2⟩), Bool.and_false]
        · rw [decide_eq_false h1, Bool.false_and]
      subst hed
      have hpk : p = -l2 P := hpe
      have hmn1 : MN + 2 * T = m := hmn
      rcases hz with hz9 | ⟨hz9, hPm⟩
      · have cc2 : decide ((e : Int) ≥ -189) = true := decide_eq_true (by omega)
        have hT9 : T = 274877906944 := by rw [htt, show z1 = 40 - 2 by omega]
        have cD9 : (m : Int) / 1099511627776 = (L : Int) := by rw [← cDiv, hz9]; rfl
        have hk1 : (m : Int) - 2 * 274877906944 = (MN : Int) := by omega
        have hk2 : (m : Int) + 2 * 274877906944 = (MX : Int) := by omega
        clear cDiv cT0 cT1 hz2 hzl z2 hz1 hzz hz1b hT9 htt hmn1 cK hmx
        clear hmn hpe hee HMN HMX HP HE HTT
        by_cases h1 : m = 9223372036854775808
        · have cc1 : ((m : Int) == 9223372036854775808) = true := beq_iff_eq.2 (by omega)
          have cc3 : decide ((e : Int) > -189) = false := decide_eq_false (fun h2 => h63 ⟨h1, by omega⟩)
          clear h63 h1
          go_wp2_with fail
          refine (cL _ _ (by omega)).mono ?_
          rintro e' w' ⟨rfl, rfl⟩
          go_wp2_with fail
          go_meet
          exact ⟨by rw [hpk], iv (by omega), iv (by omega), rfl, rfl⟩
        · have cc1 : ((m : Int) == 9223372036854775808) = false := beq_eq_false_iff_ne.2 (by omega)
          clear h63 h1
          go_wp2_with fail
          refine (cL _ _ (by omega)).mono ?_
          rintro e' w' ⟨rfl, rfl⟩
          go_wp2_with fail
          go_meet
          exact ⟨by rw [hpk], iv (by omega), iv (by omega), rfl, rfl⟩
      · have cc2 : decide ((e : Int) ≥ -189) = false := decide_eq_false (by omega)
        have hk1 : (m : Int) - ((2 * T : Nat) : Int) = (MN : Int) := by omega
        have hk2 : (m : Int) + ((2 * T : Nat) : Int) = (MX : Int) := by omega
        have hPm1 : P ≤ -149 := by omega
        obtain ⟨za, hza⟩ : ∃ za, za = z1 + 1 := ⟨_, rfl⟩
        rw [← hza] at cT1
        have hze : (40 : Int) + (-189 - e) = (z : Int) := by omega
        have hzf : (z : Int) - 1 = (za : Int) := by omega
        have hza1 : za ≤ 62 := by omega
        clear hzz hza hPm hzl z2 hz1 htt cK hmx
        clear hmn hpe hee HMN HMX HP HE HTT
        by_cases h1 : m = 9223372036854775808
        · have cc1 : ((m : Int) == 9223372036854775808) = true := beq_iff_eq.2 (by omega)
          have cc3 : decide ((e : Int) > -189) = false := decide_eq_false (fun h2 => h63 ⟨h1, by omega⟩)
          clear h63 h1
          go_wp2_with fail
          refine (cL _ _ (by omega)).mono ?_
          rintro e' w' ⟨rfl, rfl⟩
          go_wp2_with fail
          go_meet
          exact ⟨by rw [hpk], iv (by omega), iv (by omega), rfl, rfl⟩
        · have cc1 : ((m : Int) == 9223372036854775808) = false := beq_eq_false_iff_ne.2 (by omega)
          clear h63 h1
          go_wp2_with fail
          refine (cL _ _ (by omega)).mono ?_
          rintro e' w' ⟨rfl, rfl⟩
          go_wp2_with fail
          go_meet
          exact ⟨by rw [hpk], iv (by omega), iv (by omega), rfl, rfl⟩
  case rest =>
    obtain ⟨rfl, rfl, rfl, rfl, rfl⟩ := hcut
    clear he1 he2 hz hz2 hzl z2 hz1 hzz hz1b cT0 cT1 cDiv cL cK hm1 hm2 hL57 hT512 hTm cAnd cWL HP HE HMN HMX HTT
    go_wp2_with fail
    refine (cP _).mono ?_
    rintro e' w' ⟨rfl, rfl⟩
    go_wp2_with fail
    rw [← HGG.out]
    refine cS.mono ?_
    rintro e' w1 ⟨rfl, hscl, hst1, hsz1⟩
    go_wp2_with fail
    refine (cMN _ _ hscl).mono ?_
    rintro e' w2 ⟨rfl, nd, rfl⟩
    go_wp2_with fail
    refine (cNA _).mono ?_
    rintro e' w' ⟨rfl, rfl⟩
    go_wp2_with fail
    refine (cCeil _).mono ?_
    rintro e' w' ⟨rfl, rfl⟩
    go_wp2_with fail
    refine (cMX _ _ (hscl.drewN nd)).mono ?_
    rintro e' w2 ⟨rfl, nd2, rfl⟩
    go_wp2_with fail
    refine (cNB _).mono ?_
    rintro e' w' ⟨rfl, rfl⟩
    go_wp2_with fail
    refine (cFloor _).mono ?_
    rintro e' w' ⟨rfl, rfl⟩
    have hst3 : Still W (w1.drewN (nd + nd2)) := hst1.drewN (nd + nd2)
    have hsc3 := hscl.drewN (nd + nd2)
    have hst1' := hst1
    have H3 := Lib.hid hst3
    have H1 := Lib.hid hst1'
    clear hst3 hst1' hst1 hsz1 hscl cMN cMX cCeil cFloor cNA cNB cP cS
    obtain ⟨X10, hX10⟩ : ∃ X10, X10 = XM / 10 := ⟨_, rfl⟩
    have hXi : (XM : Int) / 10 = (X10 : Int) := by omega
    have hX10b : X10 < 461168601842738800 := by omega
    have HX10 := Lib.hid hX10
    clear hX10
    have hn1 : IntKind.i64.wrap (-(p - 1)) = 1 - p := by rw [IntKind.wrap_i64]; omega
    have hn2 : IntKind.i64.wrap (-p) = -p := by rw [IntKind.wrap_i64]; omega
    by_cases h10 : NM ≤ XM / 10 * 10
    · have hR2 : R = (X10, 1) := by rw [HRR.out, if_pos h10, HX10.out]
      subst hR2
      have c10 : decide ((X10 : Int) * 10 ≥ (NM : Int)) = true := decide_eq_true (by omega)
      go_wp2_with fail
      exact bodyPost_ret (v := .tuple #[.int .u64 (X10 : Int), .int .i64 (1 - p)]) (by simp [results, Tryd.results60, go_sem]) rfl ⟨rfl, H3.out⟩
    · have c10 : decide ((X10 : Int) * 10 ≥ (NM : Int)) = false := decide_eq_false (by omega)
      by_cases hlt : NM < XM
      · have hR2 : R = (RD, 0) := by rw [HRR.out, if_neg h10, if_pos hlt]
        subst hR2
        have c11 : decide ((NM : Int) < (XM : Int)) = true := decide_eq_true (by omega)
        go_wp2_with fail
        refine (cMM _ _ hsc3).mono ?_
        rintro e' w2 ⟨rfl, nd3, rfl⟩
        go_wp2_with fail
        refine (hrd _).mono ?_
        rintro e' w' ⟨rfl, rfl⟩
        go_wp2_with fail
        exact bodyPost_ret (v := .tuple #[.int .u64 (RD : Int), .int .i64 (0 - p)]) (by simp [results, Tryd.results60, go_sem]) rfl ⟨rfl, H1.out.drewN _⟩
      · have hR2 : R = (NM, 0) := by rw [HRR.out, if_neg h10, if_neg hlt]
        subst hR2
        have c11 : decide ((NM : Int) < (XM : Int)) = false := decide_eq_false (by omega)
        go_wp2_with fail
        exact bodyPost_ret (v := .tuple #[.int .u64 (NM : Int), .int .i64 (0 - p)]) (by simp [results, Tryd.results60, go_sem]) rfl ⟨rfl, H3.out⟩

end Go.Proofs.YthfjpofbaeeafaaDoor
