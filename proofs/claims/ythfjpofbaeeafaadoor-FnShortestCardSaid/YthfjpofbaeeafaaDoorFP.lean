/-
  Plain laws for ftoa with a precision: how great a number is, and which digits it has.
-/
import Derived.Test.YthfjpofbaeeafaaDoorDR
import Derived.Lib.BitFns
namespace Go.Proofs.YthfjpofbaeeafaaDoor

theorem VN_up (M : Nat) (E : Int) {q p : Int} (hq : -1000 ≤ q) (h : q ≤ p) : VN M E q ≤ VN M E p := by
  have e := VN_ten M E q (p - q).toNat hq
  rw [show q + ((p - q).toNat : Int) = p by omega] at e
  rw [e]
  exact Nat.le_mul_of_pos_right _ (Nat.pow_pos (by decide))

theorem dec_unique {M : Nat} {E K L : Int} (hK : Dec M E K) (hL : Dec M E L) (k0 : -900 ≤ K) (k1 : K ≤ 900) (l0 : -900 ≤ L) (l1 : L ≤ 900) : K = L := by
  have key : ∀ {K L : Int}, Dec M E K → Dec M E L → -900 ≤ K → K ≤ 900 → -900 ≤ L → L ≤ 900 → ¬ K < L := by
    intro K L hK hL k0 k1 l0 l1 hlt
    have h1 := hK.2
    have h2 := hL.1
    have h3 := VN_up M E (q := 1 - L) (p := -K) (by omega) (by omega)
    omega
  rcases Int.lt_trichotomy K L with h | h | h
  · exact absurd h (key hK hL k0 k1 l0 l1)
  · exact h
  · exact absurd h (key hL hK l0 l1 k0 k1)

theorem bitLen_law (M : Nat) (h0 : 0 < M) (h1 : M < 2 ^ 63) : 2 ^ (Lib.bitLen M - 1) ≤ M ∧ M < 2 ^ Lib.bitLen M ∧ 1 ≤ Lib.bitLen M ∧ Lib.bitLen M ≤ 63 := by
  obtain ⟨k, hk, hk2⟩ : ∃ k, 2 ^ k ≤ M ∧ M < 2 ^ (k + 1) := by
    refine ⟨Nat.log2 M, Nat.log2_self_le (by omega), Nat.lt_log2_self⟩
  have hk62 : k ≤ 62 := by
    rcases Nat.lt_or_ge 62 k with g | g
    · have : 2 ^ 63 ≤ 2 ^ k := Nat.pow_le_pow_right (by decide) g
      omega
    · exact g
  have hb := Lib.bitLen_shift k M hk (by omega)
  have hq : M / 2 ^ k = 1 := by
    rw [Nat.div_eq_iff (Nat.two_pow_pos k)]
    rw [Nat.pow_succ] at hk2
    omega
  rw [hq, show Lib.bitLen 1 = 1 by decide +kernel] at hb
  rw [hb, Nat.add_sub_cancel]
  exact ⟨hk, hk2, by omega, by omega⟩

/-- Between two powers of two. -/
theorem lo_hi (M LB : Nat) (E k q : Int) (h1 : 2 ^ (LB - 1) ≤ M) (h2 : M < 2 ^ LB) (hLB : 1 ≤ LB) (hE : -1200 ≤ E) (hk : k = E + LB - 1) : VN 1 k q ≤ VN M E q ∧ VN M E q < 2 * VN 1 k q := by
  have e1 : VN (2 ^ (LB - 1)) E q = VN 1 k q := by
    have := VN_two 1 (LB - 1) E q hE
    rw [Nat.one_mul] at this
    rw [this, hk, show E + ((LB - 1 : Nat) : Int) = E + LB - 1 by omega]
  have e2 : VN (2 ^ LB) E q = 2 * VN 1 k q := by
    rw [show 2 ^ LB = 2 ^ (LB - 1) * 2 by rw [← Nat.pow_succ]; congr 1; omega, VN_mul, e1]
  exact ⟨by rw [← e1]; exact VN_le h1 E q, by rw [← e2]; exact VN_lt h2 E q⟩

theorem exists_dec (M : Nat) (E : Int) (hM : 0 < M) (hM2 : M < 2 ^ 53) (hE0 : -1074 ≤ E) (hE1 : E ≤ 972) : ∃ K, Dec M E K ∧ -340 ≤ K ∧ K ≤ 320 := by
  obtain ⟨b1, b2, b3, b4⟩ := bitLen_law M hM (by omega)
  have hb53 : Lib.bitLen M ≤ 53 := by
    rcases Nat.lt_or_ge 53 (Lib.bitLen M) with g | g
    · have : 2 ^ 53 ≤ 2 ^ (Lib.bitLen M - 1) := Nat.pow_le_pow_right (by decide) (by omega)
      omega
    · exact g
  obtain ⟨k, hk⟩ : ∃ k : Int, k = E + Lib.bitLen M - 1 := ⟨_, rfl⟩
  have hl := fun q => lo_hi M (Lib.bitLen M) E k q b1 b2 b3 (by omega) hk
  obtain ⟨t1, t2⟩ := l2_at k (by omega) (by omega)
  have hlr : -330 ≤ l2 k ∧ l2 k ≤ 310 := by unfold l2; omega
  by_cases hc : VN M E (-l2 k - 1) < VC
  · refine ⟨l2 k + 1, ⟨?_, ?_⟩, by omega, by omega⟩
    · rw [show 1 - (l2 k + 1) = -l2 k by omega]
      exact Nat.le_trans t1 (hl _).1
    · rw [show -(l2 k + 1) = -l2 k - 1 by omega]
      exact hc
  · refine ⟨l2 k + 2, ⟨?_, ?_⟩, by omega, by omega⟩
    · rw [show 1 - (l2 k + 2) = -l2 k - 1 by omega]
      omega
    · have h3 := VN_ten M E (-l2 k - 2) 1 (by omega)
      rw [show -l2 k - 2 + ((1 : Nat) : Int) = -l2 k - 1 by omega, Nat.pow_one] at h3
      have h4 := (hl (-l2 k - 1)).2
      rw [show -(l2 k + 2) = -l2 k - 2 by omega]
      omega

theorem Dv.dec {ds : List Nat} {dp : Int} {M : Nat} {E : Int} (h : Dv ds dp M E) (h0 : -800 ≤ dp) (h1 : dp ≤ 800) : Dec M E dp := by
  have hlen : 0 < ds.length := List.length_pos_iff.2 h.ne
  have hl := h.dg.lead h.ne
  have hlt := nv_lt ds h.dg.lt
  have hv := h.val
  have hp := VC_pos
  constructor
  · have e := VN_ten M E (1 - dp) (ds.length - 1) (by omega)
    rw [show 1 - dp + ((ds.length - 1 : Nat) : Int) = ds.length - dp by omega, hv] at e
    have h2 := Nat.mul_le_mul_left VC hl
    rw [e] at h2
    exact Nat.le_of_mul_le_mul_right h2 (Nat.pow_pos (by decide))
  · have e := VN_ten M E (-dp) ds.length (by omega)
    rw [show -dp + (ds.length : Int) = ds.length - dp by omega, hv] at e
    have h2 := Nat.mul_lt_mul_of_pos_left hlt hp
    rw [e] at h2
    exact Nat.lt_of_mul_lt_mul_right h2

/-! ### the verb f -/
/-- How many digits are asked for. -/
def fDig (x : Int) (prec : Nat) : Int := if 0 ≤ x then 1 + l2 (1 + x) + prec else 1 + prec - l2 (-x)

/-- l2 of a whole power and of its negative. -/
theorem l2_neg (x : Int) (h0 : -1100 ≤ x) (h1 : x < 0) : l2 x = -l2 (-x) - 1 := by
  unfold l2; omega

theorem aux_f (C V T Z Y : Nat) (hT : 1 ≤ T) (hYZ : Y < Z) (hV : V < Y * C) (hthr : (2 * (Z * T) - 1) * C ≤ 2 * (V * T)) : False := by
  have a1 : V * T < Y * C * T := Nat.mul_lt_mul_of_pos_right hV hT
  have a2 : (Y + 1) * (C * T) ≤ Z * (C * T) := Nat.mul_le_mul_right _ hYZ
  have a3 : (2 * (Z * T) - 1) * C + 1 * C = 2 * (Z * T) * C := by
    rw [← Nat.add_mul]
    congr 1
    have : 1 ≤ Z * T := Nat.mul_pos (by omega) (by omega)
    omega
  have a4 : C ≤ C * T := Nat.le_mul_of_pos_right _ hT
  have a5 : Z * (C * T) = Z * T * C := by ac_rfl
  have a6 : Y * (C * T) = Y * C * T := by ac_rfl
  have a7 : 2 * (Z * T) * C = 2 * (Z * T * C) := by ac_rfl
  rw [Nat.add_mul, Nat.one_mul] at a2
  omega

theorem aux_s (C V A T : Nat) (h : V < 2 * C * T) (hT : T ≤ 1000000000000000000) (hA : A ≤ V) : A ≤ 2000000000000000000 * C := by
  have h3 := Nat.mul_le_mul_left (2 * C) hT
  omega

theorem f_gap (k x : Int) (n prec : Nat) (hkx : k ≤ x) (hx : x < 0) (hx0 : -1080 ≤ x) (hn : (n : Int) = 1 + prec - l2 (-x)) (hpe : (n : Int) - 1 - l2 k ≤ prec) : False := by
  have h1 := l2_neg x (by omega) hx
  have h2 : l2 k ≤ l2 x := by
    unfold l2
    omega
  omega

theorem fix_f (M : Nat) (E k x : Int) (n prec : Nat) (hkx : k ≤ x) (hx0 : -1080 ≤ x) (hx1 : x ≤ 1030) (hn : (n : Int) = fDig x prec) (hM : VN M E 0 < VN 1 (x + 1) 0) : (prec : Int) ≤ fixQ M E k n := by
  have hp : (prec : Int) ≤ fixP k n := by
    clear hM
    unfold fixP fDig at *
    by_cases hx : 0 ≤ x
    · rw [if_pos hx] at hn
      unfold l2 at *
      omega
    · rw [if_neg hx] at hn
      unfold l2 at *
      omega
  unfold fixQ
  by_cases hu : fixU M E k n = true
  · rw [if_pos hu]
    rcases Int.lt_or_le (prec : Int) (fixP k n) with g | g
    · omega
    · exfalso
      have hpe : fixP k n = prec := by omega
      unfold fixU at hu
      rw [hpe] at hu
      have hthr := (unr_thr (N := VN M E prec) VC_pos (show 0 < 10 ^ n from Nat.pow_pos (by decide))).1 (of_decide_eq_true hu)
      by_cases hx : 0 ≤ x
      · -- a whole number below a power of two
        unfold fDig at hn
        rw [if_pos hx] at hn
        have hl0 : 0 ≤ l2 (1 + x) := by unfold l2; omega
        have hl1 : l2 (1 + x) ≤ 400 := by unfold l2; omega
        obtain ⟨t1, t2⟩ := l2_at (1 + x) (by omega) (by omega)
        obtain ⟨J, hJ⟩ : ∃ J : Nat, (J : Int) = l2 (1 + x) + 1 := ⟨(l2 (1 + x) + 1).toNat, by omega⟩
        have hnJ : n = J + prec := by omega
        -- 2^(1+x) < 10^J
        obtain ⟨X, hX⟩ : ∃ X : Nat, (X : Int) = 1 + x := ⟨(1 + x).toNat, by omega⟩
        have hpow : VN 1 (1 + x) 0 = 2 ^ X * VC := by
          have := VN_two 1 X 0 0 (by omega)
          rw [Nat.one_mul, show (0 : Int) + X = 1 + x by omega] at this
          rw [← this]
          have h3 := VN_mul 1 (2 ^ X) 0 0
          rw [Nat.one_mul] at h3
          exact h3
        have h10 : 2 ^ X < 10 ^ J := by
          rw [show -l2 (1 + x) - 1 = -(J : Int) by omega] at t2
          have h3 := VN_ten 1 (1 + x) (-(J : Int)) J (by omega)
          rw [show -(J : Int) + (J : Int) = 0 by omega, hpow] at h3
          have h4 := Nat.mul_lt_mul_of_pos_right t2 (show 0 < 10 ^ J from Nat.pow_pos (by decide))
          rw [← h3, Nat.mul_comm VC] at h4
          exact Nat.lt_of_mul_lt_mul_right h4
        rw [show x + 1 = 1 + x by omega, hpow] at hM
        have e3 := VN_ten M E 0 prec (by omega)
        rw [show (0 : Int) + (prec : Int) = prec by omega] at e3
        have hp1 : 1 ≤ 10 ^ prec := Nat.pow_pos (by decide)
        rw [e3, hnJ, Nat.pow_add] at hthr
        exact aux_f VC (VN M E 0) (10 ^ prec) (10 ^ J) (2 ^ X) hp1 h10 hM hthr
      · -- below one: there is a digit to spare
        unfold fDig at hn
        rw [if_neg hx] at hn
        unfold fixP at hpe
        exact f_gap k x n prec hkx (by omega) hx0 hn (by omega)
  · rw [if_neg hu]
    exact hp

theorem fix_f0 (M : Nat) (E x : Int) (prec : Nat) (hx0 : -1080 ≤ x) (hx1 : x ≤ 1030) (hn : fDig x prec ≤ 0) (hM : ∀ q, VN M E q < 2 * VN 1 x q) : rh (VN M E prec) VC = 0 := by
  have hx : x < 0 := by
    rcases Int.lt_or_le x 0 with g | g
    · exact g
    · exfalso
      unfold fDig l2 at hn
      rw [if_pos g] at hn
      omega
  unfold fDig at hn
  rw [if_neg (by omega)] at hn
  have hl := l2_neg x (by omega) hx
  obtain ⟨t1, t2⟩ := l2_at x (by omega) (by omega)
  have hlx : -400 ≤ l2 x := by unfold l2; omega
  have hp : prec < 1000 := by
    have : l2 (-x) ≤ 400 := by unfold l2; omega
    omega
  have h1 := VN_up 1 x (q := (prec : Int) + 1) (p := -l2 x - 1) (by omega) (by omega)
  have h2 := VN_ten 1 x prec 1 (by omega)
  rw [show (prec : Int) + ((1 : Nat) : Int) = prec + 1 by omega, Nat.pow_one] at h2
  have h3 := hM prec
  have hC := VC_pos
  rw [rh_form (F := 0) (R := VN M E prec) (by omega) (by omega), if_pos (by omega)]

/-- How many digits the rounded number has at most. -/
theorem rh_small (M : Nat) (E q p : Int) (n : Nat) (hq : -1000 ≤ q) (hqp : q ≤ p) (h : VN M E p < 2 * VC * 10 ^ n) (hn : n ≤ 18) : rh (VN M E q) VC ≤ 2000000000000000000 := by
  have h1 := VN_up M E hq hqp
  have h2 : 10 ^ n ≤ 1000000000000000000 := Nat.le_trans (Nat.pow_le_pow_right (by decide) hn) (by decide)
  refine rh_le VC_pos ?_
  exact aux_s VC (VN M E p) (VN M E q) (10 ^ n) h h2 h1

theorem nDigits_19 (d : Nat) (h : d ≤ 2000000000000000000) : Lib.nDigits d ≤ 19 := by
  rcases Nat.eq_zero_or_pos d with g | g
  · subst g; rw [Lib.nDigits_small (by decide)]; decide
  · rcases Nat.lt_or_ge 19 (Lib.nDigits d) with q | q
    · exfalso
      have : ∀ k d, k + 1 ≤ Lib.nDigits d → 10 ^ k ≤ d ∨ k = 0 := by
        intro k
        induction k with
        | zero => intro d _; exact Or.inr rfl
        | succ k ih =>
          intro d h
          by_cases hd : d < 10
          · rw [Lib.nDigits_small hd] at h; omega
          · rw [Lib.nDigits_big hd] at h
            left
            rcases ih (d / 10) (by omega) with h1 | h1
            · rw [Nat.pow_succ]; omega
            · subst h1; omega
      rcases this 19 d q with h1 | h1
      · omega
      · omega
    · exact q

theorem f_slow (M : Nat) (E x K : Int) (prec : Nat) (hlow : ∀ q, VN 1 x q ≤ VN M E q) (hn : 18 < fDig x prec) (hx0 : -1080 ≤ x) (hx1 : x ≤ 1030) (hp : prec ≤ 100) (hK : Dec M E K) : 0 ≤ K + prec := by
  rcases Int.lt_or_le (K + prec) 0 with g | g
  · exfalso
    have h1 := hK.2
    have h2 := VN_up M E (q := (prec : Int) + 1) (p := -K) (by omega) (by omega)
    have h3 := hlow ((prec : Int) + 1)
    have h4 := (l2_at x (by omega) (by omega)).1
    have hlx : -400 ≤ l2 x ∧ l2 x ≤ 400 := by unfold l2; omega
    have h5 : -l2 x ≤ (prec : Int) + 1 := by
      unfold fDig at hn
      by_cases hx : 0 ≤ x
      · have : 0 ≤ l2 x := by unfold l2; omega
        omega
      · rw [if_neg hx] at hn
        have := l2_neg x (by omega) (by omega)
        omega
    have h6 := VN_up 1 x (q := -l2 x) (p := (prec : Int) + 1) (by omega) h5
    omega
  · exact g

theorem fix_hi (M : Nat) (E k : Int) (n : Nat) (h0 : -1150 ≤ k) (h1 : k < 1150) (hhi : VN M E (-l2 k - 1) < 2 * VN 1 k (-l2 k - 1)) : VN M E (fixP k n) < 2 * VC * 10 ^ n := by
  have := size_hi M E k n 2 hhi (by omega) (by omega)
  rw [show -l2 k - 1 + (n : Int) = fixP k n by unfold fixP; omega] at this
  exact this

/-- Below the power of two that stands behind its highest place. -/
theorem below_two (M mb : Nat) (E x q : Int) (h : M < 2 ^ (mb + 1)) (hx : x = E + mb) (hE : -1200 ≤ E) : VN M E q < VN 1 (x + 1) q ∧ VN 1 (x + 1) q = 2 * VN 1 x q := by
  have e1 : VN (2 ^ (mb + 1)) E q = VN 1 (x + 1) q := by
    have := VN_two 1 (mb + 1) E q hE
    rw [Nat.one_mul] at this
    rw [this, hx, show E + ((mb + 1 : Nat) : Int) = E + mb + 1 by omega]
  have e2 : VN (2 ^ mb) E q = VN 1 x q := by
    have := VN_two 1 mb E q hE
    rw [Nat.one_mul] at this
    rw [this, hx]
  refine ⟨by rw [← e1]; exact VN_lt h E q, ?_⟩
  rw [← e1, Nat.pow_succ, VN_mul, e2]
theorem above_two (M mb : Nat) (E x q : Int) (h : 2 ^ mb ≤ M) (hx : x = E + mb) (hE : -1200 ≤ E) : VN 1 x q ≤ VN M E q := by
  have e2 : VN (2 ^ mb) E q = VN 1 x q := by
    have := VN_two 1 mb E q hE
    rw [Nat.one_mul] at this
    rw [this, hx]
  rw [← e2]
  exact VN_le h E q

theorem cutD_zero : cutD 0 = [] := by decide +kernel

end Go.Proofs.YthfjpofbaeeafaaDoor
