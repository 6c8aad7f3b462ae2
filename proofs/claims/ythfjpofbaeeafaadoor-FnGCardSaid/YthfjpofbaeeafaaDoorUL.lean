/-
  The plain law of uscale over the program's table, and of fixedWidthFloat: the number of n digits that is nearest.
-/
import Derived.Test.YthfjpofbaeeafaaDoorRn
import Derived.Lib.ItoaNum
namespace Go.Proofs.YthfjpofbaeeafaaDoor

def rowHi (i : Nat) : Nat := (Go.Pinned.pow10Rows.getD i (0, 0)).1
def rowLo (i : Nat) : Nat := (Go.Pinned.pow10Rows.getD i (0, 0)).2

set_option maxRecDepth 100000 in
theorem rows_len : Go.Pinned.pow10Rows.length = 696 := by decide +kernel

theorem row_at (i : Nat) (hi : i < 696) : rowHi i < 2 ^ 64 ∧ rowLo i < 2 ^ 64 ∧ 2 ^ 63 ≤ rowHi i ∧ tenN ((i : Int) - 348) 127 + rowLo i * tenD ((i : Int) - 348) ≤ rowHi i * 2 ^ 64 * tenD ((i : Int) - 348) ∧
    rowHi i * 2 ^ 64 * tenD ((i : Int) - 348) < tenN ((i : Int) - 348) 127 + (rowLo i + 1) * tenD ((i : Int) - 348) := by
  have hl : i < Go.Pinned.pow10Rows.length := by rw [rows_len]; exact hi
  have h := rowsOk_at _ 0 rows_ok i _ (List.getElem?_eq_getElem hl)
  rw [Nat.zero_add] at h
  have e : Go.Pinned.pow10Rows.getD i (0, 0) = Go.Pinned.pow10Rows[i] := by rw [List.getD_eq_getElem?_getD, List.getElem?_eq_getElem hl]; rfl
  unfold rowHi rowLo
  rw [e]
  exact h

theorem cross_pos (x P B C A L s : Nat) (h : A + s + L + 3 = B) : x * (10 ^ P * 2 ^ 127) * (2 ^ B * 10 ^ C) = 4 * (x * 2 ^ A * 10 ^ (P + C)) * (2 ^ L * 2 ^ 64 * (2 ^ 64 * 2 ^ s)) := by
  subst h
  rw [Nat.pow_add 10, Nat.pow_add 2 (A + s + L) 3, Nat.pow_add 2 (A + s) L, Nat.pow_add 2 A s]
  have e : (2 : Nat) ^ 127 * 2 ^ 3 = 4 * (2 ^ 64 * 2 ^ 64) := by decide
  generalize (2 : Nat) ^ 127 = u1 at e ⊢
  generalize (2 : Nat) ^ 3 = u2 at e ⊢
  generalize (2 : Nat) ^ 64 = u3 at e ⊢
  generalize 2 ^ A = a
  generalize 2 ^ s = b
  generalize 2 ^ L = l
  generalize 10 ^ P = p
  generalize 10 ^ C = c
  calc x * (p * u1) * (a * b * l * u2 * c) = (u1 * u2) * (x * p * a * b * l * c) := by ac_rfl
    _ = 4 * (u3 * u3) * (x * p * a * b * l * c) := by rw [e]
    _ = _ := by ac_rfl

theorem cross_neg (x P B C A l s : Nat) (h : A + s + 3 = B + l) : x * 2 ^ (127 + l) * (2 ^ B * 10 ^ (C + P)) = 4 * (x * 2 ^ A * 10 ^ C) * (10 ^ P * 2 ^ 64 * (2 ^ 64 * 2 ^ s)) := by
  have e0 : 2 ^ (127 + l) * 2 ^ B = 2 ^ 127 * (2 ^ A * 2 ^ s * 2 ^ 3) := by
    rw [← Nat.pow_add 2 A s, ← Nat.pow_add 2 (A + s) 3, ← Nat.pow_add, ← Nat.pow_add, show 127 + l + B = 127 + (A + s + 3) by omega]
  rw [Nat.pow_add 10]
  have e : (2 : Nat) ^ 127 * 2 ^ 3 = 4 * (2 ^ 64 * 2 ^ 64) := by decide
  generalize (2 : Nat) ^ (127 + l) = u0 at e0 ⊢
  generalize (2 : Nat) ^ B = ub at e0 ⊢
  generalize (2 : Nat) ^ 127 = u1 at e e0
  generalize (2 : Nat) ^ 3 = u2 at e e0
  generalize (2 : Nat) ^ 64 = u3 at e ⊢
  generalize 2 ^ A = a at e0 ⊢
  generalize 2 ^ s = b at e0 ⊢
  generalize 10 ^ P = p
  generalize 10 ^ C = c
  calc x * u0 * (ub * (c * p)) = (u0 * ub) * (x * c * p) := by ac_rfl
    _ = (u1 * u2) * (a * b * (x * c * p)) := by rw [e0]; ac_rfl
    _ = 4 * (u3 * u3) * (a * b * (x * c * p)) := by rw [e]
    _ = _ := by ac_rfl

theorem lp_pos (p : Int) (h : 0 ≤ p) : 0 ≤ lp10 p := by unfold lp10; omega
theorem lp_neg (p : Int) (h : p < 0) : lp10 p < 0 := by unfold lp10; omega

theorem usc_cross (x : Nat) (e p : Int) (s : Nat) (hp0 : -348 ≤ p) (he : -1200 ≤ e) (hs : (s : Int) = -(e + lp10 p + 3)) :
    x * tenN p 127 * VC = 4 * VN x e p * (tenD p * 2 ^ 64 * (2 ^ 64 * 2 ^ s)) := by
  unfold tenN tenD VC VN
  rw [Nat.one_mul]
  by_cases hp : 0 ≤ p
  · rw [if_pos hp, if_pos hp]
    have hl := lp_pos p hp
    rw [show (p + 1000).toNat = p.toNat + ((0 : Int) + 1000).toNat by omega]
    exact cross_pos x p.toNat _ _ (e + 1200).toNat (lp10 p).toNat s (by omega)
  · rw [if_neg hp, if_neg hp]
    have hl := lp_neg p (by omega)
    have h := cross_neg x (-p).toNat ((0 : Int) + 1200).toNat (p + 1000).toNat (e + 1200).toNat (-lp10 p).toNat s (by omega)
    rw [show (p + 1000).toNat + (-p).toNat = ((0 : Int) + 1000).toNat by omega] at h
    exact h

theorem usc_law (x : Nat) (e p : Int) (s : Nat) (hp0 : -348 ≤ p) (hp1 : p ≤ 347) (he : -1200 ≤ e) (hx0 : 0 < x) (hx : x < 2 ^ 64) (hs : (s : Int) = -(e + lp10 p + 3))
    (gap : ∀ F : Nat, x * tenN p 127 = F * (tenD p * 2 ^ 64 * (2 ^ 64 * 2 ^ s)) ∨ x * tenN p 127 + 2 * (tenD p * 2 ^ 64) ≤ F * (tenD p * 2 ^ 64 * (2 ^ 64 * 2 ^ s)) ∨ F * (tenD p * 2 ^ 64 * (2 ^ 64 * 2 ^ s)) + 2 * (tenD p * 2 ^ 64) ≤ x * tenN p 127) :
    uscN x (rowHi (p + 348).toNat) (rowLo (p + 348).toNat) s = unr (4 * VN x e p) VC := by
  have hr := row_at (p + 348).toNat (by omega)
  rw [show (((p + 348).toNat : Nat) : Int) - 348 = p by omega] at hr
  obtain ⟨_, h2, _, h4, h5⟩ := hr
  rw [usc_eq x _ _ s (tenN p 127) (tenD p) hx hx0 h2 (tenD_pos p) h4 h5 gap]
  exact unr_cross (usc_cross x e p s hp0 he hs) (Nat.mul_pos (Nat.mul_pos (tenD_pos p) (Nat.pow_pos (by decide))) (Nat.mul_pos (Nat.pow_pos (by decide)) (Nat.pow_pos (by decide)))) VC_pos

/-- The numbers that fixedWidthFloat scales. -/
theorem usc_a (y : Nat) (e p : Int) (s : Nat) (hp0 : -348 ≤ p) (hp1 : p ≤ 347) (he : -1200 ≤ e) (hy0 : 0 < y) (hy : y < 2 ^ 53) (hs : (s : Int) = -(e + lp10 p + 3)) (hs1 : 1 ≤ s) :
    uscN (y * 2 ^ 11) (rowHi (p + 348).toNat) (rowLo (p + 348).toNat) s = unr (4 * VN (y * 2 ^ 11) e p) VC := by
  refine usc_law (y * 2 ^ 11) e p s hp0 hp1 he (by omega) (by omega) hs fun F => ?_
  have h := gap_a (p + 348).toNat y s (by omega) hy0 hy hs1 F
  rw [show (((p + 348).toNat : Nat) : Int) - 348 = p by omega] at h
  exact h
/-- The numbers that shortFloat scales. -/
theorem usc_b (y : Nat) (e p : Int) (s : Nat) (hp0 : -348 ≤ p) (hp1 : p ≤ 347) (he : -1200 ≤ e) (hy0 : 0 < y) (hy : y < 2 ^ 55) (hs : (s : Int) = -(e + lp10 p + 3)) (hs1 : 5 ≤ s) :
    uscN (y * 2 ^ 9) (rowHi (p + 348).toNat) (rowLo (p + 348).toNat) s = unr (4 * VN (y * 2 ^ 9) e p) VC := by
  refine usc_law (y * 2 ^ 9) e p s hp0 hp1 he (by omega) (by omega) hs fun F => ?_
  have h := gap_b (p + 348).toNat y s (by omega) hy0 hy hs1 F
  rw [show (((p + 348).toNat : Nat) : Int) - 348 = p by omega] at h
  exact h

/-! ### sizes -/
theorem VN_one (k q : Int) (x z : Nat) (hz : x = 2 ^ z) (e : Int) (hk : k = e + z) (he : -1200 ≤ e) : VN x e q = VN 1 k q := by
  have := VN_two 1 z e q he
  rw [Nat.one_mul] at this
  rw [hz, this, hk]

/-- A number whose highest bit is 2 to the k, times a power of ten that makes n digits of it. -/
theorem size_lo (x : Nat) (e k : Int) (n : Nat) (hx : VN 1 k (-l2 k) ≤ VN x e (-l2 k)) (h0 : -1200 ≤ k) (h1 : k < 1200) : VC * 10 ^ n ≤ VN x e (-l2 k + n) := by
  have hl : -1000 ≤ -l2 k := by unfold l2; omega
  rw [VN_ten _ _ _ _ hl]
  exact Nat.mul_le_mul_right _ (Nat.le_trans (l2_at k h0 h1).1 hx)
theorem size_hi (x : Nat) (e k : Int) (n : Nat) (c : Nat) (hx : VN x e (-l2 k - 1) < c * VN 1 k (-l2 k - 1)) (h0 : -1200 ≤ k) (h1 : k < 1200) : VN x e (-l2 k - 1 + n) < c * VC * 10 ^ n := by
  have hl : -1000 ≤ -l2 k - 1 := by unfold l2; omega
  rw [VN_ten _ _ _ _ hl]
  exact Nat.mul_lt_mul_of_pos_right (Nat.lt_of_lt_of_le hx (Nat.mul_le_mul_left _ (Nat.le_of_lt (l2_at k h0 h1).2))) (Nat.pow_pos (by decide))

/-! ### digits without the noughts at their end -/
def strip (l : List UInt8) : List UInt8 := (l.reverse.dropWhile (· == 48)).reverse
theorem strip_snoc_zero (l : List UInt8) : strip (l ++ [48]) = strip l := by
  unfold strip
  rw [List.reverse_append, List.reverse_singleton, List.singleton_append, List.dropWhile_cons_of_pos (by decide)]
theorem strip_snoc (l : List UInt8) (c : UInt8) (h : c ≠ 48) : strip (l ++ [c]) = l ++ [c] := by
  unfold strip
  rw [List.reverse_append, List.reverse_singleton, List.singleton_append, List.dropWhile_cons_of_neg (by simpa using h)]
  simp
theorem strip_nil : strip [] = [] := rfl

/-- A number's digits without the noughts at their end. -/
def cutD (d : Nat) : List UInt8 := strip (Lib.decDigits d)
theorem cutD_ten (d : Nat) (h : 0 < d) : cutD (d * 10) = cutD d := by
  unfold cutD
  have e : Lib.decDigits (d * 10) = Lib.decDigits d ++ [48] := by
    rw [Lib.decDigits, dif_neg (by omega), show d * 10 / 10 = d by omega, show d * 10 % 10 = 0 by omega]
    rfl
  rw [e, strip_snoc_zero]
theorem nDigits_ten (d : Nat) (h : 0 < d) : Lib.nDigits (d * 10) = Lib.nDigits d + 1 := by
  rw [Lib.nDigits_big (by omega), show d * 10 / 10 = d by omega]

/-- Where the point stands: behind so many digits; 0 for 0. -/
def pt (d : Nat) (q : Int) : Int := if d = 0 then 0 else (Lib.nDigits d : Int) - q

/-! ### fixedWidthFloat -/
/-- What it reckons with n digits: the number and the power of ten taken. -/
def fixP (k : Int) (n : Nat) : Int := (n : Int) - 1 - l2 k
def fixU (M : Nat) (E k : Int) (n : Nat) : Bool := decide (10 ^ n * 4 - 2 ≤ unr (4 * VN M E (fixP k n)) VC)
def fixQ (M : Nat) (E k : Int) (n : Nat) : Int := if fixU M E k n then fixP k n - 1 else fixP k n

theorem dec_digits {M : Nat} {E K : Int} (h : Dec M E K) (hK0 : -900 ≤ K) (hK1 : K ≤ 900) (n : Nat) (hn : 1 ≤ n) : VC * 10 ^ (n - 1) ≤ VN M E (n - K) ∧ VN M E (n - K) < VC * 10 ^ n := by
  obtain ⟨h1, h2⟩ := h
  constructor
  · have e := VN_ten M E (1 - K) (n - 1) (by omega)
    rw [show 1 - K + ((n - 1 : Nat) : Int) = n - K by omega] at e
    rw [e]
    exact Nat.mul_le_mul_right _ h1
  · have e := VN_ten M E (-K) n (by omega)
    rw [show -K + (n : Int) = n - K by omega] at e
    rw [e]
    exact Nat.mul_lt_mul_of_pos_right h2 (Nat.pow_pos (by decide))

theorem pow10_succ (n : Nat) (hn : 1 ≤ n) : 10 ^ n = 10 ^ (n - 1) * 10 := by
  rw [← Nat.pow_succ]; congr 1; omega

/-- For e and g: n digits. -/
theorem fix_law (M : Nat) (E k K : Int) (n : Nat) (hn : 1 ≤ n) (hn18 : n ≤ 18) (hK : Dec M E K) (hK0 : -900 ≤ K) (hK1 : K ≤ 900) (h0 : -1150 ≤ k) (h1 : k < 1150)
    (hlo : VN 1 k (-l2 k) ≤ VN M E (-l2 k)) (hhi : VN M E (-l2 k - 1) < 2 * VN 1 k (-l2 k - 1)) :
    0 < rh (VN M E (fixQ M E k n)) VC ∧ rh (VN M E (fixQ M E k n)) VC ≤ 10 ^ n ∧
    cutD (rh (VN M E (fixQ M E k n)) VC) = cutD (rh (VN M E (n - K)) VC) ∧
    pt (rh (VN M E (fixQ M E k n)) VC) (fixQ M E k n) = pt (rh (VN M E (n - K)) VC) (n - K) := by
  obtain ⟨d1, d2⟩ := dec_digits hK hK0 hK1 n hn
  have s1 := size_lo M E k (n - 1) hlo (by omega) (by omega)
  have s2 := size_hi M E k n 2 hhi (by omega) (by omega)
  have hp := VC_pos
  have ht := pow10_succ n hn
  have htp : 0 < 10 ^ (n - 1) := Nat.pow_pos (by decide)
  obtain ⟨T, hT⟩ : ∃ T, T = 10 ^ (n - 1) := ⟨_, rfl⟩
  rw [← hT] at ht htp d1 s1
  rw [ht] at d2 s2
  have eP : fixP k n = -l2 k + ((n - 1 : Nat) : Int) := by unfold fixP; omega
  have eP' : -l2 k - 1 + (n : Int) = fixP k n := by unfold fixP; omega
  rw [← eP] at s1
  rw [eP'] at s2
  have hPr : -600 ≤ fixP k n ∧ fixP k n ≤ 600 := by unfold fixP l2; omega
  obtain ⟨p, hpp⟩ : ∃ p, p = fixP k n := ⟨_, rfl⟩
  rw [← hpp] at s1 s2 hPr
  obtain ⟨q, hq⟩ : ∃ q, q = (n : Int) - K := ⟨_, rfl⟩
  rw [← hq] at d1 d2 ⊢
  have hqr : -1000 ≤ q ∧ q ≤ 1000 := by omega
  obtain ⟨C, hC⟩ : ∃ C, C = VC := ⟨_, rfl⟩
  rw [← hC] at hp d1 d2 s1 s2
  have comm : C * T = T * C := Nat.mul_comm _ _
  -- p is q or q + 1
  have hpq : p = q ∨ p = q + 1 := by
    rcases Int.lt_trichotomy p q with hlt | heq | hgt
    · exfalso
      have e := VN_ten M E p (q - p - 1).toNat (by omega)
      have e2 := VN_ten M E (p + (q - p - 1).toNat) 1 (by omega)
      rw [show p + ((q - p - 1).toNat : Int) + ((1 : Nat) : Int) = q by omega, e] at e2
      have hz : 1 ≤ 10 ^ (q - p - 1).toNat := Nat.pow_pos (by decide)
      have h3 := Nat.mul_le_mul_left (VN M E p) hz
      rw [Nat.mul_one] at h3
      have h4 : C * (T * 10) = C * T * 10 := by rw [Nat.mul_assoc]
      omega
    · exact Or.inl heq
    · right
      rcases Int.lt_or_le (q + 1) p with hlt | hle
      · exfalso
        have e := VN_ten M E q (p - q - 2).toNat (by omega)
        have e2 := VN_ten M E (q + (p - q - 2).toNat) 2 (by omega)
        rw [show q + ((p - q - 2).toNat : Int) + ((2 : Nat) : Int) = p by omega, e] at e2
        have hz : 1 ≤ 10 ^ (p - q - 2).toNat := Nat.pow_pos (by decide)
        have h3 := Nat.mul_le_mul_left (VN M E q) hz
        rw [Nat.mul_one] at h3
        have h4 : 2 * C * (T * 10) = C * T * 20 := by
          rw [show (20 : Nat) = 2 * 10 from rfl]; ac_rfl
        have h5 : (10 : Nat) ^ 2 = 100 := by decide
        rw [h5] at e2
        omega
      · omega
  have thr := unr_thr (N := VN M E p) hp (show 0 < 10 ^ n from Nat.pow_pos (by decide))
  have fu : fixU M E k n = decide ((2 * 10 ^ n - 1) * C ≤ 2 * VN M E p) := by
    unfold fixU
    rw [← hpp, ← hC]
    simp only [thr]
  have hTC : T ≤ T * C := Nat.le_mul_of_pos_right _ hp
  rcases hpq with e | e
  · subst e
    by_cases hu : (2 * 10 ^ n - 1) * C ≤ 2 * VN M E p
    · -- ten to the n
      have hQ : fixQ M E k n = p - 1 := by unfold fixQ; rw [fu, decide_eq_true hu, if_pos rfl, ← hpp]
      have em := VN_ten M E (p - 1) 1 (by omega)
      rw [show p - 1 + ((1 : Nat) : Int) = p by omega, Nat.pow_one] at em
      rw [ht] at hu
      have hu2 : (2 * (T * 10) - 1) * C + C = 20 * (T * C) := by
        have h1 : (2 * (T * 10) - 1) * C + 1 * C = (2 * (T * 10) - 1 + 1) * C := (Nat.add_mul _ _ _).symm
        rw [Nat.one_mul] at h1
        rw [h1, show 2 * (T * 10) - 1 + 1 = 20 * T by omega, Nat.mul_assoc]
      have hCT : C * (T * 10) = T * C * 10 := by ac_rfl
      have r1 : rh (VN M E p) C = T * 10 := by
        have h3 : VN M E p = (T * 10 - 1) * C + (VN M E p - (T * 10 - 1) * C) := by
          have : (T * 10 - 1) * C + C = T * C * 10 := by
            have h1 : (T * 10 - 1) * C + 1 * C = (T * 10 - 1 + 1) * C := (Nat.add_mul _ _ _).symm
            rw [Nat.one_mul] at h1
            rw [h1, show T * 10 - 1 + 1 = T * 10 by omega]; ac_rfl
          omega
        have h4 : (T * 10 - 1) * C + C = T * C * 10 := by
          have h1 : (T * 10 - 1) * C + 1 * C = (T * 10 - 1 + 1) * C := (Nat.add_mul _ _ _).symm
          rw [Nat.one_mul] at h1
          rw [h1, show T * 10 - 1 + 1 = T * 10 by omega]; ac_rfl
        rw [rh_form h3 (by omega), if_neg (by omega)]
        split
        · omega
        · omega
      have r2 : rh (VN M E (p - 1)) C = T := by
        have h4 : (T - 1) * C + C = T * C := by
          have h1 : (T - 1) * C + 1 * C = (T - 1 + 1) * C := (Nat.add_mul _ _ _).symm
          rw [Nat.one_mul] at h1
          rw [h1, show T - 1 + 1 = T by omega]
        have h3 : VN M E (p - 1) = (T - 1) * C + (VN M E (p - 1) - (T - 1) * C) := by omega
        rw [rh_form h3 (by omega), if_neg (by omega), if_pos (by omega)]
        omega
      rw [hQ, ← hC, r1, r2, ht, cutD_ten T htp]
      refine ⟨htp, by omega, rfl, ?_⟩
      unfold pt
      rw [if_neg (by omega), if_neg (by omega), nDigits_ten T htp]
      omega
    · have hQ : fixQ M E k n = p := by unfold fixQ; rw [fu, decide_eq_false hu, if_neg (by decide), ← hpp]
      rw [hQ, ← hC, ht]
      exact ⟨Nat.lt_of_lt_of_le htp (rh_ge hp (by omega)), rh_le hp (by rw [show T * 10 * C = C * (T * 10) by ac_rfl]; omega), rfl, rfl⟩
  · subst e
    have hu : (2 * 10 ^ n - 1) * C ≤ 2 * VN M E (q + 1) := by
      have em := VN_ten M E q 1 (by omega)
      rw [Nat.pow_one] at em
      have em' : VN M E (q + 1) = VN M E q * 10 := em
      rw [em', ht]
      have h1 : (2 * (T * 10) - 1) * C + 1 * C = (2 * (T * 10) - 1 + 1) * C := (Nat.add_mul _ _ _).symm
      rw [Nat.one_mul, show 2 * (T * 10) - 1 + 1 = 20 * T by omega, Nat.mul_assoc] at h1
      omega
    have hQ : fixQ M E k n = q := by unfold fixQ; rw [fu, decide_eq_true hu, if_pos rfl, ← hpp]; omega
    rw [hQ, ← hC, ht]
    exact ⟨Nat.lt_of_lt_of_le htp (rh_ge hp (by omega)), rh_le hp (by rw [show T * 10 * C = C * (T * 10) by ac_rfl]; omega), rfl, rfl⟩

end Go.Proofs.YthfjpofbaeeafaaDoor
