/-
  What is common to the laws on floats with a precision: sizes, the text's shape, what is read back, and that it is near.
-/
import Derived.Test.YthfjpofbaeeafaaDoorRL
import Derived.Test.YthfjpofbaeeafaaDoorEG
namespace Go.Proofs.YthfjpofbaeeafaaDoor
open Go.RowKit

theorem low_lt (wide : Bool) (bits : Nat) : fLow wide bits < 2 ^ 53 := by
  unfold fLow fFrac
  cases wide
  · simp only [Bool.false_eq_true, if_false]
    split <;> omega
  · simp only [if_true]
    split <;> omega
theorem pow_lt (wide : Bool) (bits : Nat) : -1074 ≤ fPow wide bits ∧ fPow wide bits ≤ 972 := by
  unfold fPow fExp
  cases wide
  · simp only [Bool.false_eq_true, if_false]
    split <;> omega
  · simp only [if_true]
    split <;> omega
theorem size_list (l : List UInt8) : (⟨l.toArray⟩ : ByteArray).size = l.length := by
  show l.toArray.size = _
  simp
theorem sgn_len (neg : Bool) : (sgn neg).length ≤ 1 := by cases neg <;> decide
theorem numText_sgn (neg : Bool) (a r : List UInt8) (ha : isD a) (h0 : 0 < a.length) : NumText (sgn neg ++ (a ++ r)) := by
  cases a with
  | nil => simp at h0
  | cons d ds =>
    have h := ha d (by simp)
    cases neg
    · exact .inl ⟨d, ds ++ r, rfl, h.1, by omega⟩
    · exact .inr ⟨d, ds ++ r, rfl, h.1, by omega⟩

/-- The rounded number. -/
def rnd (M : Nat) (E q : Int) : Nat := rh (VN M E q) VC
theorem rnd_zero (E q : Int) : rnd 0 E q = 0 := by
  unfold rnd VN
  rw [Nat.zero_mul, Nat.zero_mul]
  have := rh_le (a := 0) (N := 0) VC_pos (Nat.zero_le _)
  omega
theorem pt_zero (q : Int) : pt 0 q = 0 := if_pos rfl
theorem rTxt_eq (txt : Bool → List UInt8 → Int → List UInt8) (neg : Bool) (M : Nat) (E q : Int) : rTxt txt neg M E q = txt neg (cutD (rnd M E q)) (pt (rnd M E q) q) := by
  unfold rTxt
  by_cases h : M = 0
  · rw [if_pos h, h, rnd_zero, cutD_zero, pt_zero]
  · rw [if_neg h]; rfl
theorem rnd_near (M : Nat) (E q : Int) : 2 * VN M E q ≤ 2 * (rnd M E q * VC) + VC ∧ 2 * (rnd M E q * VC) ≤ 2 * VN M E q + VC := rh_near _ _ VC_pos
theorem rnd_up (M : Nat) (E K q : Int) (n : Nat) (hK : Dec M E K) (h0 : -900 ≤ K) (h1 : K ≤ 900) (hn : 1 ≤ n) (hq0 : -1000 ≤ q) (hq : q ≤ n - K) : rnd M E q ≤ 10 ^ n := by
  refine rh_le VC_pos ?_
  rw [Nat.mul_comm]
  exact Nat.le_trans (VN_up M E hq0 hq) (Nat.le_of_lt (dec_digits hK h0 h1 n hn).2)
theorem nDigits_le (n : Nat) : ∀ u, u < 10 ^ n → 1 ≤ n → Lib.nDigits u ≤ n := by
  induction n with
  | zero => intro u _ h; omega
  | succ n ih =>
    intro u hu _
    by_cases h : u < 10
    · rw [Lib.nDigits_small h]; omega
    · rw [Lib.nDigits_big h]
      have h1 : u / 10 < 10 ^ n := by rw [Nat.pow_succ] at hu; omega
      have hn : 1 ≤ n := by
        rcases Nat.eq_zero_or_pos n with h2 | h2
        · subst h2; simp at hu; omega
        · exact h2
      have := ih (u / 10) h1 hn
      omega
theorem nDigits_le' (n u : Nat) (h : u ≤ 10 ^ n) : Lib.nDigits u ≤ n + 1 :=
  nDigits_le (n + 1) u (Nat.lt_of_le_of_lt h (Nat.pow_lt_pow_right (by decide) (by omega))) (by omega)

/-- The parts of the text of the verb f. -/
def fA (R : Nat) (dp : Int) : List UInt8 := if 0 < dp then fill dp.toNat (cutD R) else [48]
def fB (R prec : Nat) (dp : Int) : List UInt8 := if prec = 0 then [] else fill prec (List.replicate (-dp).toNat 48 ++ (cutD R).drop dp.toNat)
theorem fText_eq (neg : Bool) (R prec : Nat) (dp : Int) : fText neg (cutD R) dp prec = sgn neg ++ (mantOf (fA R dp) (decide (prec ≠ 0)) (fB R prec dp) ++ []) := by
  unfold fText mantOf fA fB fracE
  by_cases h : prec = 0
  · simp [h]
  · simp [h]
theorem fA_isD (R : Nat) (dp : Int) : isD (fA R dp) := by
  unfold fA
  split
  · exact fill_isD (cutD_isD R) _
  · exact fun c hc => by rw [List.mem_singleton.1 hc]; decide
theorem fB_isD (R prec : Nat) (dp : Int) : isD (fB R prec dp) := by
  unfold fB
  split
  · exact isD_nil
  · exact fill_isD ((isD_zeros _).append ((cutD_isD R).drop _)) _
theorem fA_len (R : Nat) (dp : Int) : (fA R dp).length = if 0 < dp then dp.toNat else 1 := by
  unfold fA
  split
  · exact fill_length _ _
  · rfl
theorem fB_len (R prec : Nat) (dp : Int) : (fB R prec dp).length = prec := by
  unfold fB
  split
  · rename_i h; rw [h]; rfl
  · exact fill_length _ _
theorem fAB_val (R prec : Nat) : decVal (fA R (pt R prec) ++ fB R prec (pt R prec)) = R := by
  by_cases hR : R = 0
  · subst hR
    rw [pt_zero]
    unfold fA fB
    rw [if_neg (by decide), cutD_zero]
    split
    · rfl
    · show decVal ([48] ++ fill prec (List.replicate 0 48 ++ [])) = 0
      unfold fill
      rw [List.replicate_zero, List.nil_append, List.take_nil, List.nil_append]
      have := dv_zeros0 (prec + 1)
      rw [List.replicate_succ] at this
      rw [List.length_nil, Nat.sub_zero]
      exact this
  · have h := f_digits R prec (cutD R) rfl (pt R prec) (by unfold pt; rw [if_neg hR])
    unfold fA fB
    by_cases hp : prec = 0
    · rw [if_pos hp]
      subst hp
      have e : fill 0 (List.replicate (-(pt R ((0 : Nat) : Int))).toNat 48 ++ (cutD R).drop (pt R ((0 : Nat) : Int)).toNat) = [] := by
        unfold fill; simp
      rw [e] at h
      exact h
    · rw [if_neg hp]
      exact h

/-- What Decimal says of the text of the verb f, and that it is near. -/
theorem f_all (neg : Bool) (M : Nat) (E : Int) (prec : Nat) (hM : M < 2 ^ 53) (hE0 : -1074 ≤ E) (hE1 : E ≤ 972) (hp : prec ≤ 100) :
    ∃ (a fr : List UInt8), rTxt (fun neg ds dp => fText neg ds dp prec) neg M E prec = sgn neg ++ (mantOf a (decide (prec ≠ 0)) fr ++ []) ∧ isD a ∧ isD fr ∧ 0 < a.length ∧ a.length ≤ 400 ∧ fr.length = prec ∧
      nearB (decVal (a ++ fr) * 10 ^ (-(prec : Int)).toNat * 2 ^ (-E).toNat) (M * 2 ^ E.toNat * 10 ^ (-(-(prec : Int))).toNat) (10 ^ (-(prec : Int)).toNat * 2 ^ (-E).toNat) = true := by
  obtain ⟨R, hR⟩ : ∃ R, R = rnd M E prec := ⟨_, rfl⟩
  have hpt : pt R prec ≤ 322 := by
    by_cases h0 : M = 0
    · rw [hR, h0, rnd_zero, pt_zero]; decide
    · obtain ⟨K, hK, hK0, hK1⟩ := exists_dec M E (by omega) hM hE0 hE1
      have h1 := rnd_up M E K prec (prec + 320) hK (by omega) (by omega) (by omega) (by omega) (by omega)
      rw [← hR] at h1
      have h2 := nDigits_le' _ _ h1
      unfold pt
      split <;> omega
  refine ⟨fA R (pt R prec), fB R prec (pt R prec), ?_, fA_isD _ _, fB_isD _ _ _, ?_, ?_, fB_len _ _ _, ?_⟩
  · rw [rTxt_eq, ← hR]
    exact fText_eq neg R prec _
  · rw [fA_len]; split <;> omega
  · rw [fA_len]; split <;> omega
  · rw [fAB_val]
    obtain ⟨n1, n2⟩ := rnd_near M E prec
    rw [← hR] at n1 n2
    exact near_law R M E prec (-(prec : Int)) rfl (by omega) (by omega) n1 n2

end Go.Proofs.YthfjpofbaeeafaaDoor
