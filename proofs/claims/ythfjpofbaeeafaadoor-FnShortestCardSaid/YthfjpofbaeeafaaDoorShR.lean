/-
  The shortest decimal: what shRes is, and the fields.
-/
import Derived.Test.YthfjpofbaeeafaaDoorSF
namespace Go.Proofs.YthfjpofbaeeafaaDoor

/-- In the interval. -/
def shIn (L : Nat) (P : Int) (edge : Bool) (D : Nat) : Prop :=
  dMin (VN (4 * L - shE edge) (P - 2) (shP P edge)) VC (L % 2) ≤ D ∧ D ≤ dMax (VN (4 * L + 2) (P - 2) (shP P edge)) VC (L % 2)

theorem VN_smul (x : Nat) (e q : Int) : VN x e q = x * VN 1 e q := by
  have := VN_mul 1 x e q
  rw [Nat.one_mul] at this
  exact this

theorem shRes_law (L : Nat) (P : Int) (edge : Bool) (hL1 : 1 ≤ L) (hL2 : L < 2 ^ 53) (h0 : -1100 ≤ P) (h1 : P < 1100) (hod : edge = true → L % 2 = 0) :
    shIn L P edge ((shRes L P edge).1 * 10 ^ (shRes L P edge).2) ∧ (shRes L P edge).2 ≤ 1 ∧ 1 ≤ (shRes L P edge).1 ∧ (shRes L P edge).1 * 10 ^ (shRes L P edge).2 < 10 ^ 18 ∧
      ∀ y, shIn L P edge (10 * y) → (shRes L P edge).2 = 1 ∧ y = (shRes L P edge).1 := by
  obtain ⟨w1, w2⟩ := sh_width P edge h0 h1
  have hep : shE edge = 2 ∨ shE edge = 1 ∧ L % 2 = 0 := by
    cases edge
    · exact Or.inl rfl
    · exact Or.inr ⟨rfl, hod rfl⟩
  have hV : VN L P (shP P edge) = 4 * L * VN 1 (P - 2) (shP P edge) := by
    have := VN_two L 2 (P - 2) (shP P edge) (by omega)
    rw [show P - 2 + ((2 : Nat) : Int) = P by omega, VN_smul] at this
    rw [← this, Nat.mul_comm L]
  have hlaw := short_law L (VN 1 (P - 2) (shP P edge)) VC (shE edge) (L % 2) VC_pos hL1 hep (by omega) w1 w2 _ _ _ (VN_smul (4 * L - shE edge) _ _) (VN_smul (4 * L + 2) _ _) hV
  obtain ⟨⟨a1, a2⟩, a3, a4, a5⟩ := hlaw
  refine ⟨⟨a1, a2⟩, a3, a4, ?_, fun y hy => a5 y hy.1 hy.2⟩
  have hu : VN 1 (P - 2) (shP P edge) < 4 * VC := by
    have : 3 * VN 1 (P - 2) (shP P edge) ≤ (2 + shE edge) * VN 1 (P - 2) (shP P edge) := Nat.mul_le_mul_right _ (by omega)
    omega
  have hu0 : 0 < VN 1 (P - 2) (shP P edge) := VN_pos (by decide) _ _
  have hB0 : 0 < VN (4 * L + 2) (P - 2) (shP P edge) := VN_pos (by omega) _ _
  have b1 := (dMax_iff (od := L % 2) VC_pos (by omega) hB0).1 a2
  have b2 : (shRes L P edge).1 * 10 ^ (shRes L P edge).2 * VC ≤ VN (4 * L + 2) (P - 2) (shP P edge) := by
    have e : shD (VN (4 * L - shE edge) (P - 2) (shP P edge)) (VN (4 * L + 2) (P - 2) (shP P edge)) (VN L P (shP P edge)) VC (L % 2) = shRes L P edge := rfl
    rw [e] at b1
    split at b1 <;> omega
  have b3 : VN (4 * L + 2) (P - 2) (shP P edge) < 10 ^ 18 * VC := by
    rw [VN_smul]
    have c1 := Nat.mul_lt_mul_of_pos_left hu (show 0 < 4 * L + 2 by omega)
    have c2 := Nat.mul_le_mul_right (4 * VC) (show 4 * L + 2 ≤ 2 ^ 56 by omega)
    have c3 : 2 ^ 56 * (4 * VC) ≤ 10 ^ 18 * VC := by rw [← Nat.mul_assoc]; exact Nat.mul_le_mul_right _ (by decide)
    omega
  exact Nat.lt_of_mul_lt_mul_right (Nat.lt_of_le_of_lt b2 b3)

theorem shP_range (P : Int) (edge : Bool) (h0 : -1100 ≤ P) (h1 : P < 1100) : -348 ≤ shP P edge ∧ shP P edge ≤ 348 := by
  unfold shP l2 sk
  cases edge
  · simp only [Bool.false_eq_true, if_false]; omega
  · simp only [if_true]; omega

theorem z_fields (wide : Bool) (bits z : Nat) (h1 : 2 ^ 63 ≤ fLow wide bits * 2 ^ z) (h2 : fLow wide bits * 2 ^ z < 2 ^ 64) :
    (z = (if wide then 11 else 40) ∨ (if wide then 11 else 40) < z ∧ fPow wide bits = if wide then -1074 else -149) ∧
      fEdge wide bits = (decide (fLow wide bits * 2 ^ z = 9223372036854775808) && decide ((if wide then -1085 else -189) < fPow wide bits - z)) := by
  have hfr : fFrac wide bits < if wide then 2 ^ 52 else 2 ^ 23 := by cases wide <;> simp [fFrac] <;> omega
  by_cases hE : fExp wide bits = 0
  · have hlow : fLow wide bits = fFrac wide bits := by unfold fLow; rw [if_pos hE]
    have hpow : fPow wide bits = if wide then -1074 else -149 := by unfold fPow; rw [if_pos hE]
    have hedge : fEdge wide bits = false := by unfold fEdge; rw [hE]; simp
    rw [hlow] at h1 h2 ⊢
    have hz : (if wide then 11 else 40) < z := by
      refine Decidable.byContradiction fun hn => ?_
      have hz2 := Nat.pow_le_pow_right (n := 2) (by decide) (Nat.le_of_not_lt hn)
      have h3 := Nat.mul_le_mul_left (fFrac wide bits) hz2
      cases wide
      · simp only [Bool.false_eq_true, if_false] at hfr h3
        have h4 := Nat.mul_lt_mul_of_pos_right hfr (show 0 < 2 ^ 40 by decide)
        omega
      · simp only [if_true] at hfr h3
        have h4 := Nat.mul_lt_mul_of_pos_right hfr (show 0 < 2 ^ 11 by decide)
        omega
    refine ⟨Or.inr ⟨hz, hpow⟩, ?_⟩
    rw [hedge, hpow]
    have : decide ((if wide then (-1085 : Int) else -189) < (if wide then -1074 else -149) - (z : Int)) = false := by
      refine decide_eq_false ?_
      cases wide
      · simp only [Bool.false_eq_true, if_false] at hz ⊢; omega
      · simp only [if_true] at hz ⊢; omega
    rw [this, Bool.and_false]
  · have hlow : fLow wide bits = fFrac wide bits + (if wide then 4503599627370496 else 8388608) := by unfold fLow; rw [if_neg hE]
    have hpow : fPow wide bits = (fExp wide bits : Int) - (if wide then 1075 else 150) := by unfold fPow; rw [if_neg hE]
    rw [hlow] at h1 h2 ⊢
    obtain ⟨f, hf⟩ : ∃ f, f = fFrac wide bits := ⟨_, rfl⟩
    rw [← hf] at h1 h2 hfr ⊢
    have hz : z = (if wide then 11 else 40) := by
      rcases Nat.lt_trichotomy z (if wide then 11 else 40) with hl | he | hg
      · exfalso
        have hz2 := Nat.pow_le_pow_right (n := 2) (by decide) (Nat.le_sub_one_of_lt hl)
        have h3 := Nat.mul_le_mul_left (f + (if wide then 4503599627370496 else 8388608)) hz2
        cases wide
        · simp only [Bool.false_eq_true, if_false] at hfr h3 h1
          omega
        · simp only [if_true] at hfr h3 h1
          omega
      · exact he
      · exfalso
        have hz2 := Nat.pow_le_pow_right (n := 2) (by decide) (Nat.succ_le_of_lt hg)
        have h3 := Nat.mul_le_mul_left (f + (if wide then 4503599627370496 else 8388608)) hz2
        cases wide
        · simp only [Bool.false_eq_true, if_false] at hfr h3 h2
          omega
        · simp only [if_true] at hfr h3 h2
          omega
    refine ⟨Or.inl hz, ?_⟩
    rw [hz, hpow]
    unfold fEdge
    rw [← hf]
    cases wide
    · simp only [Bool.false_eq_true, if_false]
      have e1 : decide ((f + 8388608) * 2 ^ 40 = 9223372036854775808) = decide (f = 0) := decide_eq_decide.2 (by omega)
      have e2 : decide ((-189 : Int) < (fExp false bits : Int) - 150 - ((40 : Nat) : Int)) = decide (1 < fExp false bits) := decide_eq_decide.2 (by omega)
      rw [e1, e2]
    · simp only [if_true]
      have e1 : decide ((f + 4503599627370496) * 2 ^ 11 = 9223372036854775808) = decide (f = 0) := decide_eq_decide.2 (by omega)
      have e2 : decide ((-1085 : Int) < (fExp true bits : Int) - 1075 - ((11 : Nat) : Int)) = decide (1 < fExp true bits) := decide_eq_decide.2 (by omega)
      rw [e1, e2]

theorem edge_even (wide : Bool) (bits : Nat) (h : fEdge wide bits = true) : fLow wide bits % 2 = 0 := by
  unfold fEdge at h
  simp only [Bool.and_eq_true, decide_eq_true_eq] at h
  unfold fLow
  rw [if_neg (by omega), h.1]
  cases wide <;> rfl

end Go.Proofs.YthfjpofbaeeafaaDoor
