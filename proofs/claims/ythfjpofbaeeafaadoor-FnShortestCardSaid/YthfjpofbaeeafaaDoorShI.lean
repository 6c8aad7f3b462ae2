/-
  What Identifies answers, and the interval of the shortest decimal: the same.
-/
import Derived.Test.YthfjpofbaeeafaaDoorShR
namespace Go.Proofs.YthfjpofbaeeafaaDoor

/-- Identifies, for the numbers that sides makes. -/
def identB (lo : Nat) (edge : Bool) (D B G : Nat) : Bool :=
  if lo % 2 = 0 then !decide (G < if edge && decide (D < B) then ((D - B + (B - D)) * 2 + 0) * 2 + 0 else (D - B + (B - D)) * 2 + 0)
  else decide ((if edge && decide (D < B) then ((D - B + (B - D)) * 2 + 0) * 2 + 0 else (D - B + (B - D)) * 2 + 0) < G)

theorem identB_scale (lo : Nat) (edge : Bool) (D B G s : Nat) (hs : 0 < s) : identB lo edge (D * s) (B * s) (G * s) = identB lo edge D B G := by
  unfold identB
  have e1 : (D * s - B * s + (B * s - D * s)) * 2 + 0 = ((D - B + (B - D)) * 2 + 0) * s := by
    rw [← Nat.sub_mul, ← Nat.sub_mul, ← Nat.add_mul, Nat.add_zero, Nat.add_zero, Nat.mul_right_comm]
  have e2 : ((D - B + (B - D)) * 2 + 0) * s * 2 + 0 = (((D - B + (B - D)) * 2 + 0) * 2 + 0) * s := by
    simp only [Nat.add_zero]
    rw [Nat.mul_right_comm _ s 2]
  rw [e1, e2]
  have lt : ∀ x y : Nat, decide (x * s < y * s) = decide (x < y) := fun x y => decide_eq_decide.2 (Nat.mul_lt_mul_right hs)
  rw [lt D B]
  cases (edge && decide (D < B))
  · simp only [Bool.false_eq_true, if_false, lt]
  · simp only [if_true, lt]

theorem ident_core (lo : Nat) (edge : Bool) (N u : Nat) (hlo : 1 ≤ lo) : identB lo edge N (4 * (lo * u)) (4 * u) = true ↔
    (if lo % 2 = 0 then (4 * lo - shE edge) * u ≤ N else (4 * lo - shE edge) * u < N) ∧ (if lo % 2 = 0 then N ≤ (4 * lo + 2) * u else N < (4 * lo + 2) * u) := by
  have a1 : (4 * lo + 2) * u = 4 * (lo * u) + 2 * u := by rw [Nat.add_mul, Nat.mul_assoc]
  have a2 : (4 * lo - shE edge) * u = 4 * (lo * u) - shE edge * u := by rw [Nat.sub_mul, Nat.mul_assoc]
  have a3 : u ≤ lo * u := Nat.le_mul_of_pos_left u hlo
  rw [a1, a2]
  generalize lo * u = z at *
  unfold identB shE
  cases edge
  · simp only [Bool.false_and, Bool.false_eq_true, if_false]
    by_cases ho : lo % 2 = 0
    · simp only [ho, if_true, Bool.not_eq_true', decide_eq_false_iff_not]
      omega
    · simp only [ho, if_false, decide_eq_true_eq]
      omega
  · simp only [Bool.true_and, if_true]
    by_cases hl : N < 4 * z
    · simp only [hl, decide_true, if_true]
      by_cases ho : lo % 2 = 0
      · simp only [ho, if_true, Bool.not_eq_true', decide_eq_false_iff_not]
        omega
      · simp only [ho, if_false, decide_eq_true_eq]
        omega
    · simp only [hl, decide_false, Bool.false_eq_true, if_false]
      by_cases ho : lo % 2 = 0
      · simp only [ho, if_true, Bool.not_eq_true', decide_eq_false_iff_not]
        omega
      · simp only [ho, if_false, decide_eq_true_eq]
        omega

/-- A decimal number identifies just when it lies in the interval. -/
theorem ident_law (n L : Nat) (P pw : Int) (edge : Bool) (j : Nat) (hpw : pw = j - shP P edge) (hj : j ≤ 500) (hL : 1 ≤ L) (h0 : -1100 ≤ P) (h1 : P < 1100) :
    identB L edge (n * 10 ^ pw.toNat * 2 ^ (-P).toNat) (L * 2 ^ P.toNat * 10 ^ (-pw).toNat) (2 ^ P.toNat * 10 ^ (-pw).toNat) = true ↔ shIn L P edge (n * 10 ^ j) := by
  obtain ⟨r1, r2⟩ := shP_range P edge h0 h1
  obtain ⟨p, hp⟩ : ∃ p, p = shP P edge := ⟨_, rfl⟩
  obtain ⟨q, hq⟩ : ∃ q, q = -pw := ⟨_, rfl⟩
  obtain ⟨u, hu⟩ : ∃ u, u = VN 1 (P - 2) p := ⟨_, rfl⟩
  have hC := VC_pos
  have hu0 : 0 < u := by rw [hu]; exact VN_pos (by decide) _ _
  have hsh : shIn L P edge (n * 10 ^ j) ↔ (if L % 2 = 0 then (4 * L - shE edge) * u ≤ n * 10 ^ j * VC else (4 * L - shE edge) * u < n * 10 ^ j * VC) ∧ (if L % 2 = 0 then n * 10 ^ j * VC ≤ (4 * L + 2) * u else n * 10 ^ j * VC < (4 * L + 2) * u) := by
    unfold shIn
    rw [dMin_iff hC (by omega), dMax_iff hC (by omega) (VN_pos (by omega) _ _), VN_smul (4 * L - shE edge), VN_smul (4 * L + 2), ← hp, ← hu]
  rw [hsh, ← ident_core L edge (n * 10 ^ j * VC) u hL]
  -- the scale
  have hv : VN 1 P q * 10 ^ j = 4 * u := by
    have e1 := VN_ten 1 P q j (by omega)
    rw [show q + (j : Int) = p by omega] at e1
    have e2 := VN_half 1 (P - 2) p 2 (by omega)
    rw [show P - 2 + ((2 : Nat) : Int) = P by omega] at e2
    rw [← e1, e2, ← hu]
    exact Nat.mul_comm _ _
  have hg : VN 1 P q * (10 ^ pw.toNat * 2 ^ (-P).toNat) = 2 ^ P.toNat * 10 ^ (-pw).toNat * VC := by
    unfold VC VN
    obtain ⟨a, ha⟩ : ∃ a, a = pw.toNat := ⟨_, rfl⟩
    obtain ⟨b, hb⟩ : ∃ b, b = (-P).toNat := ⟨_, rfl⟩
    obtain ⟨c, hc⟩ : ∃ c, c = P.toNat := ⟨_, rfl⟩
    obtain ⟨d, hd⟩ : ∃ d, d = (-pw).toNat := ⟨_, rfl⟩
    obtain ⟨y, hy⟩ : ∃ y, y = ((0 : Int) + 1200).toNat := ⟨_, rfl⟩
    obtain ⟨z, hz⟩ : ∃ z, z = ((0 : Int) + 1000).toNat := ⟨_, rfl⟩
    rw [← ha, ← hb, ← hc, ← hd, ← hy, ← hz]
    have x1 : 2 ^ (P + 1200).toNat * 2 ^ b = 2 ^ c * 2 ^ y := by rw [← Nat.pow_add, ← Nat.pow_add]; congr 1; omega
    have x2 : 10 ^ (q + 1000).toNat * 10 ^ a = 10 ^ d * 10 ^ z := by rw [← Nat.pow_add, ← Nat.pow_add]; congr 1; omega
    clear hy hz hv hu hsh
    generalize 2 ^ y = Y at *
    generalize 10 ^ z = Z at *
    calc 1 * 2 ^ (P + 1200).toNat * 10 ^ (q + 1000).toNat * (10 ^ a * 2 ^ b) = 1 * (2 ^ (P + 1200).toNat * 2 ^ b) * (10 ^ (q + 1000).toNat * 10 ^ a) := by ac_rfl
      _ = 1 * (2 ^ c * Y) * (10 ^ d * Z) := by rw [x1, x2]
      _ = 2 ^ c * 10 ^ d * (1 * Y * Z) := by rw [Nat.one_mul, Nat.one_mul]; ac_rfl
  obtain ⟨U, hU⟩ : ∃ U, U = 10 ^ pw.toNat * 2 ^ (-P).toNat := ⟨_, rfl⟩
  obtain ⟨G, hG⟩ : ∃ G, G = 2 ^ P.toNat * 10 ^ (-pw).toNat := ⟨_, rfl⟩
  have hU0 : 0 < U := by rw [hU]; exact Nat.mul_pos (Nat.pow_pos (by decide)) (Nat.pow_pos (by decide))
  have eD : n * 10 ^ pw.toNat * 2 ^ (-P).toNat = n * U := by rw [Nat.mul_assoc, ← hU]
  have eB : L * 2 ^ P.toNat * 10 ^ (-pw).toNat = L * G := by rw [Nat.mul_assoc, ← hG]
  rw [eD, eB, ← hG]
  rw [← hU, ← hG] at hg
  have hT : 0 < 10 ^ j := Nat.pow_pos (by decide)
  clear hU hG eD eB hsh hu hp hpw
  generalize 10 ^ j = T at *
  generalize VC = C at *
  generalize VN 1 P q = v at *
  rw [← identB_scale L edge (n * U) (L * G) G (C * T) (Nat.mul_pos hC hT), ← identB_scale L edge (n * T * C) (4 * (L * u)) (4 * u) U hU0]
  have s1 : n * U * (C * T) = n * T * C * U := by ac_rfl
  have s3 : G * (C * T) = 4 * u * U := by
    rw [← Nat.mul_assoc, ← hg, ← hv]; ac_rfl
  have s2 : L * G * (C * T) = 4 * (L * u) * U := by
    rw [Nat.mul_assoc, s3]; ac_rfl
  rw [s1, s2, s3]

end Go.Proofs.YthfjpofbaeeafaaDoor
