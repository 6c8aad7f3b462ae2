/-
  The shortest decimal: plain Lean.
-/
import Derived.Test.YthfjpofbaeeafaaDoorDR
namespace Go.Proofs.YthfjpofbaeeafaaDoor

/-- The skewed footprint. -/
def sk (k : Int) : Int := (k * 631305 - 261663) / 2097152
def skOk (k : Int) : Bool := decide (4 * VC ≤ 3 * VN 1 k (-sk k)) && decide (3 * VN 1 k (-sk k - 1) < 4 * VC)
set_option maxRecDepth 100000 in
theorem sk_table : (List.range 2400).all (fun i => skOk ((i : Int) - 1200)) = true := by decide +kernel
theorem sk_at (k : Int) (h0 : -1200 ≤ k) (h1 : k < 1200) : 4 * VC ≤ 3 * VN 1 k (-sk k) ∧ 3 * VN 1 k (-sk k - 1) < 4 * VC := by
  have := List.all_eq_true.1 sk_table (k + 1200).toNat (List.mem_range.2 (by omega))
  rw [show (((k + 1200).toNat : Nat) : Int) - 1200 = k by omega] at this
  simpa [skOk] using this

theorem unr_le_iff {N C D : Nat} (hC : 0 < C) : unr (4 * N) C ≤ 4 * D ↔ N ≤ D * C := by
  obtain ⟨F, R, hN, hR⟩ := frac_form (4 * N) C hC
  rw [unr_form hN hR]
  by_cases h0 : R = 0
  · rw [if_pos h0]
    subst h0
    rw [Nat.add_zero] at hN
    constructor
    · intro h
      have := Nat.mul_le_mul_right C h
      rw [← hN, Nat.mul_assoc] at this
      omega
    · intro h
      refine Nat.le_of_mul_le_mul_right (c := C) ?_ hC
      rw [← hN, Nat.mul_assoc]
      omega
  · rw [if_neg h0]
    have key : F / 2 * 2 + 1 ≤ 4 * D ↔ F < 4 * D := by omega
    rw [key]
    constructor
    · intro h
      have := Nat.mul_le_mul_right C (show F + 1 ≤ 4 * D from h)
      rw [Nat.add_mul, Nat.one_mul, Nat.mul_assoc] at this
      omega
    · intro h
      refine Nat.lt_of_mul_lt_mul_right (a := C) ?_
      rw [Nat.mul_assoc]
      omega
theorem unr_lt_iff {N C D : Nat} (hC : 0 < C) : unr (4 * N) C < 4 * D ↔ N < D * C := by
  obtain ⟨F, R, hN, hR⟩ := frac_form (4 * N) C hC
  rw [unr_form hN hR]
  by_cases h0 : R = 0
  · rw [if_pos h0]
    subst h0
    rw [Nat.add_zero] at hN
    constructor
    · intro h
      have := Nat.mul_lt_mul_of_pos_right h hC
      rw [← hN, Nat.mul_assoc] at this
      omega
    · intro h
      refine Nat.lt_of_mul_lt_mul_right (a := C) ?_
      rw [← hN, Nat.mul_assoc]
      omega
  · rw [if_neg h0]
    have key : F / 2 * 2 + 1 < 4 * D ↔ F < 4 * D := by omega
    rw [key]
    constructor
    · intro h
      have := Nat.mul_le_mul_right C (show F + 1 ≤ 4 * D from h)
      rw [Nat.add_mul, Nat.one_mul, Nat.mul_assoc] at this
      omega
    · intro h
      refine Nat.lt_of_mul_lt_mul_right (a := C) ?_
      rw [Nat.mul_assoc]
      omega

/-- The least and the greatest whole number in the interval (A, B), with its ends where od is 0. -/
def dMin (A C od : Nat) : Nat := (unr (4 * A) C + od + 3) / 4
def dMax (B C od : Nat) : Nat := (unr (4 * B) C - od) / 4
/-- Within the interval. -/
def inI (A B C od D : Nat) : Prop := if od = 0 then A ≤ D * C ∧ D * C ≤ B else A < D * C ∧ D * C < B

theorem dMin_iff {A C od D : Nat} (hC : 0 < C) (ho : od ≤ 1) : dMin A C od ≤ D ↔ (if od = 0 then A ≤ D * C else A < D * C) := by
  unfold dMin
  rcases Nat.le_one_iff_eq_zero_or_eq_one.1 ho with rfl | rfl
  · rw [if_pos rfl, ← unr_le_iff hC]; omega
  · rw [if_neg (by decide), ← unr_lt_iff hC]; omega
theorem dMax_iff {B C od D : Nat} (hC : 0 < C) (ho : od ≤ 1) (hB : 0 < B) : D ≤ dMax B C od ↔ (if od = 0 then D * C ≤ B else D * C < B) := by
  have h1 : 1 ≤ unr (4 * B) C := by
    have h2 : ¬ unr (4 * B) C ≤ 4 * 0 := fun h => by
      have := (unr_le_iff (N := B) (D := 0) hC).1 h
      rw [Nat.zero_mul] at this
      omega
    omega
  unfold dMax
  rcases Nat.le_one_iff_eq_zero_or_eq_one.1 ho with rfl | rfl
  · rw [if_pos rfl]
    have := unr_lt_iff (N := B) (D := D) hC
    constructor
    · intro h
      have h2 : ¬ unr (4 * B) C < 4 * D := by omega
      rw [this] at h2
      omega
    · intro h
      have h2 : ¬ B < D * C := by omega
      rw [← this] at h2
      omega
  · rw [if_neg (by decide)]
    have := unr_le_iff (N := B) (D := D) hC
    constructor
    · intro h
      have h2 : ¬ unr (4 * B) C ≤ 4 * D := by omega
      rw [this] at h2
      omega
    · intro h
      have h2 : ¬ B ≤ D * C := by omega
      rw [← this] at h2
      omega

/-- What shortFloat answers: the number, and whether a digit was dropped. -/
def shD (A B V C od : Nat) : Nat × Nat :=
  if dMin A C od ≤ dMax B C od / 10 * 10 then (dMax B C od / 10, 1)
  else (if dMin A C od < dMax B C od then rh V C else dMin A C od, 0)

theorem short_law (L u C ep od : Nat) (hC : 0 < C) (hL : 1 ≤ L) (hep : ep = 2 ∨ ep = 1 ∧ od = 0) (ho : od ≤ 1) (hw : C ≤ (2 + ep) * u) (hw2 : (2 + ep) * u < 10 * C)
    (A B V : Nat) (hA : A = (4 * L - ep) * u) (hB : B = (4 * L + 2) * u) (hV : V = 4 * L * u) :
    let r := shD A B V C od
    (dMin A C od ≤ r.1 * 10 ^ r.2 ∧ r.1 * 10 ^ r.2 ≤ dMax B C od) ∧ r.2 ≤ 1 ∧ 1 ≤ r.1 ∧
      (∀ y, dMin A C od ≤ 10 * y → 10 * y ≤ dMax B C od → r.2 = 1 ∧ y = r.1) := by
  have hu : 0 < u := by
    rcases Nat.eq_zero_or_pos u with h | h
    · rw [h, Nat.mul_zero] at hw; omega
    · exact h
  have hAV : A + ep * u = V := by
    rw [hA, hV, ← Nat.add_mul]
    congr 1
    omega
  have hBV : B = V + 2 * u := by rw [hB, hV, Nat.add_mul]
  have hepu : ep * u ≤ 2 * u := Nat.mul_le_mul_right u (by omega)
  have heu1 : u ≤ ep * u := by
    have := Nat.mul_le_mul_right u (show 1 ≤ ep by omega)
    rw [Nat.one_mul] at this
    exact this
  have hwid : (2 + ep) * u = 2 * u + ep * u := Nat.add_mul _ _ _
  have hApos : 0 < A := by rw [hA]; exact Nat.mul_pos (by omega) hu
  have hB0 : 0 < B := by omega
  obtain ⟨m, hm⟩ : ∃ m, m = dMin A C od := ⟨_, rfl⟩
  obtain ⟨x, hx⟩ : ∃ x, x = dMax B C od := ⟨_, rfl⟩
  have im : ∀ D, m ≤ D ↔ (if od = 0 then A ≤ D * C else A < D * C) := fun D => by rw [hm]; exact dMin_iff hC ho
  have ix : ∀ D, D ≤ x ↔ (if od = 0 then D * C ≤ B else D * C < B) := fun D => by rw [hx]; exact dMax_iff hC ho hB0
  have lm : ∀ D, m ≤ D → A ≤ D * C := fun D h => by
    have := (im D).1 h
    split at this <;> omega
  have lx : ∀ D, D ≤ x → D * C ≤ B := fun D h => by
    have := (ix D).1 h
    split at this <;> omega
  have nm : ∀ D, ¬ m ≤ D → D * C ≤ A := fun D h => by
    rw [im D] at h
    split at h <;> omega
  have nx : ∀ D, ¬ D ≤ x → B ≤ D * C := fun D h => by
    rw [ix D] at h
    split at h <;> omega
  have hm1 : 1 ≤ m := by
    rcases Nat.eq_zero_or_pos m with h | h
    · have := lm 0 (by omega)
      rw [Nat.zero_mul] at this
      omega
    · exact h
  -- there is one
  have hmx : m ≤ x := by
    have h1 := nm (m - 1) (by omega)
    have e1 : m * C = (m - 1) * C + C := by
      obtain ⟨k, hk⟩ : ∃ k, m = k + 1 := ⟨m - 1, by omega⟩
      rw [hk, Nat.add_sub_cancel, Nat.add_mul, Nat.one_mul]
    rw [ix]
    rcases Nat.le_one_iff_eq_zero_or_eq_one.1 ho with rfl | rfl
    · rw [if_pos rfl]; omega
    · rw [if_neg (by decide)]
      have hep2 : ep = 2 := by omega
      subst hep2
      by_cases hs : C < 4 * u
      · omega
      · have hCu : C = 4 * u := by omega
        have hm2 : m ≤ L := by
          rw [im, if_neg (by decide), hCu]
          have : L * (4 * u) = V := by rw [hV, Nat.mul_left_comm, Nat.mul_assoc]
          omega
        have h3 := Nat.mul_le_mul_right C hm2
        have : L * C = V := by rw [hCu, hV, Nat.mul_left_comm, Nat.mul_assoc]
        omega
  have hwide : x ≤ m + 9 := by
    refine Decidable.byContradiction fun h => ?_
    have h1 := lm m (Nat.le_refl _)
    have h2 := lx (m + 10) (by omega)
    rw [Nat.add_mul] at h2
    omega
  show _
  unfold shD
  rw [← hm, ← hx]
  by_cases h10 : m ≤ x / 10 * 10
  · rw [if_pos h10]
    refine ⟨⟨by rw [Nat.pow_one]; exact h10, by rw [Nat.pow_one]; omega⟩, Nat.le_refl _, by show 1 ≤ x / 10; omega, fun y h1 h2 => ⟨rfl, by show y = x / 10; omega⟩⟩
  · rw [if_neg h10]
    have hno : ∀ y, m ≤ 10 * y → 10 * y ≤ x → False := fun y h1 h2 => by omega
    by_cases hlt : m < x
    · rw [if_pos hlt]
      obtain ⟨d, hd⟩ : ∃ d, d = rh V C := ⟨_, rfl⟩
      rw [← hd]
      obtain ⟨n1, n2⟩ := rh_near V C hC
      rw [← hd] at n1 n2
      have g1 : m ≤ d := by
        refine Decidable.byContradiction fun h => ?_
        have a1 := nm d h
        have a2 := lx (d + 2) (by omega)
        rw [Nat.add_mul] at a2
        omega
      have g2 : d ≤ x := by
        refine Decidable.byContradiction fun h => ?_
        have a1 := nx d h
        obtain ⟨k, hk⟩ : ∃ k, d = k + 2 := ⟨d - 2, by omega⟩
        have a2 := lm k (by omega)
        rw [hk, Nat.add_mul] at n2 a1
        omega
      refine ⟨⟨by show m ≤ d * 10 ^ 0; omega, by show d * 10 ^ 0 ≤ x; omega⟩, by show 0 ≤ 1; omega, by show 1 ≤ d; omega, fun y h1 h2 => (hno y h1 h2).elim⟩
    · rw [if_neg hlt]
      refine ⟨⟨by show m ≤ m * 10 ^ 0; omega, by show m * 10 ^ 0 ≤ x; omega⟩, by show 0 ≤ 1; omega, hm1, fun y h1 h2 => (hno y h1 h2).elim⟩

end Go.Proofs.YthfjpofbaeeafaaDoor
