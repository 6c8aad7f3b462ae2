/-
  Rounding a fraction to a whole number (to the nearer one, at a tie to the even one), what an unrounded number says of it, and a binary number times a power of ten as a fraction with one denominator for all.
-/
import Derived.Test.YthfjpofbaeeafaaDoorCert
namespace Go.Proofs.YthfjpofbaeeafaaDoor

/-- The nearest whole number; at a tie the even one. -/
def rh (N D : Nat) : Nat := if 2 * (N % D) < D then N / D else if D < 2 * (N % D) then N / D + 1 else N / D + N / D % 2

theorem or_one (x : Nat) : x ||| 1 = x / 2 * 2 + 1 := by
  have h : (x ||| 1) / 2 = x / 2 := by
    have := Nat.or_div_two (a := x) (b := 1)
    simpa using this
  have h2 : (x ||| 1) % 2 = 1 := by
    have := Nat.or_mod_two_pow (a := x) (b := 1) (n := 1)
    rw [Nat.pow_one] at this
    rw [this]
    rcases Nat.mod_two_eq_zero_or_one x with e | e <;> rw [e] <;> rfl
  omega

theorem unr_form {N D F R : Nat} (h : N = F * D + R) (hR : R < D) : unr N D = if R = 0 then F else F / 2 * 2 + 1 := by
  have hD : 0 < D := by omega
  have e1 : N / D = F := by rw [h, Nat.mul_comm, Nat.mul_add_div hD, Nat.div_eq_of_lt hR, Nat.add_zero]
  have e2 : N % D = R := by rw [h, Nat.mul_comm, Nat.mul_add_mod, Nat.mod_eq_of_lt hR]
  unfold unr
  rw [e1, e2]
  by_cases h0 : R = 0
  · rw [if_pos h0, if_pos h0, Nat.or_zero]
  · rw [if_neg h0, if_neg h0, or_one]

theorem rh_form {N D F R : Nat} (h : N = F * D + R) (hR : R < D) : rh N D = if 2 * R < D then F else if D < 2 * R then F + 1 else F + F % 2 := by
  have hD : 0 < D := by omega
  have e1 : N / D = F := by rw [h, Nat.mul_comm, Nat.mul_add_div hD, Nat.div_eq_of_lt hR, Nat.add_zero]
  have e2 : N % D = R := by rw [h, Nat.mul_comm, Nat.mul_add_mod, Nat.mod_eq_of_lt hR]
  unfold rh
  rw [e1, e2]

theorem frac_form (N D : Nat) (hD : 0 < D) : ∃ F R, N = F * D + R ∧ R < D :=
  ⟨N / D, N % D, by rw [Nat.mul_comm]; exact (Nat.div_add_mod N D).symm, Nat.mod_lt _ hD⟩

theorem rh_unr (N D : Nat) (hD : 0 < D) : (unr (4 * N) D + 1 + unr (4 * N) D / 4 % 2) / 4 = rh N D := by
  obtain ⟨F, R, h, hR⟩ := frac_form N D hD
  obtain ⟨c, r, h4, hr⟩ := frac_form (4 * R) D hD
  have hc : c < 4 := by
    rcases Nat.lt_or_ge c 4 with g | g
    · exact g
    · have := Nat.mul_le_mul_right D g; omega
  have e : 4 * N = (4 * F + c) * D + r := by rw [h, Nat.add_mul, Nat.mul_assoc]; omega
  rw [unr_form e hr, rh_form h hR]
  have hcc : c = 0 ∨ c = 1 ∨ c = 2 ∨ c = 3 := by omega
  obtain ⟨g, hg⟩ : ∃ g, F = 2 * g ∨ F = 2 * g + 1 := ⟨F / 2, by omega⟩
  have hF2 : F % 2 = F - 2 * g := by omega
  rw [hF2]
  rcases hcc with rfl | rfl | rfl | rfl <;> by_cases h0 : r = 0 <;> simp only [h0, if_true, if_false] <;> rcases hg with rfl | rfl <;> (repeat' split) <;> omega

theorem unr_scale (N D k : Nat) (hk : 0 < k) : unr (N * k) (D * k) = unr N D := by
  unfold unr
  rw [Nat.mul_div_mul_right _ _ hk, Nat.mul_mod_mul_right]
  congr 1
  by_cases h : N % D = 0
  · rw [h]; simp
  · rw [if_neg h, if_neg]
    intro e
    rcases Nat.mul_eq_zero.1 e with e | e <;> omega

theorem unr_cross {N1 D1 N2 D2 : Nat} (h : N1 * D2 = N2 * D1) (h1 : 0 < D1) (h2 : 0 < D2) : unr N1 D1 = unr N2 D2 := by
  rw [← unr_scale N1 D1 D2 h2, h, Nat.mul_comm D1, unr_scale N2 D2 D1 h1]

theorem rh_scale (N D k : Nat) (hk : 0 < k) : rh (N * k) (D * k) = rh N D := by
  unfold rh
  rw [Nat.mul_div_mul_right _ _ hk, Nat.mul_mod_mul_right, ← Nat.mul_assoc]
  have e1 : 2 * (N % D) * k < D * k ↔ 2 * (N % D) < D := ⟨fun h => Nat.lt_of_mul_lt_mul_right h, fun h => Nat.mul_lt_mul_of_pos_right h hk⟩
  have e2 : D * k < 2 * (N % D) * k ↔ D < 2 * (N % D) := ⟨fun h => Nat.lt_of_mul_lt_mul_right h, fun h => Nat.mul_lt_mul_of_pos_right h hk⟩
  simp only [e1, e2]

theorem rh_cross {N1 D1 N2 D2 : Nat} (h : N1 * D2 = N2 * D1) (h1 : 0 < D1) (h2 : 0 < D2) : rh N1 D1 = rh N2 D2 := by
  rw [← rh_scale N1 D1 D2 h2, h, Nat.mul_comm D1, rh_scale N2 D2 D1 h1]

/-- An unrounded number is divided by ten. -/
theorem unr_div (N D : Nat) (hD : 0 < D) : (unr N D / 10 ||| unr N D % 2) ||| (if unr N D % 10 = 0 then 0 else 1) = unr N (D * 10) := by
  obtain ⟨F, R, h, hR⟩ := frac_form N D hD
  obtain ⟨G, d, hF, hd⟩ := frac_form F 10 (by decide)
  have e : N = G * (D * 10) + (d * D + R) := by
    rw [h, hF, Nat.add_mul]
    have : G * 10 * D = G * (D * 10) := by ac_rfl
    omega
  have hlt : d * D + R < D * 10 := by
    have := Nat.mul_le_mul_right D (show d ≤ 9 by omega)
    omega
  rw [unr_form e hlt, unr_form h hR]
  by_cases hR0 : R = 0
  · subst hR0
    by_cases hd0 : d = 0
    · subst hd0
      have e1 : F / 10 = G := by omega
      have e2 : F % 2 = 0 := by omega
      have e3 : F % 10 = 0 := by omega
      simp [e1, e2, e3]
    · have hdD : d * D + 0 ≠ 0 := by
        have := Nat.mul_pos (show 0 < d by omega) hD
        omega
      have e1 : F / 10 = G := by omega
      have e3 : F % 10 ≠ 0 := by omega
      rw [if_neg hdD, if_pos rfl, if_neg e3, e1, or_one]
      rcases Nat.mod_two_eq_zero_or_one F with e2 | e2 <;> rw [e2]
      · rw [Nat.or_zero]
      · rw [or_one]; omega
  · have hdR : d * D + R ≠ 0 := by omega
    have e1 : (F / 2 * 2 + 1) / 10 = G := by omega
    have e2 : (F / 2 * 2 + 1) % 2 = 1 := by omega
    have e3 : (F / 2 * 2 + 1) % 10 ≠ 0 := by omega
    rw [if_neg hdR, if_neg hR0, if_neg e3, e1, e2, or_one, or_one]
    omega

/-- What rounding answers is at most half a unit away. -/
theorem rh_near (N D : Nat) (hD : 0 < D) : 2 * N ≤ 2 * (rh N D * D) + D ∧ 2 * (rh N D * D) ≤ 2 * N + D := by
  obtain ⟨F, R, h, hR⟩ := frac_form N D hD
  rw [rh_form h hR, h]
  split
  · omega
  · split
    · rw [Nat.add_mul]; omega
    · rcases Nat.mod_two_eq_zero_or_one F with e2 | e2 <;> rw [e2, Nat.add_mul] <;> omega

theorem rh_ge {N D a : Nat} (hD : 0 < D) (h : a * D ≤ N) : a ≤ rh N D := by
  obtain ⟨F, R, e, hR⟩ := frac_form N D hD
  have : a ≤ F := by
    rcases Nat.lt_or_ge F a with g | g
    · have := Nat.mul_le_mul_right D g
      rw [Nat.succ_mul] at this
      omega
    · exact g
  rw [rh_form e hR]
  split
  · exact this
  · split <;> omega

theorem rh_le {N D a : Nat} (hD : 0 < D) (h : N ≤ a * D) : rh N D ≤ a := by
  obtain ⟨F, R, e, hR⟩ := frac_form N D hD
  have hF : F ≤ a := by
    rcases Nat.lt_or_ge a F with g | g
    · have := Nat.mul_le_mul_right D g
      rw [Nat.succ_mul] at this
      omega
    · exact g
  rw [rh_form e hR]
  rcases Nat.lt_or_ge F a with g | g
  · split
    · omega
    · split
      · omega
      · have := Nat.mod_lt F (show 2 > 0 by decide); omega
  · obtain rfl : F = a := by omega
    have : R = 0 := by omega
    subst this
    rw [if_pos (by omega)]
    omega

/-- The unrounded number is at least that which rounds up to a. -/
theorem unr_thr {N D a : Nat} (hD : 0 < D) (ha : 0 < a) : a * 4 - 2 ≤ unr (4 * N) D ↔ (2 * a - 1) * D ≤ 2 * N := by
  obtain ⟨F, R, h, hR⟩ := frac_form (4 * N) D hD
  rw [unr_form h hR]
  obtain ⟨b, rfl⟩ : ∃ b, a = b + 1 := ⟨a - 1, by omega⟩
  have e : (2 * (b + 1) - 1) * D = (2 * b + 1) * D := by congr 1
  rw [e]
  have key : (2 * b + 1) * D ≤ 2 * N ↔ 4 * b + 2 ≤ F := by
    constructor
    · intro g
      rcases Nat.lt_or_ge F (4 * b + 2) with g2 | g2
      · have h2 := Nat.mul_le_mul_right D g2
        rw [Nat.succ_mul] at h2
        have h3 : 2 * ((2 * b + 1) * D) = (4 * b + 2) * D := by rw [← Nat.mul_assoc]; congr 1; omega
        omega
      · exact g2
    · intro g
      have h2 := Nat.mul_le_mul_right D g
      have h3 : 2 * ((2 * b + 1) * D) = (4 * b + 2) * D := by rw [← Nat.mul_assoc]; congr 1; omega
      omega
  rw [key]
  split <;> omega

/-! ### a binary number times a power of ten -/
/-- x times 2 to the e times 10 to the q, times VC. -/
def VN (x : Nat) (e q : Int) : Nat := x * 2 ^ (e + 1200).toNat * 10 ^ (q + 1000).toNat
def VC : Nat := VN 1 0 0

theorem VN_ten (x : Nat) (e q : Int) (t : Nat) (hq : -1000 ≤ q) : VN x e (q + t) = VN x e q * 10 ^ t := by
  unfold VN
  rw [show (q + t + 1000).toNat = (q + 1000).toNat + t by omega, Nat.pow_add 10, ← Nat.mul_assoc]
theorem VN_two (x z : Nat) (e q : Int) (he : -1200 ≤ e) : VN (x * 2 ^ z) e q = VN x (e + z) q := by
  unfold VN
  rw [show (e + z + 1200).toNat = z + (e + 1200).toNat by omega, Nat.pow_add, Nat.mul_assoc x]
theorem VN_mul (x y : Nat) (e q : Int) : VN (x * y) e q = y * VN x e q := by
  unfold VN
  rw [Nat.mul_comm x y, Nat.mul_assoc, Nat.mul_assoc, Nat.mul_assoc]
theorem VN_le {x y : Nat} (h : x ≤ y) (e q : Int) : VN x e q ≤ VN y e q := Nat.mul_le_mul_right _ (Nat.mul_le_mul_right _ h)
theorem VN_lt {x y : Nat} (h : x < y) (e q : Int) : VN x e q < VN y e q :=
  Nat.mul_lt_mul_of_pos_right (Nat.mul_lt_mul_of_pos_right h (Nat.pow_pos (by decide))) (Nat.pow_pos (by decide))
theorem VN_add (x y : Nat) (e q : Int) : VN (x + y) e q = VN x e q + VN y e q := by
  unfold VN
  rw [Nat.add_mul, Nat.add_mul]
theorem VN_pos {x : Nat} (h : 0 < x) (e q : Int) : 0 < VN x e q := Nat.mul_pos (Nat.mul_pos h (Nat.pow_pos (by decide))) (Nat.pow_pos (by decide))
theorem VC_pos : 0 < VC := VN_pos (by decide) 0 0

/-- ⌊k log 2⌋. -/
def l2 (k : Int) : Int := k * 78913 / 262144
def l2Ok (k : Int) : Bool := decide (VC ≤ VN 1 k (-l2 k)) && decide (VN 1 k (-l2 k - 1) < VC)
set_option maxRecDepth 100000 in
theorem l2_table : (List.range 2400).all (fun i => l2Ok ((i : Int) - 1200)) = true := by decide +kernel
theorem l2_at (k : Int) (h0 : -1200 ≤ k) (h1 : k < 1200) : VC ≤ VN 1 k (-l2 k) ∧ VN 1 k (-l2 k - 1) < VC := by
  have := List.all_eq_true.1 l2_table (k + 1200).toNat (List.mem_range.2 (by omega))
  rw [show (((k + 1200).toNat : Nat) : Int) - 1200 = k by omega] at this
  simpa [l2Ok] using this

/-- 10 to the K - 1 ≤ the number < 10 to the K. -/
def Dec (M : Nat) (E K : Int) : Prop := VC ≤ VN M E (1 - K) ∧ VN M E (-K) < VC

end Go.Proofs.YthfjpofbaeeafaaDoor
