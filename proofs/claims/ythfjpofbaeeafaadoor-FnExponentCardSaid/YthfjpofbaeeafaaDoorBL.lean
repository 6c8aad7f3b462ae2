/-
  Great numbers in limbs of nine decimal digits: plain lemmas.
-/
namespace Go.Proofs.YthfjpofbaeeafaaDoor

def UN : Nat := 1000000000
theorem UN_pos : 0 < UN := by decide
/-- The limb at place i. -/
def limb (n i : Nat) : Nat := n / UN ^ i % UN
theorem limb_lt (n i : Nat) : limb n i < UN := Nat.mod_lt _ UN_pos

theorem usucc (i : Nat) : UN ^ (i + 1) = UN ^ i * UN := Nat.pow_succ UN i
theorem mod_succ (n i : Nat) : n % UN ^ (i + 1) = n % UN ^ i + limb n i * UN ^ i := by
  unfold limb
  have h1 := Nat.div_add_mod n (UN ^ i)
  have h2 := Nat.div_add_mod (n / UN ^ i) UN
  have hp : 0 < UN ^ i := Nat.pow_pos UN_pos
  have hm : n % UN ^ i < UN ^ i := Nat.mod_lt _ hp
  have hl : n / UN ^ i % UN < UN := Nat.mod_lt _ UN_pos
  have e : n = UN ^ (i + 1) * (n / UN ^ i / UN) + (n % UN ^ i + n / UN ^ i % UN * UN ^ i) := by
    rw [Nat.pow_succ, Nat.mul_assoc]
    have : UN ^ i * (UN * (n / UN ^ i / UN)) + n / UN ^ i % UN * UN ^ i = UN ^ i * (n / UN ^ i) := by
      rw [Nat.mul_comm (n / UN ^ i % UN), ← Nat.mul_add, h2]
    omega
  have hlt : n % UN ^ i + n / UN ^ i % UN * UN ^ i < UN ^ (i + 1) := by
    have := Nat.mul_le_mul_right (UN ^ i) (show n / UN ^ i % UN + 1 ≤ UN from hl)
    rw [Nat.add_mul, Nat.one_mul, Nat.mul_comm UN, ← usucc] at this
    omega
  have := Nat.mul_add_mod (UN ^ (i + 1)) (n / UN ^ i / UN) (n % UN ^ i + n / UN ^ i % UN * UN ^ i)
  rw [← e, Nat.mod_eq_of_lt hlt] at this
  exact this

/-- What is carried to place i. -/
def carry (n k p i : Nat) : Nat := (n % UN ^ i * k + p) / UN ^ i
theorem carry_zero (n k p : Nat) : carry n k p 0 = p := by simp [carry, Nat.mod_one]
theorem carry_le (n k p i : Nat) : carry n k p i ≤ k + p := by
  unfold carry
  have hp : 0 < UN ^ i := Nat.pow_pos UN_pos
  have hm := Nat.mod_lt n hp
  have h1 := Nat.mul_le_mul_right k (Nat.le_of_lt hm)
  refine (Nat.div_le_iff_le_mul_add_pred hp).2 ?_
  have h2 : p ≤ UN ^ i * p := Nat.le_mul_of_pos_left _ hp
  rw [Nat.mul_add]
  omega
theorem carry_add (n k p i : Nat) : carry n k p i + limb n i * k = (n % UN ^ (i + 1) * k + p) / UN ^ i := by
  unfold carry
  have hp : 0 < UN ^ i := Nat.pow_pos UN_pos
  rw [mod_succ, Nat.add_mul, show n % UN ^ i * k + limb n i * UN ^ i * k + p = (n % UN ^ i * k + p) + UN ^ i * (limb n i * k) by
    have : limb n i * UN ^ i * k = UN ^ i * (limb n i * k) := by ac_rfl
    omega]
  rw [Nat.add_mul_div_left _ _ hp]
theorem carry_succ (n k p i : Nat) : (carry n k p i + limb n i * k) / UN = carry n k p (i + 1) := by
  rw [carry_add, Nat.div_div_eq_div_mul, ← usucc]
  rfl
theorem carry_limb (n k p i : Nat) : (carry n k p i + limb n i * k) % UN = limb (n * k + p) i := by
  rw [carry_add]
  unfold limb
  have hp : 0 < UN ^ i := Nat.pow_pos UN_pos
  have h1 := Nat.div_add_mod n (UN ^ (i + 1))
  have e : n * k + p = (n % UN ^ (i + 1) * k + p) + UN ^ i * (UN * (n / UN ^ (i + 1) * k)) := by
    have h2 : n * k = UN ^ (i + 1) * (n / UN ^ (i + 1)) * k + n % UN ^ (i + 1) * k := by rw [← Nat.add_mul, h1]
    have h3 : UN ^ i * (UN * (n / UN ^ (i + 1) * k)) = UN ^ (i + 1) * (n / UN ^ (i + 1)) * k := by
      rw [Nat.pow_succ]; ac_rfl
    omega
  rw [e, Nat.add_mul_div_left _ _ hp, Nat.add_mul_mod_self_left]
theorem carry_end (n k p L : Nat) (h : n < UN ^ L) : carry n k p L = (n * k + p) / UN ^ L := by
  unfold carry
  rw [Nat.mod_eq_of_lt h]

theorem limbs_eq {n m L : Nat} (hn : n < UN ^ L) (hm : m < UN ^ L) (h : ∀ i, i < L → limb n i = limb m i) : n = m := by
  have key : ∀ j, j ≤ L → n % UN ^ j = m % UN ^ j := by
    intro j
    induction j with
    | zero => intro _; simp [Nat.mod_one]
    | succ j ih =>
      intro hj
      rw [mod_succ, mod_succ, ih (by omega), h j (by omega)]
  have := key L (Nat.le_refl _)
  rwa [Nat.mod_eq_of_lt hn, Nat.mod_eq_of_lt hm] at this

/-- The first place from above at which two numbers differ tells which is less. -/
theorem limb_cmp {n m L i : Nat} (hn : n < UN ^ L) (hm : m < UN ^ L) (hi : i < L) (h : ∀ j, i < j → j < L → limb n j = limb m j) (hne : limb n i ≠ limb m i) : (n < m ↔ limb n i < limb m i) := by
  have hq : n / UN ^ (i + 1) = m / UN ^ (i + 1) := by
    have key : ∀ d, i + 1 + d ≤ L → n / UN ^ (L - d) = m / UN ^ (L - d) := by
      intro d
      induction d with
      | zero => intro _; rw [Nat.sub_zero, Nat.div_eq_of_lt hn, Nat.div_eq_of_lt hm]
      | succ d ih =>
        intro hd
        have h1 := ih (by omega)
        have h2 := h (L - (d + 1)) (by omega) (by omega)
        unfold limb at h2
        have e : ∀ x : Nat, x / UN ^ (L - (d + 1)) = UN * (x / UN ^ (L - d)) + x / UN ^ (L - (d + 1)) % UN := fun x => by
          have := Nat.div_add_mod (x / UN ^ (L - (d + 1))) UN
          rw [Nat.div_div_eq_div_mul, ← usucc, show L - (d + 1) + 1 = L - d by omega] at this
          exact this.symm
        rw [e n, e m, h1, h2]
    have := key (L - (i + 1)) (by omega)
    rwa [show L - (L - (i + 1)) = i + 1 by omega] at this
  have hp : 0 < UN ^ i := Nat.pow_pos UN_pos
  have e : ∀ x : Nat, x = UN ^ (i + 1) * (x / UN ^ (i + 1)) + (x % UN ^ i + limb x i * UN ^ i) := fun x => by
    rw [← mod_succ]; exact (Nat.div_add_mod x _).symm
  have en := e n
  have em := e m
  rw [hq] at en
  have mn := Nat.mod_lt n hp
  have mm := Nat.mod_lt m hp
  clear e h hq hn hm
  generalize n % UN ^ i = x at *
  generalize m % UN ^ i = y at *
  generalize UN ^ (i + 1) * (m / UN ^ (i + 1)) = Q at *
  constructor
  · intro hlt
    rcases Nat.lt_or_ge (limb n i) (limb m i) with g | g
    · exact g
    · exfalso
      have := Nat.mul_le_mul_right (UN ^ i) (show limb m i + 1 ≤ limb n i by omega)
      rw [Nat.add_mul, Nat.one_mul] at this
      omega
  · intro hlt
    have := Nat.mul_le_mul_right (UN ^ i) (show limb n i + 1 ≤ limb m i from hlt)
    rw [Nat.add_mul, Nat.one_mul] at this
    omega

/-! ### the difference -/
/-- What is borrowed at place i. -/
def borrow (n m i : Nat) : Nat := if n % UN ^ i < m % UN ^ i then 1 else 0
theorem borrow_zero (n m : Nat) : borrow n m 0 = 0 := by simp [borrow, Nat.mod_one]
theorem borrow_le (n m i : Nat) : borrow n m i ≤ 1 := by unfold borrow; split <;> omega

theorem sub_limb (n m i : Nat) (h : m ≤ n) : limb (n - m) i = if limb n i < borrow n m i + limb m i then limb n i + UN - (borrow n m i + limb m i) else limb n i - (borrow n m i + limb m i) := by
  have hp : 0 < UN ^ i := Nat.pow_pos UN_pos
  have mn := Nat.mod_lt n hp
  have mm := Nat.mod_lt m hp
  have ln := limb_lt n i
  have lm := limb_lt m i
  have e : ∀ x : Nat, x = UN ^ (i + 1) * (x / UN ^ (i + 1)) + (x % UN ^ i + limb x i * UN ^ i) := fun x => by
    rw [← mod_succ]; exact (Nat.div_add_mod x _).symm
  -- n - m, from place i on
  have key : ∀ (Q R r : Nat), n = m + ((Q * UN + R) * UN ^ i + r) → r < UN ^ i → R < UN → limb (n - m) i = R := by
    intro Q R r h1 h2 h3
    have : n - m = (Q * UN + R) * UN ^ i + r := by omega
    unfold limb
    rw [this, Nat.add_comm, Nat.add_mul_div_right _ _ hp, Nat.div_eq_of_lt h2, Nat.zero_add, Nat.add_comm, Nat.add_mul_mod_self_right, Nat.mod_eq_of_lt h3]
  have en := e n
  have em := e m
  obtain ⟨a, ha⟩ : ∃ a, a = n / UN ^ (i + 1) := ⟨_, rfl⟩
  obtain ⟨b, hb⟩ : ∃ b, b = m / UN ^ (i + 1) := ⟨_, rfl⟩
  rw [← ha, usucc] at en
  rw [← hb, usucc] at em
  unfold borrow
  clear e ha hb
  generalize limb (n - m) i = Z at *
  generalize limb n i = c at *
  generalize limb m i = d at *
  generalize n % UN ^ i = x at *
  generalize m % UN ^ i = y at *
  generalize UN ^ i = P at *
  generalize UN = U at *
  -- everything in units of P
  have dist : ∀ u v : Nat, (u * U + v) * P = P * U * u + v * P := fun u v => by
    rw [Nat.add_mul]; congr 1; ac_rfl
  by_cases hb1 : x < y
  · rw [if_pos hb1]
    by_cases hc1 : c < 1 + d
    · rw [if_pos hc1]
      have hab : b < a := by
        rcases Nat.lt_or_ge b a with g | g
        · exact g
        · exfalso
          have h1 := Nat.mul_le_mul_left (P * U) g
          have h2 := Nat.mul_le_mul_right P (show c ≤ d by omega)
          omega
      refine key (a - b - 1) (c + U - (1 + d)) (x + P - y) ?_ (by omega) (by omega)
      rw [dist]
      have h1 : P * U * a = P * U * b + P * U * (a - b - 1) + P * U := by
        rw [← Nat.mul_add, ← Nat.mul_succ]; congr 1; omega
      have h2 : (c + U - (1 + d)) * P + d * P + P = c * P + P * U := by
        rw [← Nat.add_mul, ← Nat.succ_mul, Nat.mul_comm P U, ← Nat.add_mul]; congr 1; omega
      omega
    · rw [if_neg hc1]
      have hab : b ≤ a := by
        rcases Nat.lt_or_ge a b with g | g
        · exfalso
          have h1 := Nat.mul_le_mul_left (P * U) (show a + 1 ≤ b from g)
          rw [Nat.mul_add, Nat.mul_one] at h1
          have h2 := Nat.mul_le_mul_right P (show c + 1 ≤ U from ln)
          rw [Nat.add_mul, Nat.one_mul, Nat.mul_comm U] at h2
          omega
        · exact g
      refine key (a - b) (c - (1 + d)) (x + P - y) ?_ (by omega) (by omega)
      rw [dist]
      have h1 : P * U * a = P * U * b + P * U * (a - b) := by
        rw [← Nat.mul_add]; congr 1; omega
      have h2 : (c - (1 + d)) * P + d * P + P = c * P := by
        rw [← Nat.add_mul, ← Nat.succ_mul]; congr 1; omega
      omega
  · rw [if_neg hb1, Nat.zero_add]
    by_cases hc1 : c < d
    · rw [if_pos hc1]
      have hab : b < a := by
        rcases Nat.lt_or_ge b a with g | g
        · exact g
        · exfalso
          have h1 := Nat.mul_le_mul_left (P * U) g
          have h2 := Nat.mul_le_mul_right P (show c + 1 ≤ d by omega)
          rw [Nat.add_mul, Nat.one_mul] at h2
          omega
      refine key (a - b - 1) (c + U - d) (x - y) ?_ (by omega) (by omega)
      rw [dist]
      have h1 : P * U * a = P * U * b + P * U * (a - b - 1) + P * U := by
        rw [← Nat.mul_add, ← Nat.mul_succ]; congr 1; omega
      have h2 : (c + U - d) * P + d * P = c * P + P * U := by
        rw [← Nat.add_mul, Nat.mul_comm P U, ← Nat.add_mul]; congr 1; omega
      omega
    · rw [if_neg hc1]
      have hab : b ≤ a := by
        rcases Nat.lt_or_ge a b with g | g
        · exfalso
          have h1 := Nat.mul_le_mul_left (P * U) (show a + 1 ≤ b from g)
          rw [Nat.mul_add, Nat.mul_one] at h1
          have h2 := Nat.mul_le_mul_right P (show c + 1 ≤ U from ln)
          rw [Nat.add_mul, Nat.one_mul, Nat.mul_comm U] at h2
          omega
        · exact g
      refine key (a - b) (c - d) (x - y) ?_ (by omega) (by omega)
      rw [dist]
      have h1 : P * U * a = P * U * b + P * U * (a - b) := by
        rw [← Nat.mul_add]; congr 1; omega
      have h2 : (c - d) * P + d * P = c * P := by
        rw [← Nat.add_mul]; congr 1; omega
      omega

theorem borrow_succ (n m i : Nat) : borrow n m (i + 1) = if limb n i < borrow n m i + limb m i then 1 else 0 := by
  have hp : 0 < UN ^ i := Nat.pow_pos UN_pos
  have mn := Nat.mod_lt n hp
  have mm := Nat.mod_lt m hp
  unfold borrow
  rw [mod_succ, mod_succ]
  generalize n % UN ^ i = x at *
  generalize m % UN ^ i = y at *
  generalize limb n i = c
  generalize limb m i = d
  generalize UN ^ i = P at *
  rcases Nat.lt_trichotomy c d with h | h | h
  · have h2 := Nat.mul_le_mul_right P (show c + 1 ≤ d from h)
    rw [Nat.add_mul, Nat.one_mul] at h2
    rw [if_pos (by omega), if_pos (by split <;> omega)]
  · subst h
    by_cases hb : x < y
    · rw [if_pos hb, if_pos (by omega), if_pos (by omega)]
    · rw [if_neg hb, if_neg (by omega), if_neg (by omega)]
  · have h2 := Nat.mul_le_mul_right P (show d + 1 ≤ c from h)
    rw [Nat.add_mul, Nat.one_mul] at h2
    rw [if_neg (by omega), if_neg (by split <;> omega)]

end Go.Proofs.YthfjpofbaeeafaaDoor
