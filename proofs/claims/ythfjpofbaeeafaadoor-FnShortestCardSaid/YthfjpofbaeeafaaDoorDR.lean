/-
  The table of powers of ten, and that scaling by it is exact up to the sticky bit: the plain law (uscale).
  Rounding a fraction to a whole number (to the nearer one, at a tie to the even one), what an unrounded number says of it, and a binary number times a power of ten as a fraction with one denominator for all.
  The plain law of uscale over the program's table, and of fixedWidthFloat: the number of n digits that is nearest.
  The plain law of the decimal (strconv's numbers of many digits): its shifts and its rounding, on lists of digits.
  The plain law of the decimal's rounding: to n digits, the nearest (at a tie the even one).
-/
import GoSem.PinnedTables
import Derived.Lib.ItoaNum
namespace Go.Proofs.YthfjpofbaeeafaaDoor

/-- Two neighbours of N/D on both sides of it, with denominators that add up to more than any y below Y. -/
def cfGo (Y : Nat) : Nat → Nat → Nat → Nat → Nat → Nat → Nat → Nat × Nat × Nat × Nat
  | 0, _, _, h0, k0, h1, k1 => (h0, k0, h1, k1)
  | f + 1, n, d, h0, k0, h1, k1 =>
    if d = 0 ∨ Y ≤ n / d * k1 + k0 then (h0 + (Y - k0 - 1) / k1 * h1, k0 + (Y - k0 - 1) / k1 * k1, h1, k1)
    else cfGo Y f d (n % d) h1 k1 (n / d * h1 + h0) (n / d * k1 + k0)
/-- What is asked of them. -/
def cfOk (Y B N D h1 k1 h2 k2 : Nat) : Bool :=
  decide (Y ≤ k1 + k2) && (decide (k1 * h2 = k2 * h1 + 1) || decide (k2 * h1 = k1 * h2 + 1)) &&
    ((decide (h1 * D ≤ k1 * N) && decide (k2 * N ≤ h2 * D) && (decide (k1 * N = h1 * D) || decide (h1 * D * B + D ≤ k1 * N * B)) && (decide (k2 * N = h2 * D) || decide (k2 * N * B + D ≤ h2 * D * B))) ||
     (decide (h2 * D ≤ k2 * N) && decide (k1 * N ≤ h1 * D) && (decide (k2 * N = h2 * D) || decide (h2 * D * B + D ≤ k2 * N * B)) && (decide (k1 * N = h1 * D) || decide (k1 * N * B + D ≤ h1 * D * B))))

theorem far_core (a b k1 k2 t1 t2 D B y Y : Int) (hk1 : 0 ≤ k1) (hk2 : 0 ≤ k2) (hy : a * k1 + b * k2 = y) (hy0 : 0 < y) (hY : y < Y) (hsum : Y ≤ k1 + k2) (hB : 0 < B)
    (h1 : 0 ≤ t1) (h2 : t2 ≤ 0) (g1 : t1 = 0 ∨ D ≤ t1 * B) (g2 : t2 = 0 ∨ D ≤ -t2 * B) :
    a * t1 + b * t2 = 0 ∨ D ≤ (a * t1 + b * t2) * B ∨ D ≤ -(a * t1 + b * t2) * B := by
  have one : ∀ u v : Int, 1 ≤ u → 0 ≤ v → v ≤ u * v := fun u v hu hv => by
    have := Int.mul_le_mul_of_nonneg_right hu hv
    rwa [Int.one_mul] at this
  have nn : ∀ u v : Int, 0 ≤ u → 0 ≤ v → 0 ≤ u * v := fun u v => Int.mul_nonneg
  rcases Int.lt_or_le 0 a with ha | ha
  · rcases Int.lt_or_le 0 b with hb | hb
    · have q1 := one a k1 (by omega) hk1
      have q2 := one b k2 (by omega) hk2
      omega
    · have e : a * t1 + b * t2 = a * t1 + (-b) * (-t2) := by rw [Int.neg_mul_neg]
      rw [e]
      have p1 := nn a t1 (by omega) h1
      have p2 := nn (-b) (-t2) (by omega) (by omega)
      have q1 := one a t1 (by omega) h1
      rcases g1 with g1 | g1
      · subst g1
        rw [Int.mul_zero, Int.zero_add]
        rcases g2 with g2 | g2
        · subst g2; left; simp
        · rcases Int.lt_or_le b 0 with hb2 | hb2
          · right; left
            have := one (-b) (-t2) (by omega) (by omega)
            exact Int.le_trans g2 (Int.mul_le_mul_of_nonneg_right this (by omega))
          · have : b = 0 := by omega
            subst this; left; simp
      · right; left
        exact Int.le_trans g1 (Int.mul_le_mul_of_nonneg_right (by omega) (by omega))
  · rcases Int.lt_or_le 0 b with hb | hb
    · have e : -(a * t1 + b * t2) = (-a) * t1 + b * (-t2) := by rw [Int.neg_mul, Int.mul_neg, Int.neg_add]
      have p1 := nn (-a) t1 (by omega) h1
      have p2 := nn b (-t2) (by omega) (by omega)
      have q2 := one b (-t2) (by omega) (by omega)
      rcases g2 with g2 | g2
      · subst g2
        rw [Int.mul_zero, Int.add_zero] at e ⊢
        rcases g1 with g1 | g1
        · subst g1; left; simp
        · rcases Int.lt_or_le a 0 with ha2 | ha2
          · right; right
            have := one (-a) t1 (by omega) h1
            rw [← Int.neg_mul]
            exact Int.le_trans g1 (Int.mul_le_mul_of_nonneg_right this (by omega))
          · have : a = 0 := by omega
            subst this; left; simp
      · right; right
        rw [e]
        exact Int.le_trans g2 (Int.mul_le_mul_of_nonneg_right (by omega) (by omega))
    · have q1 := nn (-a) k1 (by omega) hk1
      have q2 := nn (-b) k2 (by omega) hk2
      rw [Int.neg_mul] at q1 q2
      omega

theorem far_of_ok {Y B N D h1 k1 h2 k2 : Nat} (h : cfOk Y B N D h1 k1 h2 k2 = true) (hB : 0 < B) (y : Nat) (n : Int) (hy : 0 < y) (hY : y < Y) :
    (y * N : Int) - n * D = 0 ∨ (D : Int) ≤ ((y * N : Int) - n * D) * B ∨ (D : Int) ≤ -((y * N : Int) - n * D) * B := by
  simp only [cfOk, Bool.and_eq_true, Bool.or_eq_true, decide_eq_true_eq] at h
  obtain ⟨⟨hsum, hdet⟩, hs⟩ := h
  have hsum' : (Y : Int) ≤ k1 + k2 := by exact_mod_cast hsum
  obtain ⟨a, b, ea, eb⟩ : ∃ a b : Int, a * k1 + b * k2 = y ∧ a * h1 + b * h2 = n := by
    rcases hdet with hd | hd
    · have hd' : (k1 : Int) * h2 = k2 * h1 + 1 := by exact_mod_cast hd
      refine ⟨y * h2 - n * k2, k1 * n - h1 * y, ?_, ?_⟩
      · have : ((y : Int) * h2 - n * k2) * k1 + (k1 * n - h1 * y) * k2 = y * (k1 * h2 - k2 * h1) := by
          simp only [Int.sub_mul, Int.mul_sub]
          have e1 : (y : Int) * h2 * k1 = y * (k1 * h2) := by rw [Int.mul_assoc, Int.mul_comm (h2 : Int)]
          have e2 : n * (k2 : Int) * k1 = k1 * n * k2 := by rw [Int.mul_assoc, Int.mul_comm (k2 : Int), ← Int.mul_assoc, Int.mul_comm n]
          have e3 : (h1 : Int) * y * k2 = y * (k2 * h1) := by rw [Int.mul_comm (h1 : Int), Int.mul_assoc, Int.mul_comm (h1 : Int)]
          rw [e1, e2, e3]; omega
        rw [this, hd']
        have : (k2 : Int) * h1 + 1 - k2 * h1 = 1 := by omega
        rw [this, Int.mul_one]
      · have : ((y : Int) * h2 - n * k2) * h1 + (k1 * n - h1 * y) * h2 = n * (k1 * h2 - k2 * h1) := by
          simp only [Int.sub_mul, Int.mul_sub]
          have e1 : (y : Int) * h2 * h1 = h1 * y * h2 := by rw [Int.mul_assoc, Int.mul_comm (y : Int), Int.mul_comm (h2 : Int), Int.mul_assoc, Int.mul_comm (h2 : Int), ← Int.mul_assoc]
          have e2 : n * (k2 : Int) * h1 = n * (k2 * h1) := by rw [Int.mul_assoc]
          have e3 : (k1 : Int) * n * h2 = n * (k1 * h2) := by rw [Int.mul_comm (k1 : Int), Int.mul_assoc]
          rw [e1, e2, e3]; omega
        rw [this, hd']
        have : (k2 : Int) * h1 + 1 - k2 * h1 = 1 := by omega
        rw [this, Int.mul_one]
    · have hd' : (k2 : Int) * h1 = k1 * h2 + 1 := by exact_mod_cast hd
      refine ⟨n * k2 - y * h2, h1 * y - k1 * n, ?_, ?_⟩
      · have : (n * (k2 : Int) - y * h2) * k1 + (h1 * y - k1 * n) * k2 = y * (k2 * h1 - k1 * h2) := by
          simp only [Int.sub_mul, Int.mul_sub]
          have e1 : (y : Int) * h2 * k1 = y * (k1 * h2) := by rw [Int.mul_assoc, Int.mul_comm (h2 : Int)]
          have e2 : n * (k2 : Int) * k1 = k1 * n * k2 := by rw [Int.mul_assoc, Int.mul_comm (k2 : Int), ← Int.mul_assoc, Int.mul_comm n]
          have e3 : (h1 : Int) * y * k2 = y * (k2 * h1) := by rw [Int.mul_comm (h1 : Int), Int.mul_assoc, Int.mul_comm (h1 : Int)]
          rw [e1, e2, e3]; omega
        rw [this, hd']
        have : (k1 : Int) * h2 + 1 - k1 * h2 = 1 := by omega
        rw [this, Int.mul_one]
      · have : (n * (k2 : Int) - y * h2) * h1 + (h1 * y - k1 * n) * h2 = n * (k2 * h1 - k1 * h2) := by
          simp only [Int.sub_mul, Int.mul_sub]
          have e1 : (y : Int) * h2 * h1 = h1 * y * h2 := by rw [Int.mul_assoc, Int.mul_comm (y : Int), Int.mul_comm (h2 : Int), Int.mul_assoc, Int.mul_comm (h2 : Int), ← Int.mul_assoc]
          have e2 : n * (k2 : Int) * h1 = n * (k2 * h1) := by rw [Int.mul_assoc]
          have e3 : (k1 : Int) * n * h2 = n * (k1 * h2) := by rw [Int.mul_comm (k1 : Int), Int.mul_assoc]
          rw [e1, e2, e3]; omega
        rw [this, hd']
        have : (k1 : Int) * h2 + 1 - k1 * h2 = 1 := by omega
        rw [this, Int.mul_one]
  have et : (y * N : Int) - n * D = a * (k1 * N - h1 * D) + b * (k2 * N - h2 * D) := by
    rw [← ea, ← eb]
    simp only [Int.add_mul, Int.mul_sub, Int.mul_assoc]
    omega
  rw [et]
  have c1 : ∀ u v : Nat, ((u * N : Nat) : Int) - ((v * D : Nat) : Int) = (u : Int) * N - v * D := fun u v => by simp
  have w1 : ∀ u v : Nat, (u * N * B : Int) = ((u * N * B : Nat) : Int) := fun u v => by simp
  rcases hs with ⟨⟨⟨s1, s2⟩, s3⟩, s4⟩ | ⟨⟨⟨s1, s2⟩, s3⟩, s4⟩
  · refine far_core a b k1 k2 (k1 * N - h1 * D) (k2 * N - h2 * D) D B y Y (by omega) (by omega) ea (by omega) (by omega) hsum' (by omega) ?_ ?_ ?_ ?_
    · rw [← c1]; omega
    · rw [← c1]; omega
    · rcases s3 with s3 | s3
      · left; rw [← c1]; omega
      · right
        rw [Int.sub_mul]
        have : ((h1 * D * B : Nat) : Int) + D ≤ ((k1 * N * B : Nat) : Int) := by exact_mod_cast s3
        simp only [Int.natCast_mul] at this
        omega
    · rcases s4 with s4 | s4
      · left; rw [← c1]; omega
      · right
        rw [Int.neg_sub, Int.sub_mul]
        have : ((k2 * N * B : Nat) : Int) + D ≤ ((h2 * D * B : Nat) : Int) := by exact_mod_cast s4
        simp only [Int.natCast_mul] at this
        omega
  · rw [Int.add_comm]
    refine far_core b a k2 k1 (k2 * N - h2 * D) (k1 * N - h1 * D) D B y Y (by omega) (by omega) (by omega) (by omega) (by omega) (by omega) (by omega) ?_ ?_ ?_ ?_
    · rw [← c1]; omega
    · rw [← c1]; omega
    · rcases s3 with s3 | s3
      · left; rw [← c1]; omega
      · right
        rw [Int.sub_mul]
        have : ((h2 * D * B : Nat) : Int) + D ≤ ((k2 * N * B : Nat) : Int) := by exact_mod_cast s3
        simp only [Int.natCast_mul] at this
        omega
    · rcases s4 with s4 | s4
      · left; rw [← c1]; omega
      · right
        rw [Int.neg_sub, Int.sub_mul]
        have : ((k1 * N * B : Nat) : Int) + D ≤ ((h1 * D * B : Nat) : Int) := by exact_mod_cast s4
        simp only [Int.natCast_mul] at this
        omega

def lp10 (p : Int) : Int := p * 108853 / 32768
/-- Ten to the p, over 2 to the lp10 p, times 2 to the c, as a fraction. -/
def tenN (p : Int) (c : Nat) : Nat := if 0 ≤ p then 10 ^ p.toNat * 2 ^ c else 2 ^ (c + (-lp10 p).toNat)
def tenD (p : Int) : Nat := if 0 ≤ p then 2 ^ (lp10 p).toNat else 10 ^ (-p).toNat
def cfWith (Y B N D : Nat) : Nat × Nat × Nat × Nat → Bool
  | (h1, k1, h2, k2) => cfOk Y B N D h1 k1 h2 k2
def cfAt (Y B c : Nat) (i : Nat) : Bool := cfWith Y B (tenN ((i : Int) - 348) c) (tenD ((i : Int) - 348)) (cfGo Y 120 (tenN ((i : Int) - 348) c) (tenD ((i : Int) - 348)) 0 1 1 0)
/-- The row of the table: 2 to the 64 times its first part, less its second part, is ten to the p over 2 to the lp10 p, times 2 to the 127, rounded up. -/
def rowOk (i : Nat) : Bool :=
  let r := Go.Pinned.pow10Rows.getD i (0, 0)
  decide (r.1 < 2 ^ 64) && decide (r.2 < 2 ^ 64) && decide (2 ^ 63 ≤ r.1) && decide (tenN ((i : Int) - 348) 127 + r.2 * tenD ((i : Int) - 348) ≤ r.1 * 2 ^ 64 * tenD ((i : Int) - 348)) && decide (r.1 * 2 ^ 64 * tenD ((i : Int) - 348) < tenN ((i : Int) - 348) 127 + (r.2 + 1) * tenD ((i : Int) - 348))

set_option maxRecDepth 100000 in
theorem cert_a : (List.range 696).all (cfAt (2 ^ 53) (2 ^ 64) 9) = true := by decide +kernel
set_option maxRecDepth 100000 in
theorem cert_b : (List.range 696).all (cfAt (2 ^ 55) (2 ^ 66) 3) = true := by decide +kernel
def rowsOk : List (Nat × Nat) → Nat → Bool
  | [], _ => true
  | r :: l, i => decide (r.1 < 2 ^ 64) && decide (r.2 < 2 ^ 64) && decide (2 ^ 63 ≤ r.1) && decide (tenN ((i : Int) - 348) 127 + r.2 * tenD ((i : Int) - 348) ≤ r.1 * 2 ^ 64 * tenD ((i : Int) - 348)) && decide (r.1 * 2 ^ 64 * tenD ((i : Int) - 348) < tenN ((i : Int) - 348) 127 + (r.2 + 1) * tenD ((i : Int) - 348)) && rowsOk l (i + 1)
set_option maxRecDepth 100000 in
theorem rows_ok : rowsOk Go.Pinned.pow10Rows 0 = true := by decide +kernel

/-! ### scaling -/

/-- What uscale answers, over a row of the table. -/
def uscN (x hi lo s : Nat) : Nat :=
  if x * hi / 2 ^ 64 % 2 ^ s ≠ 0 then (x * hi / 2 ^ 64 / 2 ^ s) ||| 1
  else if x * hi % 2 ^ 64 < x * lo / 2 ^ 64 then ((x * hi / 2 ^ 64 - 1) / 2 ^ s) ||| 1
  else (x * hi / 2 ^ 64 / 2 ^ s) ||| (if x * hi % 2 ^ 64 - x * lo / 2 ^ 64 > 1 then 1 else 0)
/-- A fraction of four times a number: its whole part, and whether something is left. -/
def unr (N D : Nat) : Nat := (N / D) ||| (if N % D = 0 then 0 else 1)

theorem unr_in {N D F : Nat} (h1 : F * D < N) (h2 : N < (F + 1) * D) : unr N D = F ||| 1 := by
  have hD : 0 < D := by
    rcases Nat.eq_zero_or_pos D with rfl | h
    · simp at h2
    · exact h
  have e1 : N / D = F := by
    rw [Nat.div_eq_iff hD]
    rw [Nat.add_mul] at h2
    exact ⟨by omega, by omega⟩
  have e2 : N % D ≠ 0 := by
    intro h
    have := Nat.div_add_mod N D
    rw [e1, h, Nat.mul_comm] at this
    omega
  unfold unr
  rw [e1, if_neg e2]
theorem unr_at {D F : Nat} (hD : 0 < D) : unr (F * D) D = F := by
  unfold unr
  rw [Nat.mul_div_cancel _ hD, Nat.mul_mod_left, if_pos rfl, Nat.or_zero]

theorem fin1 {Q M2G KG G A : Nat} (_ : Q + M2G ≤ KG) (down : KG < Q + M2G + 2 * G) (b : A + M2G + G + G ≤ KG) : A < Q := by omega
theorem fin2 {Q M2G KG G A : Nat} (hG : 0 < G) (up : Q + M2G ≤ KG) (b : KG + G ≤ A + M2G) : Q < A := by omega
theorem fin3 {Q M2G MG G : Nat} (hG : 0 < G) (up : Q + M2G ≤ MG) (b : MG + G ≤ M2G) : False := by omega
theorem fin4 {Q M2G KG G A : Nat} (_ : 0 < G) (down : KG < Q + M2G + 2 * G) (g : Q + 2 * G ≤ A) (b : A + M2G ≤ KG) : False := by omega
theorem fin5 {Q M2G KG G A : Nat} (hG : 0 < G) (up : Q + M2G ≤ KG) (g : A + 2 * G ≤ Q) (b : KG ≤ A + M2G + G) : False := by omega
theorem down_aux {Q K T D M2 L2 x : Nat} (h : K * T * D < Q + (M2 * T + L2 + x) * D) (hL : L2 ≤ T) (hx : x ≤ T) : K * (D * T) < Q + M2 * (D * T) + 2 * (D * T) := by
  have e1 : K * (D * T) = K * T * D := by rw [Nat.mul_comm D, Nat.mul_assoc]
  have e2 : M2 * (D * T) = M2 * T * D := by rw [Nat.mul_comm D, Nat.mul_assoc]
  have e3 : D * T = T * D := Nat.mul_comm _ _
  have e4 : (M2 * T + L2 + x) * D = M2 * T * D + L2 * D + x * D := by rw [Nat.add_mul, Nat.add_mul]
  have h3 : L2 * D ≤ T * D := Nat.mul_le_mul_right _ hL
  have h4 : x * D ≤ T * D := Nat.mul_le_mul_right _ hx
  omega
theorem usc_eq (x hi lo s N D : Nat) (hx : x < 2 ^ 64) (hx0 : 0 < x) (hlo : lo < 2 ^ 64) (hD : 0 < D) (hr1 : N + lo * D ≤ hi * 2 ^ 64 * D) (hr2 : hi * 2 ^ 64 * D < N + (lo + 1) * D)
    (gap : ∀ F : Nat, x * N = F * (D * 2 ^ 64 * (2 ^ 64 * 2 ^ s)) ∨ x * N + 2 * (D * 2 ^ 64) ≤ F * (D * 2 ^ 64 * (2 ^ 64 * 2 ^ s)) ∨ F * (D * 2 ^ 64 * (2 ^ 64 * 2 ^ s)) + 2 * (D * 2 ^ 64) ≤ x * N) :
    uscN x hi lo s = unr (x * N) (D * 2 ^ 64 * (2 ^ 64 * 2 ^ s)) := by
  obtain ⟨H, hH⟩ : ∃ H, H = x * hi / 2 ^ 64 := ⟨_, rfl⟩
  obtain ⟨M, hM⟩ : ∃ M, M = x * hi % 2 ^ 64 := ⟨_, rfl⟩
  obtain ⟨M2, hM2⟩ : ∃ M2, M2 = x * lo / 2 ^ 64 := ⟨_, rfl⟩
  obtain ⟨L2, hL2⟩ : ∃ L2, L2 = x * lo % 2 ^ 64 := ⟨_, rfl⟩
  have eH : x * hi = H * 2 ^ 64 + M := by rw [hH, hM, Nat.mul_comm _ (2 ^ 64)]; exact (Nat.div_add_mod _ _).symm
  have eM2 : x * lo = M2 * 2 ^ 64 + L2 := by rw [hM2, hL2, Nat.mul_comm _ (2 ^ 64)]; exact (Nat.div_add_mod _ _).symm
  have hM64 : M < 2 ^ 64 := by rw [hM]; exact Nat.mod_lt _ (by decide)
  have hL64 : L2 < 2 ^ 64 := by rw [hL2]; exact Nat.mod_lt _ (by decide)
  have hM2b : M2 + 2 ≤ 2 ^ 64 := by
    have h1 : x * lo ≤ (2 ^ 64 - 1) * (2 ^ 64 - 1) := Nat.mul_le_mul (by omega) (by omega)
    have : M2 * 2 ^ 64 ≤ (2 ^ 64 - 1) * (2 ^ 64 - 1) := by omega
    omega
  -- the number between
  obtain ⟨G, hG⟩ : ∃ G, G = D * 2 ^ 64 := ⟨_, rfl⟩
  have hG0 : 0 < G := by rw [hG]; exact Nat.mul_pos hD (by decide)
  rw [← hG] at gap ⊢
  obtain ⟨S, hS⟩ : ∃ S, S = 2 ^ s := ⟨_, rfl⟩
  have hS0 : 0 < S := by rw [hS]; exact Nat.two_pow_pos s
  rw [← hS] at gap ⊢
  have up : x * N + M2 * G ≤ (H * 2 ^ 64 + M) * G := by
    have h1 := Nat.mul_le_mul_left x hr1
    rw [Nat.mul_add, ← Nat.mul_assoc x lo D, eM2, ← Nat.mul_assoc x (hi * 2 ^ 64) D, ← Nat.mul_assoc x hi, eH] at h1
    rw [hG]
    have e1 : (H * 2 ^ 64 + M) * (D * 2 ^ 64) = (H * 2 ^ 64 + M) * 2 ^ 64 * D := by rw [Nat.mul_comm D, Nat.mul_assoc]
    have e2 : M2 * (D * 2 ^ 64) = M2 * 2 ^ 64 * D := by rw [Nat.mul_comm D, Nat.mul_assoc]
    rw [Nat.add_mul (M2 * 2 ^ 64)] at h1
    omega
  have down : (H * 2 ^ 64 + M) * G < x * N + M2 * G + 2 * G := by
    have h1 := Nat.mul_lt_mul_of_pos_left hr2 hx0
    rw [Nat.mul_add, ← Nat.mul_assoc x (lo + 1) D, Nat.mul_add x lo 1, eM2, ← Nat.mul_assoc x (hi * 2 ^ 64) D, ← Nat.mul_assoc x hi, eH, Nat.mul_one] at h1
    rw [hG]
    exact down_aux h1 (Nat.le_of_lt hL64) (Nat.le_of_lt hx)
  unfold uscN
  rw [← hH, ← hM, ← hM2, ← hS]
  have hHd := Nat.div_add_mod H S
  obtain ⟨F, hF⟩ : ∃ F, F = H / S := ⟨_, rfl⟩
  obtain ⟨r, hr⟩ : ∃ r, r = H % S := ⟨_, rfl⟩
  have hrS : r < S := by rw [hr]; exact Nat.mod_lt _ hS0
  rw [← hF, ← hr] at hHd
  rw [← hF, ← hr]
  -- all in units of G
  have big : ∀ A B : Nat, A < B → A * G + G ≤ B * G := fun A B h => by
    have := Nat.mul_le_mul_right G (show A + 1 ≤ B from h)
    rw [Nat.add_mul, Nat.one_mul] at this
    exact this
  have eR : ∀ f : Nat, f * (G * (2 ^ 64 * S)) = f * S * 2 ^ 64 * G := fun f => by
    rw [Nat.mul_comm G, ← Nat.mul_assoc, ← Nat.mul_assoc f, Nat.mul_right_comm f]
  have eHS : H = F * S + r := by rw [← hHd, Nat.mul_comm S]
  by_cases hr0 : r ≠ 0
  · rw [if_pos hr0]
    refine (unr_in ?_ ?_).symm
    · rw [eR]
      have b := big (F * S * 2 ^ 64 + M2 + 1) (H * 2 ^ 64 + M) (by rw [eHS]; omega)
      rw [Nat.add_mul (F * S * 2 ^ 64 + M2), Nat.add_mul (F * S * 2 ^ 64), Nat.one_mul] at b
      exact fin1 up down b
    · rw [eR, Nat.add_mul F 1 S, Nat.one_mul]
      have b := big (H * 2 ^ 64 + M) ((F * S + S) * 2 ^ 64 + M2) (by rw [eHS]; omega)
      rw [Nat.add_mul ((F * S + S) * 2 ^ 64)] at b
      exact fin2 hG0 up b
  · have hr0' : r = 0 := by omega
    rw [if_neg hr0]
    rw [hr0', Nat.add_zero] at eHS
    by_cases hlt : M < M2
    · rw [if_pos hlt]
      have hFp : 0 < F := by
        rcases Nat.eq_zero_or_pos F with h | h
        · exfalso
          have h1 : H = 0 := by rw [eHS, h, Nat.zero_mul]
          rw [h1, Nat.zero_mul, Nat.zero_add] at up
          have b := big M M2 hlt
          exact fin3 hG0 up b
        · exact h
      have eF1 : (H - 1) / S = F - 1 := by
        rw [Nat.div_eq_iff hS0, Nat.sub_mul, Nat.one_mul]
        have : S ≤ F * S := Nat.le_mul_of_pos_left _ hFp
        omega
      rw [eF1]
      have hFS : (F - 1) * S + S = F * S := by rw [Nat.sub_mul, Nat.one_mul]; have : S ≤ F * S := Nat.le_mul_of_pos_left _ hFp; omega
      refine (unr_in ?_ ?_).symm
      · rw [eR]
        have b := big ((F - 1) * S * 2 ^ 64 + M2 + 1) (H * 2 ^ 64 + M) (by rw [eHS, ← hFS]; omega)
        rw [Nat.add_mul ((F - 1) * S * 2 ^ 64 + M2), Nat.add_mul ((F - 1) * S * 2 ^ 64), Nat.one_mul] at b
        exact fin1 up down b
      · rw [eR, Nat.sub_add_cancel hFp, ← eHS]
        have b := big (H * 2 ^ 64 + M) (H * 2 ^ 64 + M2) (by omega)
        rw [Nat.add_mul _ M2] at b
        exact fin2 hG0 up b
    · rw [if_neg hlt]
      by_cases hgt : M - M2 > 1
      · rw [if_pos hgt]
        refine (unr_in ?_ ?_).symm
        · rw [eR, ← eHS]
          have b := big (H * 2 ^ 64 + M2 + 1) (H * 2 ^ 64 + M) (by omega)
          rw [Nat.add_mul (H * 2 ^ 64 + M2), Nat.add_mul (H * 2 ^ 64), Nat.one_mul] at b
          exact fin1 up down b
        · rw [eR, Nat.add_mul F 1 S, Nat.one_mul, ← eHS]
          have b := big (H * 2 ^ 64 + M) ((H + S) * 2 ^ 64 + M2) (by omega)
          rw [Nat.add_mul ((H + S) * 2 ^ 64)] at b
          exact fin2 hG0 up b
      · rw [if_neg hgt, Nat.or_zero]
        rcases gap F with g | g | g
        · rw [g, unr_at (Nat.mul_pos hG0 (Nat.mul_pos (by decide) hS0))]
        · exfalso
          rw [eR, ← eHS] at g
          have b := Nat.mul_le_mul_right G (show H * 2 ^ 64 + M2 ≤ H * 2 ^ 64 + M by omega)
          rw [Nat.add_mul _ M2] at b
          exact fin4 hG0 down g b
        · exfalso
          rw [eR, ← eHS] at g
          have b := Nat.mul_le_mul_right G (show H * 2 ^ 64 + M ≤ H * 2 ^ 64 + M2 + 1 by omega)
          rw [Nat.add_mul _ 1, Nat.add_mul _ M2, Nat.one_mul] at b
          exact fin5 hG0 up g b

theorem gap_aux {A C D B V W Q R G : Nat} (h : A = C ∨ C * B + D ≤ A * B ∨ A * B + D ≤ C * B) (hW : W = V * B) (hQ : Q = W * A) (hR : R = W * C) (hG : 2 * G ≤ V * D) :
    Q = R ∨ Q + 2 * G ≤ R ∨ R + 2 * G ≤ Q := by
  subst hW hQ hR
  have m : ∀ a b : Nat, a * B + D ≤ b * B → V * B * a + 2 * G ≤ V * B * b := fun a b h => by
    have := Nat.mul_le_mul_left V h
    rw [Nat.mul_add] at this
    have e1 : V * (a * B) = V * B * a := by rw [Nat.mul_comm a, Nat.mul_assoc]
    have e2 : V * (b * B) = V * B * b := by rw [Nat.mul_comm b, Nat.mul_assoc]
    omega
  rcases h with h | h | h
  · left; rw [h]
  · right; right; exact m _ _ h
  · right; left; exact m _ _ h

theorem far_nat {Y B N D h1 k1 h2 k2 : Nat} (h : cfOk Y B N D h1 k1 h2 k2 = true) (hB : 0 < B) (y n : Nat) (hy : 0 < y) (hY : y < Y) :
    y * N = n * D ∨ n * D * B + D ≤ y * N * B ∨ y * N * B + D ≤ n * D * B := by
  have h' := far_of_ok h hB y (n : Int) hy hY
  have e : ((y : Int) * N - n * D) * B = ((y * N * B : Nat) : Int) - ((n * D * B : Nat) : Int) := by simp [Int.sub_mul]
  have e0 : ((y : Int) * N - n * D) = ((y * N : Nat) : Int) - ((n * D : Nat) : Int) := by simp
  rw [Int.neg_mul, e, e0] at h'
  omega

theorem cfAt_ok {Y B c i : Nat} (h : cfAt Y B c i = true) : ∃ h1 k1 h2 k2, cfOk Y B (tenN ((i : Int) - 348) c) (tenD ((i : Int) - 348)) h1 k1 h2 k2 = true := by
  unfold cfAt at h
  generalize cfGo Y 120 (tenN ((i : Int) - 348) c) (tenD ((i : Int) - 348)) 0 1 1 0 = r at h
  obtain ⟨a, b, c, d⟩ := r
  exact ⟨a, b, c, d, h⟩

theorem tenN_add (p : Int) (c d : Nat) : tenN p (c + d) = tenN p c * 2 ^ d := by
  unfold tenN
  by_cases h : 0 ≤ p
  · rw [if_pos h, if_pos h, Nat.pow_add, Nat.mul_assoc]
  · rw [if_neg h, if_neg h, ← Nat.pow_add]
    congr 1
    omega
theorem tenD_pos (p : Int) : 0 < tenD p := by
  unfold tenD
  split
  · exact Nat.two_pow_pos _
  · exact Nat.pow_pos (by decide)

theorem gap_r1 {y a N b c : Nat} (h : c = a * b) : y * a * (N * b) = c * (y * N) := by subst h; ac_rfl
theorem gap_r2 {F D a u b c : Nat} (h : c = a * (a * b)) : F * (D * a * (a * (u * b))) = c * (F * u * D) := by subst h; ac_rfl

/-- The numbers that fixedWidthFloat scales. -/
theorem gap_a (i y s : Nat) (hi : i < 696) (hy0 : 0 < y) (hy : y < 2 ^ 53) (hs : 1 ≤ s) (F : Nat) :
    y * 2 ^ 11 * tenN ((i : Int) - 348) 127 = F * (tenD ((i : Int) - 348) * 2 ^ 64 * (2 ^ 64 * 2 ^ s)) ∨
    y * 2 ^ 11 * tenN ((i : Int) - 348) 127 + 2 * (tenD ((i : Int) - 348) * 2 ^ 64) ≤ F * (tenD ((i : Int) - 348) * 2 ^ 64 * (2 ^ 64 * 2 ^ s)) ∨
    F * (tenD ((i : Int) - 348) * 2 ^ 64 * (2 ^ 64 * 2 ^ s)) + 2 * (tenD ((i : Int) - 348) * 2 ^ 64) ≤ y * 2 ^ 11 * tenN ((i : Int) - 348) 127 := by
  obtain ⟨h1, k1, h2, k2, hc⟩ := cfAt_ok (List.all_eq_true.1 cert_a i (List.mem_range.2 hi))
  have hf := far_nat hc (Nat.two_pow_pos 64) y (F * 2 ^ (s - 1)) hy0 hy
  have e1 : tenN ((i : Int) - 348) 127 = tenN ((i : Int) - 348) 9 * 2 ^ 118 := tenN_add _ 9 118
  obtain ⟨N, hN⟩ : ∃ N, N = tenN ((i : Int) - 348) 9 := ⟨_, rfl⟩
  obtain ⟨D, hD⟩ : ∃ D, D = tenD ((i : Int) - 348) := ⟨_, rfl⟩
  rw [← hN] at e1 hf
  rw [← hD] at hf ⊢
  rw [e1]
  refine gap_aux (W := 2 ^ 65 * 2 ^ 64) (V := 2 ^ 65) hf rfl ?_ ?_ (by omega)
  · exact gap_r1 (by decide)
  · obtain ⟨t, rfl⟩ : ∃ t, s = t + 1 := ⟨s - 1, by omega⟩
    rw [Nat.add_sub_cancel, Nat.pow_succ]
    exact gap_r2 (by decide)

/-- The numbers that shortFloat scales. -/
theorem gap_b (i y s : Nat) (hi : i < 696) (hy0 : 0 < y) (hy : y < 2 ^ 55) (hs : 5 ≤ s) (F : Nat) :
    y * 2 ^ 9 * tenN ((i : Int) - 348) 127 = F * (tenD ((i : Int) - 348) * 2 ^ 64 * (2 ^ 64 * 2 ^ s)) ∨
    y * 2 ^ 9 * tenN ((i : Int) - 348) 127 + 2 * (tenD ((i : Int) - 348) * 2 ^ 64) ≤ F * (tenD ((i : Int) - 348) * 2 ^ 64 * (2 ^ 64 * 2 ^ s)) ∨
    F * (tenD ((i : Int) - 348) * 2 ^ 64 * (2 ^ 64 * 2 ^ s)) + 2 * (tenD ((i : Int) - 348) * 2 ^ 64) ≤ y * 2 ^ 9 * tenN ((i : Int) - 348) 127 := by
  obtain ⟨h1, k1, h2, k2, hc⟩ := cfAt_ok (List.all_eq_true.1 cert_b i (List.mem_range.2 hi))
  have hf := far_nat hc (Nat.two_pow_pos 66) y (F * 2 ^ (s - 5)) hy0 hy
  have e1 : tenN ((i : Int) - 348) 127 = tenN ((i : Int) - 348) 3 * 2 ^ 124 := tenN_add _ 3 124
  obtain ⟨N, hN⟩ : ∃ N, N = tenN ((i : Int) - 348) 3 := ⟨_, rfl⟩
  obtain ⟨D, hD⟩ : ∃ D, D = tenD ((i : Int) - 348) := ⟨_, rfl⟩
  rw [← hN] at e1 hf
  rw [← hD] at hf ⊢
  rw [e1]
  refine gap_aux (W := 2 ^ 67 * 2 ^ 66) (V := 2 ^ 67) hf rfl ?_ ?_ (by omega)
  · exact gap_r1 (by decide)
  · obtain ⟨t, rfl⟩ : ∃ t, s = t + 5 := ⟨s - 5, by omega⟩
    rw [Nat.add_sub_cancel, Nat.pow_add]
    exact gap_r2 (by decide)

theorem rowsOk_at : ∀ (l : List (Nat × Nat)) (j : Nat), rowsOk l j = true → ∀ (i : Nat) (r : Nat × Nat), l[i]? = some r →
    r.1 < 2 ^ 64 ∧ r.2 < 2 ^ 64 ∧ 2 ^ 63 ≤ r.1 ∧ tenN (((j + i : Nat) : Int) - 348) 127 + r.2 * tenD (((j + i : Nat) : Int) - 348) ≤ r.1 * 2 ^ 64 * tenD (((j + i : Nat) : Int) - 348) ∧
      r.1 * 2 ^ 64 * tenD (((j + i : Nat) : Int) - 348) < tenN (((j + i : Nat) : Int) - 348) 127 + (r.2 + 1) * tenD (((j + i : Nat) : Int) - 348)
  | [], _, _, i, r, hr => by simp at hr
  | a :: l, j, h, i, r, hr => by
    simp only [rowsOk, Bool.and_eq_true, decide_eq_true_eq] at h
    obtain ⟨⟨⟨⟨⟨q1, q2⟩, q3⟩, q4⟩, q5⟩, q6⟩ := h
    cases i with
    | zero =>
      simp only [List.getElem?_cons_zero, Option.some.injEq] at hr
      subst hr
      exact ⟨q1, q2, q3, q4, q5⟩
    | succ i =>
      rw [List.getElem?_cons_succ] at hr
      have := rowsOk_at l (j + 1) q6 i r hr
      rwa [show j + 1 + i = j + (i + 1) by omega] at this


/-- The nearest whole number; at a tie the even one. -/
def rh (N D : Nat) : Nat := if 2 * (N % D) < D then N / D else if D < 2 * (N % D) then N / D + 1 else N / D + N / D % 2

theorem or_one (x : Nat) : x ||| 1 = x / 2 * 2 + 1 := by
  have h : (x ||| 1) / 2 = x / 2 := by
    have := Nat.or_div_two (a := x) (b := 1)
    simpa using this
  have h2 : (x ||| 1) % 2 = 1 := by
    have := Nat.or_mod_two_pow (a := x) (b := 1) (n := 1)
    rw [Nat.pow_one] at this
    rw [this]
    rcases Nat.mod_two_eq_zero_or_one x with e | e <;> rw [e] <;> rfl
  omega

theorem unr_form {N D F R : Nat} (h : N = F * D + R) (hR : R < D) : unr N D = if R = 0 then F else F / 2 * 2 + 1 := by
  have hD : 0 < D := by omega
  have e1 : N / D = F := by rw [h, Nat.mul_comm, Nat.mul_add_div hD, Nat.div_eq_of_lt hR, Nat.add_zero]
  have e2 : N % D = R := by rw [h, Nat.mul_comm, Nat.mul_add_mod, Nat.mod_eq_of_lt hR]
  unfold unr
  rw [e1, e2]
  by_cases h0 : R = 0
  · rw [if_pos h0, if_pos h0, Nat.or_zero]
  · rw [if_neg h0, if_neg h0, or_one]

theorem rh_form {N D F R : Nat} (h : N = F * D + R) (hR : R < D) : rh N D = if 2 * R < D then F else if D < 2 * R then F + 1 else F + F % 2 := by
  have hD : 0 < D := by omega
  have e1 : N / D = F := by rw [h, Nat.mul_comm, Nat.mul_add_div hD, Nat.div_eq_of_lt hR, Nat.add_zero]
  have e2 : N % D = R := by rw [h, Nat.mul_comm, Nat.mul_add_mod, Nat.mod_eq_of_lt hR]
  unfold rh
  rw [e1, e2]

theorem frac_form (N D : Nat) (hD : 0 < D) : ∃ F R, N = F * D + R ∧ R < D :=
  ⟨N / D, N % D, by rw [Nat.mul_comm]; exact (Nat.div_add_mod N D).symm, Nat.mod_lt _ hD⟩

theorem rh_unr (N D : Nat) (hD : 0 < D) : (unr (4 * N) D + 1 + unr (4 * N) D / 4 % 2) / 4 = rh N D := by
  obtain ⟨F, R, h, hR⟩ := frac_form N D hD
  obtain ⟨c, r, h4, hr⟩ := frac_form (4 * R) D hD
  have hc : c < 4 := by
    rcases Nat.lt_or_ge c 4 with g | g
    · exact g
    · have := Nat.mul_le_mul_right D g; omega
  have e : 4 * N = (4 * F + c) * D + r := by rw [h, Nat.add_mul, Nat.mul_assoc]; omega
  rw [unr_form e hr, rh_form h hR]
  have hcc : c = 0 ∨ c = 1 ∨ c = 2 ∨ c = 3 := by omega
  obtain ⟨g, hg⟩ : ∃ g, F = 2 * g ∨ F = 2 * g + 1 := ⟨F / 2, by omega⟩
  have hF2 : F % 2 = F - 2 * g := by omega
  rw [hF2]
  rcases hcc with rfl | rfl | rfl | rfl <;> by_cases h0 : r = 0 <;> simp only [h0, if_true, if_false] <;> rcases hg with rfl | rfl <;> (repeat' split) <;> omega

theorem unr_scale (N D k : Nat) (hk : 0 < k) : unr (N * k) (D * k) = unr N D := by
  unfold unr
  rw [Nat.mul_div_mul_right _ _ hk, Nat.mul_mod_mul_right]
  congr 1
  by_cases h : N % D = 0
  · rw [h]; simp
  · rw [if_neg h, if_neg]
    intro e
    rcases Nat.mul_eq_zero.1 e with e | e <;> omega

theorem unr_cross {N1 D1 N2 D2 : Nat} (h : N1 * D2 = N2 * D1) (h1 : 0 < D1) (h2 : 0 < D2) : unr N1 D1 = unr N2 D2 := by
  rw [← unr_scale N1 D1 D2 h2, h, Nat.mul_comm D1, unr_scale N2 D2 D1 h1]

theorem rh_scale (N D k : Nat) (hk : 0 < k) : rh (N * k) (D * k) = rh N D := by
  unfold rh
  rw [Nat.mul_div_mul_right _ _ hk, Nat.mul_mod_mul_right, ← Nat.mul_assoc]
  have e1 : 2 * (N % D) * k < D * k ↔ 2 * (N % D) < D := ⟨fun h => Nat.lt_of_mul_lt_mul_right h, fun h => Nat.mul_lt_mul_of_pos_right h hk⟩
  have e2 : D * k < 2 * (N % D) * k ↔ D < 2 * (N % D) := ⟨fun h => Nat.lt_of_mul_lt_mul_right h, fun h => Nat.mul_lt_mul_of_pos_right h hk⟩
  simp only [e1, e2]

theorem rh_cross {N1 D1 N2 D2 : Nat} (h : N1 * D2 = N2 * D1) (h1 : 0 < D1) (h2 : 0 < D2) : rh N1 D1 = rh N2 D2 := by
  rw [← rh_scale N1 D1 D2 h2, h, Nat.mul_comm D1, rh_scale N2 D2 D1 h1]

/-- An unrounded number is divided by ten. -/
theorem unr_div (N D : Nat) (hD : 0 < D) : (unr N D / 10 ||| unr N D % 2) ||| (if unr N D % 10 = 0 then 0 else 1) = unr N (D * 10) := by
  obtain ⟨F, R, h, hR⟩ := frac_form N D hD
  obtain ⟨G, d, hF, hd⟩ := frac_form F 10 (by decide)
  have e : N = G * (D * 10) + (d * D + R) := by
    rw [h, hF, Nat.add_mul]
    have : G * 10 * D = G * (D * 10) := by ac_rfl
    omega
  have hlt : d * D + R < D * 10 := by
    have := Nat.mul_le_mul_right D (show d ≤ 9 by omega)
    omega
  rw [unr_form e hlt, unr_form h hR]
  by_cases hR0 : R = 0
  · subst hR0
    by_cases hd0 : d = 0
    · subst hd0
      have e1 : F / 10 = G := by omega
      have e2 : F % 2 = 0 := by omega
      have e3 : F % 10 = 0 := by omega
      simp [e1, e2, e3]
    · have hdD : d * D + 0 ≠ 0 := by
        have := Nat.mul_pos (show 0 < d by omega) hD
        omega
      have e1 : F / 10 = G := by omega
      have e3 : F % 10 ≠ 0 := by omega
      rw [if_neg hdD, if_pos rfl, if_neg e3, e1, or_one]
      rcases Nat.mod_two_eq_zero_or_one F with e2 | e2 <;> rw [e2]
      · rw [Nat.or_zero]
      · rw [or_one]; omega
  · have hdR : d * D + R ≠ 0 := by omega
    have e1 : (F / 2 * 2 + 1) / 10 = G := by omega
    have e2 : (F / 2 * 2 + 1) % 2 = 1 := by omega
    have e3 : (F / 2 * 2 + 1) % 10 ≠ 0 := by omega
    rw [if_neg hdR, if_neg hR0, if_neg e3, e1, e2, or_one, or_one]
    omega

/-- What rounding answers is at most half a unit away. -/
theorem rh_near (N D : Nat) (hD : 0 < D) : 2 * N ≤ 2 * (rh N D * D) + D ∧ 2 * (rh N D * D) ≤ 2 * N + D := by
  obtain ⟨F, R, h, hR⟩ := frac_form N D hD
  rw [rh_form h hR, h]
  split
  · omega
  · split
    · rw [Nat.add_mul]; omega
    · rcases Nat.mod_two_eq_zero_or_one F with e2 | e2 <;> rw [e2, Nat.add_mul] <;> omega

theorem rh_ge {N D a : Nat} (hD : 0 < D) (h : a * D ≤ N) : a ≤ rh N D := by
  obtain ⟨F, R, e, hR⟩ := frac_form N D hD
  have : a ≤ F := by
    rcases Nat.lt_or_ge F a with g | g
    · have := Nat.mul_le_mul_right D g
      rw [Nat.succ_mul] at this
      omega
    · exact g
  rw [rh_form e hR]
  split
  · exact this
  · split <;> omega

theorem rh_le {N D a : Nat} (hD : 0 < D) (h : N ≤ a * D) : rh N D ≤ a := by
  obtain ⟨F, R, e, hR⟩ := frac_form N D hD
  have hF : F ≤ a := by
    rcases Nat.lt_or_ge a F with g | g
    · have := Nat.mul_le_mul_right D g
      rw [Nat.succ_mul] at this
      omega
    · exact g
  rw [rh_form e hR]
  rcases Nat.lt_or_ge F a with g | g
  · split
    · omega
    · split
      · omega
      · have := Nat.mod_lt F (show 2 > 0 by decide); omega
  · obtain rfl : F = a := by omega
    have : R = 0 := by omega
    subst this
    rw [if_pos (by omega)]
    omega

/-- The unrounded number is at least that which rounds up to a. -/
theorem unr_thr {N D a : Nat} (hD : 0 < D) (ha : 0 < a) : a * 4 - 2 ≤ unr (4 * N) D ↔ (2 * a - 1) * D ≤ 2 * N := by
  obtain ⟨F, R, h, hR⟩ := frac_form (4 * N) D hD
  rw [unr_form h hR]
  obtain ⟨b, rfl⟩ : ∃ b, a = b + 1 := ⟨a - 1, by omega⟩
  have e : (2 * (b + 1) - 1) * D = (2 * b + 1) * D := by congr 1
  rw [e]
  have key : (2 * b + 1) * D ≤ 2 * N ↔ 4 * b + 2 ≤ F := by
    constructor
    · intro g
      rcases Nat.lt_or_ge F (4 * b + 2) with g2 | g2
      · have h2 := Nat.mul_le_mul_right D g2
        rw [Nat.succ_mul] at h2
        have h3 : 2 * ((2 * b + 1) * D) = (4 * b + 2) * D := by rw [← Nat.mul_assoc]; congr 1; omega
        omega
      · exact g2
    · intro g
      have h2 := Nat.mul_le_mul_right D g
      have h3 : 2 * ((2 * b + 1) * D) = (4 * b + 2) * D := by rw [← Nat.mul_assoc]; congr 1; omega
      omega
  rw [key]
  split <;> omega

/-! ### a binary number times a power of ten -/
/-- x times 2 to the e times 10 to the q, times VC. -/
def VN (x : Nat) (e q : Int) : Nat := x * 2 ^ (e + 1200).toNat * 10 ^ (q + 1000).toNat
def VC : Nat := VN 1 0 0

theorem VN_ten (x : Nat) (e q : Int) (t : Nat) (hq : -1000 ≤ q) : VN x e (q + t) = VN x e q * 10 ^ t := by
  unfold VN
  rw [show (q + t + 1000).toNat = (q + 1000).toNat + t by omega, Nat.pow_add 10, ← Nat.mul_assoc]
theorem VN_two (x z : Nat) (e q : Int) (he : -1200 ≤ e) : VN (x * 2 ^ z) e q = VN x (e + z) q := by
  unfold VN
  rw [show (e + z + 1200).toNat = z + (e + 1200).toNat by omega, Nat.pow_add, Nat.mul_assoc x]
theorem VN_mul (x y : Nat) (e q : Int) : VN (x * y) e q = y * VN x e q := by
  unfold VN
  rw [Nat.mul_comm x y, Nat.mul_assoc, Nat.mul_assoc, Nat.mul_assoc]
theorem VN_le {x y : Nat} (h : x ≤ y) (e q : Int) : VN x e q ≤ VN y e q := Nat.mul_le_mul_right _ (Nat.mul_le_mul_right _ h)
theorem VN_lt {x y : Nat} (h : x < y) (e q : Int) : VN x e q < VN y e q :=
  Nat.mul_lt_mul_of_pos_right (Nat.mul_lt_mul_of_pos_right h (Nat.pow_pos (by decide))) (Nat.pow_pos (by decide))
theorem VN_add (x y : Nat) (e q : Int) : VN (x + y) e q = VN x e q + VN y e q := by
  unfold VN
  rw [Nat.add_mul, Nat.add_mul]
theorem VN_pos {x : Nat} (h : 0 < x) (e q : Int) : 0 < VN x e q := Nat.mul_pos (Nat.mul_pos h (Nat.pow_pos (by decide))) (Nat.pow_pos (by decide))
theorem VC_pos : 0 < VC := VN_pos (by decide) 0 0

/-- ⌊k log 2⌋. -/
def l2 (k : Int) : Int := k * 78913 / 262144
def l2Ok (k : Int) : Bool := decide (VC ≤ VN 1 k (-l2 k)) && decide (VN 1 k (-l2 k - 1) < VC)
set_option maxRecDepth 100000 in
theorem l2_table : (List.range 2400).all (fun i => l2Ok ((i : Int) - 1200)) = true := by decide +kernel
theorem l2_at (k : Int) (h0 : -1200 ≤ k) (h1 : k < 1200) : VC ≤ VN 1 k (-l2 k) ∧ VN 1 k (-l2 k - 1) < VC := by
  have := List.all_eq_true.1 l2_table (k + 1200).toNat (List.mem_range.2 (by omega))
  rw [show (((k + 1200).toNat : Nat) : Int) - 1200 = k by omega] at this
  simpa [l2Ok] using this

/-- 10 to the K - 1 ≤ the number < 10 to the K. -/
def Dec (M : Nat) (E K : Int) : Prop := VC ≤ VN M E (1 - K) ∧ VN M E (-K) < VC


def rowHi (i : Nat) : Nat := (Go.Pinned.pow10Rows.getD i (0, 0)).1
def rowLo (i : Nat) : Nat := (Go.Pinned.pow10Rows.getD i (0, 0)).2

set_option maxRecDepth 100000 in
theorem rows_len : Go.Pinned.pow10Rows.length = 696 := by decide +kernel

theorem row_at (i : Nat) (hi : i < 696) : rowHi i < 2 ^ 64 ∧ rowLo i < 2 ^ 64 ∧ 2 ^ 63 ≤ rowHi i ∧ tenN ((i : Int) - 348) 127 + rowLo i * tenD ((i : Int) - 348) ≤ rowHi i * 2 ^ 64 * tenD ((i : Int) - 348) ∧
    rowHi i * 2 ^ 64 * tenD ((i : Int) - 348) < tenN ((i : Int) - 348) 127 + (rowLo i + 1) * tenD ((i : Int) - 348) := by
  have hl : i < Go.Pinned.pow10Rows.length := by rw [rows_len]; exact hi
  have h := rowsOk_at _ 0 rows_ok i _ (List.getElem?_eq_getElem hl)
  rw [Nat.zero_add] at h
  have e : Go.Pinned.pow10Rows.getD i (0, 0) = Go.Pinned.pow10Rows[i] := by rw [List.getD_eq_getElem?_getD, List.getElem?_eq_getElem hl]; rfl
  unfold rowHi rowLo
  rw [e]
  exact h

theorem cross_pos (x P B C A L s : Nat) (h : A + s + L + 3 = B) : x * (10 ^ P * 2 ^ 127) * (2 ^ B * 10 ^ C) = 4 * (x * 2 ^ A * 10 ^ (P + C)) * (2 ^ L * 2 ^ 64 * (2 ^ 64 * 2 ^ s)) := by
  subst h
  rw [Nat.pow_add 10, Nat.pow_add 2 (A + s + L) 3, Nat.pow_add 2 (A + s) L, Nat.pow_add 2 A s]
  have e : (2 : Nat) ^ 127 * 2 ^ 3 = 4 * (2 ^ 64 * 2 ^ 64) := by decide
  generalize (2 : Nat) ^ 127 = u1 at e ⊢
  generalize (2 : Nat) ^ 3 = u2 at e ⊢
  generalize (2 : Nat) ^ 64 = u3 at e ⊢
  generalize 2 ^ A = a
  generalize 2 ^ s = b
  generalize 2 ^ L = l
  generalize 10 ^ P = p
  generalize 10 ^ C = c
  calc x * (p * u1) * (a * b * l * u2 * c) = (u1 * u2) * (x * p * a * b * l * c) := by ac_rfl
    _ = 4 * (u3 * u3) * (x * p * a * b * l * c) := by rw [e]
    _ = _ := by ac_rfl

theorem cross_neg (x P B C A l s : Nat) (h : A + s + 3 = B + l) : x * 2 ^ (127 + l) * (2 ^ B * 10 ^ (C + P)) = 4 * (x * 2 ^ A * 10 ^ C) * (10 ^ P * 2 ^ 64 * (2 ^ 64 * 2 ^ s)) := by
  have e0 : 2 ^ (127 + l) * 2 ^ B = 2 ^ 127 * (2 ^ A * 2 ^ s * 2 ^ 3) := by
    rw [← Nat.pow_add 2 A s, ← Nat.pow_add 2 (A + s) 3, ← Nat.pow_add, ← Nat.pow_add, show 127 + l + B = 127 + (A + s + 3) by omega]
  rw [Nat.pow_add 10]
  have e : (2 : Nat) ^ 127 * 2 ^ 3 = 4 * (2 ^ 64 * 2 ^ 64) := by decide
  generalize (2 : Nat) ^ (127 + l) = u0 at e0 ⊢
  generalize (2 : Nat) ^ B = ub at e0 ⊢
  generalize (2 : Nat) ^ 127 = u1 at e e0
  generalize (2 : Nat) ^ 3 = u2 at e e0
  generalize (2 : Nat) ^ 64 = u3 at e ⊢
  generalize 2 ^ A = a at e0 ⊢
  generalize 2 ^ s = b at e0 ⊢
  generalize 10 ^ P = p
  generalize 10 ^ C = c
  calc x * u0 * (ub * (c * p)) = (u0 * ub) * (x * c * p) := by ac_rfl
    _ = (u1 * u2) * (a * b * (x * c * p)) := by rw [e0]; ac_rfl
    _ = 4 * (u3 * u3) * (a * b * (x * c * p)) := by rw [e]
    _ = _ := by ac_rfl

theorem lp_pos (p : Int) (h : 0 ≤ p) : 0 ≤ lp10 p := by unfold lp10; omega
theorem lp_neg (p : Int) (h : p < 0) : lp10 p < 0 := by unfold lp10; omega

theorem usc_cross (x : Nat) (e p : Int) (s : Nat) (hp0 : -348 ≤ p) (he : -1200 ≤ e) (hs : (s : Int) = -(e + lp10 p + 3)) :
    x * tenN p 127 * VC = 4 * VN x e p * (tenD p * 2 ^ 64 * (2 ^ 64 * 2 ^ s)) := by
  unfold tenN tenD VC VN
  rw [Nat.one_mul]
  by_cases hp : 0 ≤ p
  · rw [if_pos hp, if_pos hp]
    have hl := lp_pos p hp
    rw [show (p + 1000).toNat = p.toNat + ((0 : Int) + 1000).toNat by omega]
    exact cross_pos x p.toNat _ _ (e + 1200).toNat (lp10 p).toNat s (by omega)
  · rw [if_neg hp, if_neg hp]
    have hl := lp_neg p (by omega)
    have h := cross_neg x (-p).toNat ((0 : Int) + 1200).toNat (p + 1000).toNat (e + 1200).toNat (-lp10 p).toNat s (by omega)
    rw [show (p + 1000).toNat + (-p).toNat = ((0 : Int) + 1000).toNat by omega] at h
    exact h

theorem usc_law (x : Nat) (e p : Int) (s : Nat) (hp0 : -348 ≤ p) (hp1 : p ≤ 347) (he : -1200 ≤ e) (hx0 : 0 < x) (hx : x < 2 ^ 64) (hs : (s : Int) = -(e + lp10 p + 3))
    (gap : ∀ F : Nat, x * tenN p 127 = F * (tenD p * 2 ^ 64 * (2 ^ 64 * 2 ^ s)) ∨ x * tenN p 127 + 2 * (tenD p * 2 ^ 64) ≤ F * (tenD p * 2 ^ 64 * (2 ^ 64 * 2 ^ s)) ∨ F * (tenD p * 2 ^ 64 * (2 ^ 64 * 2 ^ s)) + 2 * (tenD p * 2 ^ 64) ≤ x * tenN p 127) :
    uscN x (rowHi (p + 348).toNat) (rowLo (p + 348).toNat) s = unr (4 * VN x e p) VC := by
  have hr := row_at (p + 348).toNat (by omega)
  rw [show (((p + 348).toNat : Nat) : Int) - 348 = p by omega] at hr
  obtain ⟨_, h2, _, h4, h5⟩ := hr
  rw [usc_eq x _ _ s (tenN p 127) (tenD p) hx hx0 h2 (tenD_pos p) h4 h5 gap]
  exact unr_cross (usc_cross x e p s hp0 he hs) (Nat.mul_pos (Nat.mul_pos (tenD_pos p) (Nat.pow_pos (by decide))) (Nat.mul_pos (Nat.pow_pos (by decide)) (Nat.pow_pos (by decide)))) VC_pos

/-- The numbers that fixedWidthFloat scales. -/
theorem usc_a (y : Nat) (e p : Int) (s : Nat) (hp0 : -348 ≤ p) (hp1 : p ≤ 347) (he : -1200 ≤ e) (hy0 : 0 < y) (hy : y < 2 ^ 53) (hs : (s : Int) = -(e + lp10 p + 3)) (hs1 : 1 ≤ s) :
    uscN (y * 2 ^ 11) (rowHi (p + 348).toNat) (rowLo (p + 348).toNat) s = unr (4 * VN (y * 2 ^ 11) e p) VC := by
  refine usc_law (y * 2 ^ 11) e p s hp0 hp1 he (by omega) (by omega) hs fun F => ?_
  have h := gap_a (p + 348).toNat y s (by omega) hy0 hy hs1 F
  rw [show (((p + 348).toNat : Nat) : Int) - 348 = p by omega] at h
  exact h
/-- The numbers that shortFloat scales. -/
theorem usc_b (y : Nat) (e p : Int) (s : Nat) (hp0 : -348 ≤ p) (hp1 : p ≤ 347) (he : -1200 ≤ e) (hy0 : 0 < y) (hy : y < 2 ^ 55) (hs : (s : Int) = -(e + lp10 p + 3)) (hs1 : 5 ≤ s) :
    uscN (y * 2 ^ 9) (rowHi (p + 348).toNat) (rowLo (p + 348).toNat) s = unr (4 * VN (y * 2 ^ 9) e p) VC := by
  refine usc_law (y * 2 ^ 9) e p s hp0 hp1 he (by omega) (by omega) hs fun F => ?_
  have h := gap_b (p + 348).toNat y s (by omega) hy0 hy hs1 F
  rw [show (((p + 348).toNat : Nat) : Int) - 348 = p by omega] at h
  exact h

/-! ### sizes -/
theorem VN_one (k q : Int) (x z : Nat) (hz : x = 2 ^ z) (e : Int) (hk : k = e + z) (he : -1200 ≤ e) : VN x e q = VN 1 k q := by
  have := VN_two 1 z e q he
  rw [Nat.one_mul] at this
  rw [hz, this, hk]

/-- A number whose highest bit is 2 to the k, times a power of ten that makes n digits of it. -/
theorem size_lo (x : Nat) (e k : Int) (n : Nat) (hx : VN 1 k (-l2 k) ≤ VN x e (-l2 k)) (h0 : -1200 ≤ k) (h1 : k < 1200) : VC * 10 ^ n ≤ VN x e (-l2 k + n) := by
  have hl : -1000 ≤ -l2 k := by unfold l2; omega
  rw [VN_ten _ _ _ _ hl]
  exact Nat.mul_le_mul_right _ (Nat.le_trans (l2_at k h0 h1).1 hx)
theorem size_hi (x : Nat) (e k : Int) (n : Nat) (c : Nat) (hx : VN x e (-l2 k - 1) < c * VN 1 k (-l2 k - 1)) (h0 : -1200 ≤ k) (h1 : k < 1200) : VN x e (-l2 k - 1 + n) < c * VC * 10 ^ n := by
  have hl : -1000 ≤ -l2 k - 1 := by unfold l2; omega
  rw [VN_ten _ _ _ _ hl]
  exact Nat.mul_lt_mul_of_pos_right (Nat.lt_of_lt_of_le hx (Nat.mul_le_mul_left _ (Nat.le_of_lt (l2_at k h0 h1).2))) (Nat.pow_pos (by decide))

/-! ### digits without the noughts at their end -/
def strip (l : List UInt8) : List UInt8 := (l.reverse.dropWhile (· == 48)).reverse
theorem strip_snoc_zero (l : List UInt8) : strip (l ++ [48]) = strip l := by
  unfold strip
  rw [List.reverse_append, List.reverse_singleton, List.singleton_append, List.dropWhile_cons_of_pos (by decide)]
theorem strip_snoc (l : List UInt8) (c : UInt8) (h : c ≠ 48) : strip (l ++ [c]) = l ++ [c] := by
  unfold strip
  rw [List.reverse_append, List.reverse_singleton, List.singleton_append, List.dropWhile_cons_of_neg (by simpa using h)]
  simp
theorem strip_nil : strip [] = [] := rfl

/-- A number's digits without the noughts at their end. -/
def cutD (d : Nat) : List UInt8 := strip (Lib.decDigits d)
theorem cutD_ten (d : Nat) (h : 0 < d) : cutD (d * 10) = cutD d := by
  unfold cutD
  have e : Lib.decDigits (d * 10) = Lib.decDigits d ++ [48] := by
    rw [Lib.decDigits, dif_neg (by omega), show d * 10 / 10 = d by omega, show d * 10 % 10 = 0 by omega]
    rfl
  rw [e, strip_snoc_zero]
theorem nDigits_ten (d : Nat) (h : 0 < d) : Lib.nDigits (d * 10) = Lib.nDigits d + 1 := by
  rw [Lib.nDigits_big (by omega), show d * 10 / 10 = d by omega]

/-- Where the point stands: behind so many digits; 0 for 0. -/
def pt (d : Nat) (q : Int) : Int := if d = 0 then 0 else (Lib.nDigits d : Int) - q

/-! ### fixedWidthFloat -/
/-- What it reckons with n digits: the number and the power of ten taken. -/
def fixP (k : Int) (n : Nat) : Int := (n : Int) - 1 - l2 k
def fixU (M : Nat) (E k : Int) (n : Nat) : Bool := decide (10 ^ n * 4 - 2 ≤ unr (4 * VN M E (fixP k n)) VC)
def fixQ (M : Nat) (E k : Int) (n : Nat) : Int := if fixU M E k n then fixP k n - 1 else fixP k n

theorem dec_digits {M : Nat} {E K : Int} (h : Dec M E K) (hK0 : -900 ≤ K) (hK1 : K ≤ 900) (n : Nat) (hn : 1 ≤ n) : VC * 10 ^ (n - 1) ≤ VN M E (n - K) ∧ VN M E (n - K) < VC * 10 ^ n := by
  obtain ⟨h1, h2⟩ := h
  constructor
  · have e := VN_ten M E (1 - K) (n - 1) (by omega)
    rw [show 1 - K + ((n - 1 : Nat) : Int) = n - K by omega] at e
    rw [e]
    exact Nat.mul_le_mul_right _ h1
  · have e := VN_ten M E (-K) n (by omega)
    rw [show -K + (n : Int) = n - K by omega] at e
    rw [e]
    exact Nat.mul_lt_mul_of_pos_right h2 (Nat.pow_pos (by decide))

theorem pow10_succ (n : Nat) (hn : 1 ≤ n) : 10 ^ n = 10 ^ (n - 1) * 10 := by
  rw [← Nat.pow_succ]; congr 1; omega

/-- For e and g: n digits. -/
theorem fix_law (M : Nat) (E k K : Int) (n : Nat) (hn : 1 ≤ n) (hn18 : n ≤ 18) (hK : Dec M E K) (hK0 : -900 ≤ K) (hK1 : K ≤ 900) (h0 : -1150 ≤ k) (h1 : k < 1150)
    (hlo : VN 1 k (-l2 k) ≤ VN M E (-l2 k)) (hhi : VN M E (-l2 k - 1) < 2 * VN 1 k (-l2 k - 1)) :
    0 < rh (VN M E (fixQ M E k n)) VC ∧ rh (VN M E (fixQ M E k n)) VC ≤ 10 ^ n ∧
    cutD (rh (VN M E (fixQ M E k n)) VC) = cutD (rh (VN M E (n - K)) VC) ∧
    pt (rh (VN M E (fixQ M E k n)) VC) (fixQ M E k n) = pt (rh (VN M E (n - K)) VC) (n - K) := by
  obtain ⟨d1, d2⟩ := dec_digits hK hK0 hK1 n hn
  have s1 := size_lo M E k (n - 1) hlo (by omega) (by omega)
  have s2 := size_hi M E k n 2 hhi (by omega) (by omega)
  have hp := VC_pos
  have ht := pow10_succ n hn
  have htp : 0 < 10 ^ (n - 1) := Nat.pow_pos (by decide)
  obtain ⟨T, hT⟩ : ∃ T, T = 10 ^ (n - 1) := ⟨_, rfl⟩
  rw [← hT] at ht htp d1 s1
  rw [ht] at d2 s2
  have eP : fixP k n = -l2 k + ((n - 1 : Nat) : Int) := by unfold fixP; omega
  have eP' : -l2 k - 1 + (n : Int) = fixP k n := by unfold fixP; omega
  rw [← eP] at s1
  rw [eP'] at s2
  have hPr : -600 ≤ fixP k n ∧ fixP k n ≤ 600 := by unfold fixP l2; omega
  obtain ⟨p, hpp⟩ : ∃ p, p = fixP k n := ⟨_, rfl⟩
  rw [← hpp] at s1 s2 hPr
  obtain ⟨q, hq⟩ : ∃ q, q = (n : Int) - K := ⟨_, rfl⟩
  rw [← hq] at d1 d2 ⊢
  have hqr : -1000 ≤ q ∧ q ≤ 1000 := by omega
  obtain ⟨C, hC⟩ : ∃ C, C = VC := ⟨_, rfl⟩
  rw [← hC] at hp d1 d2 s1 s2
  have comm : C * T = T * C := Nat.mul_comm _ _
  -- p is q or q + 1
  have hpq : p = q ∨ p = q + 1 := by
    rcases Int.lt_trichotomy p q with hlt | heq | hgt
    · exfalso
      have e := VN_ten M E p (q - p - 1).toNat (by omega)
      have e2 := VN_ten M E (p + (q - p - 1).toNat) 1 (by omega)
      rw [show p + ((q - p - 1).toNat : Int) + ((1 : Nat) : Int) = q by omega, e] at e2
      have hz : 1 ≤ 10 ^ (q - p - 1).toNat := Nat.pow_pos (by decide)
      have h3 := Nat.mul_le_mul_left (VN M E p) hz
      rw [Nat.mul_one] at h3
      have h4 : C * (T * 10) = C * T * 10 := by rw [Nat.mul_assoc]
      omega
    · exact Or.inl heq
    · right
      rcases Int.lt_or_le (q + 1) p with hlt | hle
      · exfalso
        have e := VN_ten M E q (p - q - 2).toNat (by omega)
        have e2 := VN_ten M E (q + (p - q - 2).toNat) 2 (by omega)
        rw [show q + ((p - q - 2).toNat : Int) + ((2 : Nat) : Int) = p by omega, e] at e2
        have hz : 1 ≤ 10 ^ (p - q - 2).toNat := Nat.pow_pos (by decide)
        have h3 := Nat.mul_le_mul_left (VN M E q) hz
        rw [Nat.mul_one] at h3
        have h4 : 2 * C * (T * 10) = C * T * 20 := by
          rw [show (20 : Nat) = 2 * 10 from rfl]; ac_rfl
        have h5 : (10 : Nat) ^ 2 = 100 := by decide
        rw [h5] at e2
        omega
      · omega
  have thr := unr_thr (N := VN M E p) hp (show 0 < 10 ^ n from Nat.pow_pos (by decide))
  have fu : fixU M E k n = decide ((2 * 10 ^ n - 1) * C ≤ 2 * VN M E p) := by
    unfold fixU
    rw [← hpp, ← hC]
    simp only [thr]
  have hTC : T ≤ T * C := Nat.le_mul_of_pos_right _ hp
  rcases hpq with e | e
  · subst e
    by_cases hu : (2 * 10 ^ n - 1) * C ≤ 2 * VN M E p
    · -- ten to the n
      have hQ : fixQ M E k n = p - 1 := by unfold fixQ; rw [fu, decide_eq_true hu, if_pos rfl, ← hpp]
      have em := VN_ten M E (p - 1) 1 (by omega)
      rw [show p - 1 + ((1 : Nat) : Int) = p by omega, Nat.pow_one] at em
      rw [ht] at hu
      have hu2 : (2 * (T * 10) - 1) * C + C = 20 * (T * C) := by
        have h1 : (2 * (T * 10) - 1) * C + 1 * C = (2 * (T * 10) - 1 + 1) * C := (Nat.add_mul _ _ _).symm
        rw [Nat.one_mul] at h1
        rw [h1, show 2 * (T * 10) - 1 + 1 = 20 * T by omega, Nat.mul_assoc]
      have hCT : C * (T * 10) = T * C * 10 := by ac_rfl
      have r1 : rh (VN M E p) C = T * 10 := by
        have h3 : VN M E p = (T * 10 - 1) * C + (VN M E p - (T * 10 - 1) * C) := by
          have : (T * 10 - 1) * C + C = T * C * 10 := by
            have h1 : (T * 10 - 1) * C + 1 * C = (T * 10 - 1 + 1) * C := (Nat.add_mul _ _ _).symm
            rw [Nat.one_mul] at h1
            rw [h1, show T * 10 - 1 + 1 = T * 10 by omega]; ac_rfl
          omega
        have h4 : (T * 10 - 1) * C + C = T * C * 10 := by
          have h1 : (T * 10 - 1) * C + 1 * C = (T * 10 - 1 + 1) * C := (Nat.add_mul _ _ _).symm
          rw [Nat.one_mul] at h1
          rw [h1, show T * 10 - 1 + 1 = T * 10 by omega]; ac_rfl
        rw [rh_form h3 (by omega), if_neg (by omega)]
        split
        · omega
        · omega
      have r2 : rh (VN M E (p - 1)) C = T := by
        have h4 : (T - 1) * C + C = T * C := by
          have h1 : (T - 1) * C + 1 * C = (T - 1 + 1) * C := (Nat.add_mul _ _ _).symm
          rw [Nat.one_mul] at h1
          rw [h1, show T - 1 + 1 = T by omega]
        have h3 : VN M E (p - 1) = (T - 1) * C + (VN M E (p - 1) - (T - 1) * C) := by omega
        rw [rh_form h3 (by omega), if_neg (by omega), if_pos (by omega)]
        omega
      rw [hQ, ← hC, r1, r2, ht, cutD_ten T htp]
      refine ⟨htp, by omega, rfl, ?_⟩
      unfold pt
      rw [if_neg (by omega), if_neg (by omega), nDigits_ten T htp]
      omega
    · have hQ : fixQ M E k n = p := by unfold fixQ; rw [fu, decide_eq_false hu, if_neg (by decide), ← hpp]
      rw [hQ, ← hC, ht]
      exact ⟨Nat.lt_of_lt_of_le htp (rh_ge hp (by omega)), rh_le hp (by rw [show T * 10 * C = C * (T * 10) by ac_rfl]; omega), rfl, rfl⟩
  · subst e
    have hu : (2 * 10 ^ n - 1) * C ≤ 2 * VN M E (q + 1) := by
      have em := VN_ten M E q 1 (by omega)
      rw [Nat.pow_one] at em
      have em' : VN M E (q + 1) = VN M E q * 10 := em
      rw [em', ht]
      have h1 : (2 * (T * 10) - 1) * C + 1 * C = (2 * (T * 10) - 1 + 1) * C := (Nat.add_mul _ _ _).symm
      rw [Nat.one_mul, show 2 * (T * 10) - 1 + 1 = 20 * T by omega, Nat.mul_assoc] at h1
      omega
    have hQ : fixQ M E k n = q := by unfold fixQ; rw [fu, decide_eq_true hu, if_pos rfl, ← hpp]; omega
    rw [hQ, ← hC, ht]
    exact ⟨Nat.lt_of_lt_of_le htp (rh_ge hp (by omega)), rh_le hp (by rw [show T * 10 * C = C * (T * 10) by ac_rfl]; omega), rfl, rfl⟩


/-- The number that digits tell. -/
def nv (l : List Nat) : Nat := l.foldl (fun a d => a * 10 + d) 0
theorem nv_nil : nv [] = 0 := rfl
theorem nv_snoc (l : List Nat) (d : Nat) : nv (l ++ [d]) = nv l * 10 + d := by simp [nv]
theorem nv_acc : ∀ (l : List Nat) (a : Nat), l.foldl (fun a d => a * 10 + d) a = a * 10 ^ l.length + nv l
  | [], a => by simp [nv]
  | d :: l, a => by
    have h1 := nv_acc l (a * 10 + d)
    have h2 := nv_acc l (0 * 10 + d)
    unfold nv
    rw [List.foldl_cons, List.foldl_cons, h1, h2, List.length_cons, Nat.pow_succ, Nat.zero_mul, Nat.zero_add, Nat.add_mul]
    have : a * 10 * 10 ^ l.length = a * (10 ^ l.length * 10) := by ac_rfl
    omega
theorem nv_append (a b : List Nat) : nv (a ++ b) = nv a * 10 ^ b.length + nv b := by
  unfold nv
  rw [List.foldl_append, nv_acc b]
  rfl
theorem nv_cons (d : Nat) (l : List Nat) : nv (d :: l) = d * 10 ^ l.length + nv l := by
  have := nv_append [d] l
  simpa [nv] using this
theorem nv_lt : ∀ l : List Nat, (∀ d ∈ l, d < 10) → nv l < 10 ^ l.length
  | [], _ => by simp [nv]
  | d :: l, h => by
    have h1 := nv_lt l fun x hx => h x (List.mem_cons_of_mem _ hx)
    have h2 := h d (by simp)
    rw [nv_cons, List.length_cons, Nat.pow_succ]
    have := Nat.mul_le_mul_right (10 ^ l.length) (show d + 1 ≤ 10 from h2)
    rw [Nat.add_mul, Nat.one_mul] at this
    omega
theorem nv_zeros (n : Nat) : nv (List.replicate n 0) = 0 := by
  induction n with
  | zero => rfl
  | succ n ih => rw [List.replicate_succ', nv_snoc, ih]

/-- All digits, the first of them not 0. -/
structure Dg (ds : List Nat) : Prop where
  lt : ∀ d ∈ ds, d < 10
  lead : ds ≠ [] → 10 ^ (ds.length - 1) ≤ nv ds

/-- The number of the first r digits of ds (noughts behind its end). -/
def NN (ds : List Nat) (r : Nat) : Nat := nv (ds.take r) * 10 ^ (r - ds.length)
theorem NN_zero (ds : List Nat) : NN ds 0 = 0 := by simp [NN, nv]
theorem NN_in (ds : List Nat) (r : Nat) (h : r ≤ ds.length) : NN ds r = nv (ds.take r) := by
  unfold NN
  rw [show r - ds.length = 0 by omega, Nat.pow_zero, Nat.mul_one]
theorem NN_out (ds : List Nat) (r : Nat) (h : ds.length ≤ r) : NN ds r = nv ds * 10 ^ (r - ds.length) := by
  unfold NN
  rw [List.take_of_length_le h]
theorem NN_succ (ds : List Nat) (r : Nat) : NN ds (r + 1) = NN ds r * 10 + ds.getD r 0 := by
  rcases Nat.lt_or_ge r ds.length with h | h
  · rw [NN_in ds (r + 1) h, NN_in ds r (Nat.le_of_lt h), List.take_succ_eq_append_getElem h, nv_snoc]
    congr 1
    rw [List.getD_eq_getElem?_getD, List.getElem?_eq_getElem h]; rfl
  · rw [NN_out ds (r + 1) (by omega), NN_out ds r h, show r + 1 - ds.length = (r - ds.length) + 1 by omega, Nat.pow_succ, ← Nat.mul_assoc, List.getD_eq_getElem?_getD, List.getElem?_eq_none h]
    rfl
theorem getD_lt {ds : List Nat} (h : ∀ d ∈ ds, d < 10) (r : Nat) : ds.getD r 0 < 10 := by
  rw [List.getD_eq_getElem?_getD]
  rcases Nat.lt_or_ge r ds.length with g | g
  · rw [List.getElem?_eq_getElem g]; exact h _ (List.getElem_mem g)
  · rw [List.getElem?_eq_none g]; decide
theorem NN_lo {ds : List Nat} (h : Dg ds) (hne : ds ≠ []) : ∀ r, 1 ≤ r → 10 ^ (r - 1) ≤ NN ds r := by
  have hl := h.lead hne
  have hlen : 0 < ds.length := List.length_pos_iff.2 hne
  intro r hr
  rcases Nat.lt_or_ge ds.length r with g | g
  · rw [NN_out ds r (by omega)]
    have := Nat.mul_le_mul_right (10 ^ (r - ds.length)) hl
    rwa [← Nat.pow_add, show ds.length - 1 + (r - ds.length) = r - 1 by omega] at this
  · rw [NN_in ds r g]
    rcases Nat.lt_or_ge (nv (ds.take r)) (10 ^ (r - 1)) with q | q
    · exfalso
      have e := nv_append (ds.take r) (ds.drop r)
      rw [List.take_append_drop, List.length_drop] at e
      have hd := nv_lt (ds.drop r) fun d hd => h.lt d (List.drop_subset _ _ hd)
      rw [List.length_drop] at hd
      have h1 := Nat.mul_le_mul_right (10 ^ (ds.length - r)) (show nv (ds.take r) + 1 ≤ 10 ^ (r - 1) from q)
      rw [← Nat.pow_add, show r - 1 + (ds.length - r) = ds.length - 1 by omega, Nat.add_mul, Nat.one_mul] at h1
      omega
    · exact q

/-! ### the shift to the right -/
/-- r digits of ds have been taken in, the digits 'out' put down; n is what is held. -/
structure RSt (ds : List Nat) (k r0 r n : Nat) (out : List Nat) : Prop where
  len : out.length + r0 = r
  r1 : 1 ≤ r0
  dig : ∀ d ∈ out, d < 10
  eq : NN ds r = 10 * nv out * 2 ^ k + n
  lt : n < 10 * 2 ^ k
  lead : if out = [] then 2 ^ k ≤ n else 10 ^ (out.length - 1) ≤ nv out

theorem RSt.start {ds : List Nat} {k r0 : Nat} (h1 : 1 ≤ r0) (h2 : NN ds (r0 - 1) < 2 ^ k) (h3 : 2 ^ k ≤ NN ds r0) (hd : ∀ d ∈ ds, d < 10) : RSt ds k r0 r0 (NN ds r0) [] := by
  refine ⟨by simp, h1, by simp, by simp [nv], ?_, by rw [if_pos rfl]; exact h3⟩
  have e := NN_succ ds (r0 - 1)
  rw [Nat.sub_add_cancel h1] at e
  have := getD_lt hd (r0 - 1)
  omega

theorem RSt.dlt {ds : List Nat} {k r0 r n : Nat} {out : List Nat} (h : RSt ds k r0 r n out) : n / 2 ^ k < 10 := by
  rw [Nat.div_lt_iff_lt_mul (Nat.two_pow_pos k)]
  exact h.lt

theorem RSt.step {ds : List Nat} {k r0 r n : Nat} {out : List Nat} (h : RSt ds k r0 r n out) (hd : ∀ d ∈ ds, d < 10) : RSt ds k r0 (r + 1) (n % 2 ^ k * 10 + ds.getD r 0) (out ++ [n / 2 ^ k]) := by
  have hc := getD_lt hd r
  have hp := Nat.two_pow_pos k
  have hm := Nat.mod_lt n hp
  have hdm := Nat.div_add_mod n (2 ^ k)
  have hdl := h.dlt
  refine ⟨by have := h.len; rw [List.length_append, List.length_singleton]; omega, h.r1, ?_, ?_, by omega, ?_⟩
  · intro d hd'
    rcases List.mem_append.1 hd' with g | g
    · exact h.dig d g
    · rw [List.mem_singleton.1 g]; exact hdl
  · rw [NN_succ, h.eq, nv_snoc]
    have e1 : 10 * (nv out * 10 + n / 2 ^ k) * 2 ^ k = 10 * (10 * nv out * 2 ^ k) + 10 * (2 ^ k * (n / 2 ^ k)) := by
      rw [Nat.mul_add, Nat.add_mul]
      congr 1
      · ac_rfl
      · ac_rfl
    rw [e1]
    omega
  · have hne : out ++ [n / 2 ^ k] ≠ [] := by simp
    rw [if_neg hne, nv_snoc, List.length_append, List.length_singleton, Nat.add_sub_cancel]
    have hl := h.lead
    split at hl
    · rename_i h0
      subst h0
      have : 1 ≤ n / 2 ^ k := (Nat.le_div_iff_mul_le hp).2 (by omega)
      simp [nv]; omega
    · rename_i h0
      have hlen : 0 < out.length := List.length_pos_iff.2 h0
      have := pow10_succ out.length hlen
      generalize n / 2 ^ k = dd at *
      omega

theorem RSt.bound {ds : List Nat} {k r0 r n : Nat} {out : List Nat} (h : RSt ds k r0 r n out) (hn : 0 < n) : r ≤ ds.length + k := by
  rcases Nat.lt_or_ge (ds.length + k) r with g | g
  · exfalso
    have e := h.eq
    rw [NN_out ds r (by omega), show r - ds.length = (r - ds.length - (k + 1)) + (k + 1) by omega, Nat.pow_add, Nat.pow_succ 10 k, show (10 : Nat) = 2 * 5 from rfl, Nat.mul_pow 2 5 k] at e
    rw [show (2 : Nat) * 5 = 10 from rfl] at e
    have hlt := h.lt
    have e1 : nv ds * (10 ^ (r - ds.length - (k + 1)) * (2 ^ k * 5 ^ k * 10)) = (10 * 2 ^ k) * (nv ds * (10 ^ (r - ds.length - (k + 1)) * 5 ^ k)) := by ac_rfl
    have e2 : 10 * nv out * 2 ^ k = (10 * 2 ^ k) * nv out := by ac_rfl
    rw [e1, e2] at e
    have hpos : 0 < 10 * 2 ^ k := Nat.mul_pos (by decide) (Nat.two_pow_pos k)
    generalize 10 * 2 ^ k = X at *
    generalize nv ds * (10 ^ (r - ds.length - (k + 1)) * 5 ^ k) = A at *
    rcases Nat.lt_or_ge (nv out) A with q | q
    · have := Nat.mul_le_mul_left X (show nv out + 1 ≤ A from q)
      rw [Nat.mul_add, Nat.mul_one] at this
      omega
    · have := Nat.mul_le_mul_left X q
      omega
  · exact g

/-- k ≤ 60: so many digits at least are taken in before the first is put down. -/
theorem r0_big (k r0 : Nat) (hk : k ≤ 60) (h : 2 ^ k < 10 ^ r0) : k + 1 ≤ r0 + 42 := by
  rcases Nat.lt_or_ge k (r0 + 42) with g | g
  · omega
  · exfalso
    have h1 : 10 ^ r0 ≤ 10 ^ (k - 42) := Nat.pow_le_pow_right (by decide) (by omega)
    have h2 : 10 ^ (k - 42) ≤ 2 ^ k := by
      have : ∀ j : Fin 19, 10 ^ j.val ≤ 2 ^ (j.val + 42) := by decide
      have := this ⟨k - 42, by omega⟩
      simpa [show k - 42 + 42 = k by omega] using this
    omega

/-! ### the value -/
/-- The digits ds with the point behind dp of them tell M times 2 to the E. -/
structure Dv (ds : List Nat) (dp : Int) (M : Nat) (E : Int) : Prop where
  dg : Dg ds
  ne : ds ≠ []
  last : nv ds % 10 ≠ 0
  val : VN M E (ds.length - dp) = VC * nv ds

theorem VN_half (x : Nat) (e q : Int) (k : Nat) (he : -1200 ≤ e) : VN x (e + k) q = VN x e q * 2 ^ k := by
  unfold VN
  rw [show (e + k + 1200).toNat = (e + 1200).toNat + k by omega, Nat.pow_add]
  ac_rfl

theorem Dg.pos {ds : List Nat} (h : Dg ds) (hne : ds ≠ []) : 0 < nv ds := Nat.lt_of_lt_of_le (Nat.pow_pos (by decide)) (h.lead hne)

theorem RSt.fin {ds : List Nat} {k r0 r : Nat} {out : List Nat} (h : RSt ds k r0 r 0 out) (hr : ds.length ≤ r) (hne : out ≠ []) {dp : Int} {M : Nat} {E : Int} (hv : VN M E (ds.length - dp) = VC * nv ds) (hdp : dp ≤ 800) (hE : -1200 ≤ E - k) :
    Dg out ∧ VN M (E - k) (out.length - (dp - (r0 - 1))) = VC * nv out := by
  have hl := h.lead
  rw [if_neg hne] at hl
  refine ⟨⟨h.dig, fun _ => hl⟩, ?_⟩
  have e := h.eq
  have hlen := h.len
  have hr1 := h.r1
  rw [NN_out ds r hr, Nat.add_zero] at e
  have e1 := VN_ten M E ((ds.length : Int) - dp) (r - ds.length) (by omega)
  rw [hv, Nat.mul_assoc, e] at e1
  have hpos : 0 < out.length := List.length_pos_iff.2 hne
  have e2 := VN_ten M E ((out.length : Int) - (dp - (r0 - 1))) 1 (by omega)
  rw [show (out.length : Int) - (dp - (r0 - 1)) + ((1 : Nat) : Int) = (ds.length : Int) - dp + ((r - ds.length : Nat) : Int) by omega, e1, Nat.pow_one] at e2
  have e3 := VN_half M (E - k) ((out.length : Int) - (dp - (r0 - 1))) k hE
  rw [show E - (k : Int) + k = E by omega] at e3
  rw [e3] at e2
  have hp : 0 < 10 * 2 ^ k := Nat.mul_pos (by decide) (Nat.two_pow_pos k)
  refine (Nat.eq_of_mul_eq_mul_right hp ?_).symm
  clear e1 e3 hv
  generalize VC = C at *
  generalize VN M (E - k) ((out.length : Int) - (dp - (r0 - 1))) = V at *
  calc C * nv out * (10 * 2 ^ k) = C * (10 * nv out * 2 ^ k) := by ac_rfl
    _ = V * 2 ^ k * 10 := e2
    _ = _ := by ac_rfl

theorem nv_take_zero {out : List Nat} {j : Nat} (hj : j ≤ out.length) (hz : ∀ i, j ≤ i → i < out.length → out.getD i 0 = 0) : nv out = nv (out.take j) * 10 ^ (out.length - j) := by
  have e := nv_append (out.take j) (out.drop j)
  have h0 : nv (out.drop j) = 0 := by
    have : out.drop j = List.replicate (out.length - j) 0 := by
      refine List.ext_getElem (by simp) fun i h1 h2 => ?_
      rw [List.length_drop] at h1
      have := hz (j + i) (by omega) (by omega)
      rw [List.getD_eq_getElem?_getD, List.getElem?_eq_getElem (by omega)] at this
      simpa using this
    rw [this, nv_zeros]
  rw [List.take_append_drop, List.length_drop, h0, Nat.add_zero] at e
  exact e

/-- Noughts at the end are struck. -/
theorem Dv.trim {out : List Nat} {dp : Int} {M : Nat} {E : Int} {j : Nat} (dg : Dg out) (hv : VN M E (out.length - dp) = VC * nv out) (hj0 : 0 < j) (hj : j ≤ out.length) (hz : ∀ i, j ≤ i → i < out.length → out.getD i 0 = 0)
    (hlast : out.getD (j - 1) 0 ≠ 0) (hdp : dp ≤ 800) : Dv (out.take j) dp M E := by
  have e := nv_take_zero hj hz
  have hne : out ≠ [] := by
    intro h; subst h; simp at hj; omega
  have hl := dg.lead hne
  have hlen : (out.take j).length = j := by rw [List.length_take]; omega
  have hp : 0 < 10 ^ (out.length - j) := Nat.pow_pos (by decide)
  refine ⟨⟨fun d hd => dg.lt d (List.take_subset _ _ hd), fun _ => ?_⟩, ?_, ?_, ?_⟩
  · rw [hlen]
    rw [e, show out.length - 1 = (j - 1) + (out.length - j) by omega, Nat.pow_add] at hl
    exact Nat.le_of_mul_le_mul_right hl hp
  · intro h
    rw [h] at hlen
    simp at hlen; omega
  · have e2 : out.take j = out.take (j - 1) ++ [out.getD (j - 1) 0] := by
      have := List.take_succ_eq_append_getElem (l := out) (i := j - 1) (by omega)
      rw [Nat.sub_add_cancel hj0] at this
      rw [this, List.getD_eq_getElem?_getD, List.getElem?_eq_getElem (by omega)]
      rfl
    have h10 := getD_lt dg.lt (j - 1)
    rw [e2, nv_snoc]
    omega
  · rw [hlen]
    have e1 := VN_ten M E ((j : Int) - dp) (out.length - j) (by omega)
    rw [show (j : Int) - dp + ((out.length - j : Nat) : Int) = out.length - dp by omega, hv, e, ← Nat.mul_assoc] at e1
    exact (Nat.eq_of_mul_eq_mul_right hp e1).symm

/-! ### the shift to the left -/
/-- j digits have been taken, from the last one on; 'out' has been put down; n is carried. -/
structure LSt (ds : List Nat) (k j n : Nat) (out : List Nat) : Prop where
  len : out.length = j
  dig : ∀ d ∈ out, d < 10
  eq : nv (ds.drop (ds.length - j)) * 2 ^ k = n * 10 ^ j + nv out

theorem LSt.start (ds : List Nat) (k : Nat) : LSt ds k 0 0 [] := ⟨rfl, by simp, by simp [nv]⟩
theorem LSt.lt {ds : List Nat} {k j n : Nat} {out : List Nat} (h : LSt ds k j n out) (hd : ∀ d ∈ ds, d < 10) (hj : j ≤ ds.length) : n < 2 ^ k := by
  have h1 := nv_lt (ds.drop (ds.length - j)) fun d hd' => hd d (List.drop_subset _ _ hd')
  rw [List.length_drop, show ds.length - (ds.length - j) = j by omega] at h1
  have e := h.eq
  have h2 := Nat.mul_lt_mul_of_pos_right h1 (Nat.two_pow_pos k)
  rw [Nat.mul_comm (10 ^ j)] at h2
  refine Nat.lt_of_mul_lt_mul_right (a := 10 ^ j) (Nat.lt_of_le_of_lt ?_ h2)
  rw [e]
  exact Nat.le_add_right _ _
theorem LSt.put {ds : List Nat} {k j n m : Nat} {out : List Nat} (h : LSt ds k j n out) (he : nv (ds.drop (ds.length - (j + 1))) * 2 ^ k = m * 10 ^ j + nv out) : LSt ds k (j + 1) (m / 10) (m % 10 :: out) := by
  refine ⟨by rw [List.length_cons, h.len], ?_, ?_⟩
  · intro d hd
    rcases List.mem_cons.1 hd with g | g
    · rw [g]; omega
    · exact h.dig d g
  · rw [he, nv_cons, h.len, Nat.pow_succ]
    have := Nat.div_add_mod m 10
    have e1 : m / 10 * (10 ^ j * 10) = (10 * (m / 10)) * 10 ^ j := by ac_rfl
    rw [e1, ← Nat.add_assoc, ← Nat.add_mul, this]
theorem LSt.step {ds : List Nat} {k j n : Nat} {out : List Nat} (h : LSt ds k j n out) (hj : j < ds.length) : LSt ds k (j + 1) ((n + ds.getD (ds.length - 1 - j) 0 * 2 ^ k) / 10) ((n + ds.getD (ds.length - 1 - j) 0 * 2 ^ k) % 10 :: out) := by
  refine h.put ?_
  have e : ds.drop (ds.length - (j + 1)) = ds.getD (ds.length - 1 - j) 0 :: ds.drop (ds.length - j) := by
    rw [List.drop_eq_getElem_cons (by omega), List.getD_eq_getElem?_getD, List.getElem?_eq_getElem (by omega)]
    congr 1
    · simp only [Option.getD_some]; congr 1; omega
    · congr 1; omega
  rw [e, nv_cons, List.length_drop, show ds.length - (ds.length - j) = j by omega, Nat.add_mul, h.eq, Nat.add_mul]
  have : ds.getD (ds.length - 1 - j) 0 * 10 ^ j * 2 ^ k = ds.getD (ds.length - 1 - j) 0 * 2 ^ k * 10 ^ j := by ac_rfl
  omega
theorem LSt.more {ds : List Nat} {k j n : Nat} {out : List Nat} (h : LSt ds k j n out) (hj : ds.length ≤ j) : LSt ds k (j + 1) (n / 10) (n % 10 :: out) := by
  refine h.put ?_
  rw [← h.eq, show ds.length - (j + 1) = 0 by omega, show ds.length - j = 0 by omega]
theorem LSt.room {ds : List Nat} {k j n T : Nat} {out : List Nat} (h : LSt ds k j n out) (hj : ds.length ≤ j) (hn : 0 < n) (hT : nv ds * 2 ^ k < 10 ^ T) : j < T := by
  have e := h.eq
  rw [show ds.length - j = 0 by omega, List.drop_zero] at e
  rcases Nat.lt_or_ge j T with g | g
  · exact g
  · have h1 : 10 ^ T ≤ 10 ^ j := Nat.pow_le_pow_right (by decide) g
    have h2 := Nat.le_mul_of_pos_left (10 ^ j) hn
    omega
theorem LSt.fin {ds : List Nat} {k j T : Nat} {out : List Nat} (h : LSt ds k j 0 out) (hj : ds.length ≤ j) (hjT : j ≤ T) (hT : 10 ^ (T - 1) ≤ nv ds * 2 ^ k) (hT0 : 0 < T) {dp : Int} {M : Nat} {E : Int} (hv : VN M E (ds.length - dp) = VC * nv ds) (hE : -1200 ≤ E) :
    j = T ∧ Dg out ∧ VN M (E + k) (out.length - (dp + ((T : Int) - ds.length))) = VC * nv out := by
  have e := h.eq
  rw [show ds.length - j = 0 by omega, List.drop_zero, Nat.zero_mul, Nat.zero_add] at e
  have hlt := nv_lt out h.dig
  rw [h.len] at hlt
  have hj2 : j = T := by
    rcases Nat.lt_or_ge j T with g | g
    · exfalso
      have : 10 ^ j ≤ 10 ^ (T - 1) := Nat.pow_le_pow_right (by decide) (by omega)
      omega
    · omega
  refine ⟨hj2, ⟨h.dig, fun _ => by rw [h.len, hj2, ← e]; exact hT⟩, ?_⟩
  rw [h.len, hj2, show (T : Int) - (dp + ((T : Int) - ds.length)) = ds.length - dp by omega, VN_half M E _ k hE, hv, ← e, Nat.mul_assoc]

/-! ### the cheats -/
/-- Is the beginning of b less than s? -/
def ltP : List Nat → List Nat → Bool
  | _, [] => false
  | [], _ :: _ => true
  | b :: bs, s :: ss => if b = s then ltP bs ss else decide (b < s)

theorem ltP_iff : ∀ (b s : List Nat), (∀ d ∈ b, d < 10) → (∀ d ∈ s, d < 10) → (s ≠ [] → nv s % 10 ≠ 0) → (ltP b s = true ↔ nv b * 10 ^ s.length < nv s * 10 ^ b.length)
  | b, [], _, _, _ => by cases b <;> simp [ltP, nv]
  | [], s :: ss, _, _, hl => by
    have h := hl (by simp)
    have : 0 < nv (s :: ss) := by omega
    simp only [ltP, true_iff, nv_nil, Nat.zero_mul, List.length_nil, Nat.pow_zero, Nat.mul_one]
    exact this
  | b :: bs, s :: ss, hb, hs, hl => by
    have hb1 := hb b (by simp)
    have hs1 := hs s (by simp)
    have hbl := nv_lt bs fun d hd => hb d (List.mem_cons_of_mem _ hd)
    have hsl := nv_lt ss fun d hd => hs d (List.mem_cons_of_mem _ hd)
    have ih := ltP_iff bs ss (fun d hd => hb d (List.mem_cons_of_mem _ hd)) (fun d hd => hs d (List.mem_cons_of_mem _ hd)) (fun hne => by
      have h := hl (by simp)
      rw [nv_cons] at h
      have hlen : 0 < ss.length := List.length_pos_iff.2 hne
      have := pow10_succ ss.length hlen
      rw [this, ← Nat.mul_assoc] at h
      omega)
    rw [nv_cons, nv_cons, List.length_cons, List.length_cons, Nat.pow_succ, Nat.pow_succ]
    generalize hB : 10 ^ bs.length = B at *
    generalize hS : 10 ^ ss.length = S at *
    generalize nv bs = x at *
    generalize nv ss = y at *
    have e1 : (b * B + x) * (S * 10) = (b * (B * S) + x * S) * 10 := by rw [Nat.add_mul, Nat.add_mul]; congr 1 <;> ac_rfl
    have e2 : (s * S + y) * (B * 10) = (s * (B * S) + y * B) * 10 := by rw [Nat.add_mul, Nat.add_mul]; congr 1 <;> ac_rfl
    rw [e1, e2]
    have hxs : x * S < B * S := Nat.mul_lt_mul_of_pos_right hbl (by omega)
    have hyb : y * B < B * S := by rw [Nat.mul_comm B]; exact Nat.mul_lt_mul_of_pos_right hsl (by omega)
    unfold ltP
    by_cases he : b = s
    · subst he
      rw [if_pos rfl, ih]
      omega
    · rw [if_neg he, decide_eq_true_iff]
      constructor
      · intro h
        have := Nat.mul_le_mul_right (B * S) (show b + 1 ≤ s from h)
        rw [Nat.add_mul, Nat.one_mul] at this
        omega
      · intro h
        rcases Nat.lt_or_ge b s with g | g
        · exact g
        · exfalso
          have := Nat.mul_le_mul_right (B * S) (show s + 1 ≤ b by omega)
          rw [Nat.add_mul, Nat.one_mul] at this
          omega

/-- The cheats' rows. -/
def chD (k : Nat) : Nat := (Go.Pinned.cheatRows.getD k (0, [])).1
def chS (k : Nat) : List UInt8 := (Go.Pinned.cheatRows.getD k (0, [])).2
def chN (k : Nat) : List Nat := (chS k).map fun c => c.toNat - 48
def chOk (k : Nat) : Bool := decide (nv (chN k) = 5 ^ k) && decide ((chN k).length + chD k = k + 1) && decide (0 < chD k) && decide (chD k ≤ 19) && decide (10 ^ ((chN k).length - 1) ≤ 5 ^ k) && (chS k).all fun c => decide (48 ≤ c.toNat) && decide (c.toNat < 58)
set_option maxRecDepth 100000 in
theorem ch_table : (List.range 60).all (fun k => chOk (k + 1)) = true := by decide +kernel

theorem ch_at (k : Nat) (h0 : 0 < k) (h1 : k ≤ 60) : nv (chN k) = 5 ^ k ∧ (chN k).length + chD k = k + 1 ∧ 0 < chD k ∧ chD k ≤ 19 ∧ 10 ^ ((chN k).length - 1) ≤ 5 ^ k ∧ (∀ c ∈ chS k, 48 ≤ c.toNat ∧ c.toNat < 58) := by
  have := List.all_eq_true.1 ch_table (k - 1) (List.mem_range.2 (by omega))
  rw [Nat.sub_add_cancel h0] at this
  simp only [chOk, Bool.and_eq_true, decide_eq_true_eq, List.all_eq_true] at this
  obtain ⟨⟨⟨⟨⟨a, b⟩, c⟩, d⟩, e⟩, f⟩ := this
  exact ⟨a, b, c, d, e, f⟩

/-- How many digits a shift to the left gives. -/
def lsT (ds : List Nat) (k : Nat) : Nat := if ltP ds (chN k) then ds.length + chD k - 1 else ds.length + chD k

theorem lsT_law {ds : List Nat} (h : Dg ds) (hne : ds ≠ []) (k : Nat) (h0 : 0 < k) (h1 : k ≤ 60) : 10 ^ (lsT ds k - 1) ≤ nv ds * 2 ^ k ∧ nv ds * 2 ^ k < 10 ^ lsT ds k := by
  obtain ⟨c1, c2, c3, c4, c5, c6⟩ := ch_at k h0 h1
  have hlen : 0 < ds.length := List.length_pos_iff.2 hne
  have hcd : ∀ d ∈ chN k, d < 10 := by
    intro d hd
    obtain ⟨c, hc, rfl⟩ := List.mem_map.1 hd
    have := c6 c hc
    omega
  have h5 : 5 ^ k % 5 = 0 := by
    obtain ⟨t, rfl⟩ : ∃ t, k = t + 1 := ⟨k - 1, by omega⟩
    rw [Nat.pow_succ]; omega
  have h52 : 5 ^ k % 2 = 1 := by
    rw [Nat.pow_mod]; simp
  have hl := ltP_iff ds (chN k) h.lt hcd (fun _ => by rw [c1]; omega)
  rw [c1] at hl
  have hlead := h.lead hne
  have hlt := nv_lt ds h.lt
  have hclt := nv_lt (chN k) hcd
  rw [c1] at hclt
  obtain ⟨C, hC⟩ : ∃ C, C = (chN k).length := ⟨_, rfl⟩
  obtain ⟨L, hL⟩ : ∃ L, L = ds.length := ⟨_, rfl⟩
  rw [← hC] at c2 c5 hl hclt
  rw [← hL] at hl hlead hlt hlen
  -- two to the k times five to the k
  have h10 : 2 ^ k * 5 ^ k = 10 ^ k := by rw [← Nat.mul_pow]
  have hp5 : 0 < 5 ^ k := Nat.pow_pos (by decide)
  have hp2 : 0 < 2 ^ k := Nat.two_pow_pos k
  have hC1 : 1 ≤ C := by
    rcases Nat.eq_zero_or_pos C with g | g
    · rw [g] at hclt; simp at hclt
    · exact g
  have hk : C + chD k = k + 1 := c2
  have low : ∀ t, nv ds * 10 ^ k < 10 ^ t * 5 ^ k → nv ds * 2 ^ k < 10 ^ t := fun t g => by
    rw [← h10, ← Nat.mul_assoc] at g
    exact Nat.lt_of_mul_lt_mul_right g
  have high : ∀ t, 10 ^ t * 5 ^ k ≤ nv ds * 10 ^ k → 10 ^ t ≤ nv ds * 2 ^ k := fun t g => by
    rw [← h10, ← Nat.mul_assoc] at g
    exact Nat.le_of_mul_le_mul_right g hp5
  unfold lsT
  rw [← hL]
  by_cases hlp : ltP ds (chN k) = true
  · rw [if_pos hlp]
    have g := hl.1 hlp
    constructor
    · refine high _ ?_
      -- 10^(L+δ-2) 5^k ≤ 10^(L-1) 10^k
      have a1 : 10 ^ (L + chD k - 1 - 1) * 5 ^ k ≤ 10 ^ (L + chD k - 1 - 1) * 10 ^ C := Nat.mul_le_mul_left _ (Nat.le_of_lt hclt)
      rw [← Nat.pow_add, show L + chD k - 1 - 1 + C = L - 1 + k by omega, Nat.pow_add] at a1
      exact Nat.le_trans a1 (Nat.mul_le_mul_right _ hlead)
    · refine low _ ?_
      have a1 := Nat.mul_lt_mul_of_pos_right g (show 0 < 10 ^ (k - C) from Nat.pow_pos (by decide))
      rw [Nat.mul_assoc, ← Nat.pow_add, show C + (k - C) = k by omega, Nat.mul_assoc, ← Nat.pow_add, show L + (k - C) = L + chD k - 1 by omega, Nat.mul_comm (5 ^ k)] at a1
      exact a1
  · have hlp' : ltP ds (chN k) = false := by simpa using hlp
    rw [if_neg hlp]
    have g : 5 ^ k * 10 ^ L ≤ nv ds * 10 ^ C := by
      rcases Nat.lt_or_ge (nv ds * 10 ^ C) (5 ^ k * 10 ^ L) with q | q
      · exact absurd (hl.2 q) hlp
      · exact q
    constructor
    · refine high _ ?_
      have a1 := Nat.mul_le_mul_right (10 ^ (k - C)) g
      rw [Nat.mul_assoc, ← Nat.pow_add, show L + (k - C) = L + chD k - 1 by omega, Nat.mul_assoc, ← Nat.pow_add, show C + (k - C) = k by omega, Nat.mul_comm (5 ^ k)] at a1
      exact a1
    · refine low _ ?_
      have a1 := Nat.mul_lt_mul_of_pos_right hlt (show 0 < 10 ^ k from Nat.pow_pos (by decide))
      refine Nat.lt_of_lt_of_le a1 ?_
      have a2 := Nat.mul_le_mul_left (10 ^ (L + chD k)) c5
      rw [← Nat.pow_add, show L + chD k + (C - 1) = L + k by omega, Nat.pow_add] at a2
      exact a2


/-- A digit as a byte. -/
def dby (d : Nat) : UInt8 := UInt8.ofNat (48 + d)
theorem dby_ne (d : Nat) (h : d < 10) (h0 : d ≠ 0) : dby d ≠ 48 := by
  have : ∀ i : Fin 10, i.val ≠ 0 → dby i.val ≠ 48 := by decide
  exact this ⟨d, h⟩ h0
theorem dby_toNat (d : Nat) (h : d < 10) : (dby d).toNat = 48 + d := by
  have : ∀ i : Fin 10, (dby i.val).toNat = 48 + i.val := by decide
  exact this ⟨d, h⟩

theorem snoc_of {l : List Nat} (h : l ≠ []) : ∃ a d, l = a ++ [d] := ⟨l.dropLast, l.getLast h, (List.dropLast_concat_getLast h).symm⟩

/-- Digits with a leading one that is not 0 are the number's digits. -/
theorem dec_of : ∀ (n : Nat) (l : List Nat), l.length = n → Dg l → l ≠ [] → Lib.decDigits (nv l) = l.map dby ∧ Lib.nDigits (nv l) = l.length
  | 0, l, hn, _, hne => by simp at hn; exact absurd hn hne
  | n + 1, l, hn, h, hne => by
    obtain ⟨a, d, rfl⟩ := snoc_of hne
    have hd : d < 10 := h.lt d (by simp)
    rw [List.length_append, List.length_singleton] at hn
    have hl := h.lead hne
    rw [List.length_append, List.length_singleton, Nat.add_sub_cancel, nv_snoc] at hl
    rw [nv_snoc]
    by_cases ha : a = []
    · subst ha
      simp only [nv_nil, Nat.zero_mul, Nat.zero_add, List.nil_append]
      exact ⟨Lib.decDigits_one hd, Lib.nDigits_small hd⟩
    · have hal : 0 < a.length := List.length_pos_iff.2 ha
      have h10 := pow10_succ a.length hal
      have hg : Dg a := ⟨fun x hx => h.lt x (List.mem_append_left _ hx), fun _ => by omega⟩
      have hpos := hg.pos ha
      obtain ⟨i1, i2⟩ := dec_of n a (by omega) hg ha
      constructor
      · rw [Lib.decDigits, dif_neg (by omega), show (nv a * 10 + d) / 10 = nv a by omega, show (nv a * 10 + d) % 10 = d by omega, i1, List.map_append]
        rfl
      · rw [Lib.nDigits_big (by omega), show (nv a * 10 + d) / 10 = nv a by omega, i2, List.length_append, List.length_singleton]

theorem cut_of {fs : List Nat} (h : Dg fs) (hne : fs ≠ []) (hlast : nv fs % 10 ≠ 0) : ∀ z : Nat, cutD (nv fs * 10 ^ z) = fs.map dby ∧ Lib.nDigits (nv fs * 10 ^ z) = fs.length + z
  | 0 => by
    obtain ⟨h1, h2⟩ := dec_of _ fs rfl h hne
    rw [Nat.pow_zero, Nat.mul_one, Nat.add_zero]
    refine ⟨?_, h2⟩
    unfold cutD
    rw [h1]
    obtain ⟨a, d, rfl⟩ := snoc_of hne
    rw [nv_snoc] at hlast
    have hd : d < 10 := h.lt d (by simp)
    rw [List.map_append, List.map_singleton, strip_snoc _ _ (dby_ne d hd (by omega))]
  | z + 1 => by
    obtain ⟨h1, h2⟩ := cut_of h hne hlast z
    have hp : 0 < nv fs * 10 ^ z := Nat.mul_pos (h.pos hne) (Nat.pow_pos (by decide))
    rw [Nat.pow_succ, ← Nat.mul_assoc, cutD_ten _ hp, nDigits_ten _ hp]
    exact ⟨h1, by omega⟩

/-- What stands in the decimal behind the rounding to n digits. -/
structure Rd (ds : List Nat) (dp : Int) (M : Nat) (E : Int) (n : Nat) (fs : List Nat) (fp : Int) : Prop where
  cut : cutD (rh (VN M E (n - dp)) VC) = fs.map dby
  pp : pt (rh (VN M E (n - dp)) VC) (n - dp) = fp

theorem Rd.of {ds : List Nat} {dp : Int} {M : Nat} {E : Int} {n : Nat} {fs : List Nat} {fp : Int} {z : Nat} (h : Dg fs) (hne : fs ≠ []) (hlast : nv fs % 10 ≠ 0) (e : rh (VN M E (n - dp)) VC = nv fs * 10 ^ z) (hp : fp = fs.length + z - (n - dp)) : Rd ds dp M E n fs fp := by
  obtain ⟨h1, h2⟩ := cut_of h hne hlast z
  have hpos : 0 < nv fs * 10 ^ z := Nat.mul_pos (h.pos hne) (Nat.pow_pos (by decide))
  refine ⟨by rw [e]; exact h1, ?_⟩
  unfold pt
  rw [e, if_neg (by omega), h2, hp]
  simp

theorem rh_whole (a D : Nat) (hD : 0 < D) : rh (D * a) D = a := by
  rw [rh_form (F := a) (R := 0) (by rw [Nat.add_zero, Nat.mul_comm]) hD, if_pos (by omega)]

/-- Nothing to be rounded. -/
theorem Rd.all {ds : List Nat} {dp : Int} {M : Nat} {E : Int} {n : Nat} (h : Dv ds dp M E) (hdp : dp ≤ 800) (hn : ds.length ≤ n) : Rd ds dp M E n ds dp := by
  refine Rd.of (z := n - ds.length) h.dg h.ne h.last ?_ (by omega)
  have e := VN_ten M E (ds.length - dp) (n - ds.length) (by omega)
  rw [show (ds.length : Int) - dp + ((n - ds.length : Nat) : Int) = n - dp by omega, h.val, Nat.mul_assoc] at e
  rw [e, rh_whole _ _ VC_pos]

/-- Is the rest more than half, or half behind an odd digit? -/
def upB (ds : List Nat) (n : Nat) : Bool :=
  if ds.getD n 0 = 5 ∧ n + 1 = ds.length then decide (0 < n ∧ ds.getD (n - 1) 0 % 2 ≠ 0) else decide (5 ≤ ds.getD n 0)

theorem rh_cutat {ds : List Nat} {dp : Int} {M : Nat} {E : Int} {n : Nat} (h : Dv ds dp M E) (hdp : dp ≤ 800) (hn : n < ds.length) : rh (VN M E (n - dp)) VC = nv (ds.take n) + (if upB ds n then 1 else 0) := by
  have e := VN_ten M E (n - dp) (ds.length - n) (by omega)
  rw [show (n : Int) - dp + ((ds.length - n : Nat) : Int) = ds.length - dp by omega, h.val] at e
  have hp : 0 < 10 ^ (ds.length - n) := Nat.pow_pos (by decide)
  rw [rh_cross (N2 := nv ds) (D2 := 10 ^ (ds.length - n)) (by rw [← e, Nat.mul_comm]) VC_pos hp]
  have e1 := nv_append (ds.take n) (ds.drop n)
  rw [List.take_append_drop, List.length_drop] at e1
  have hlt := nv_lt (ds.drop n) fun d hd => h.dg.lt d (List.drop_subset _ _ hd)
  rw [List.length_drop] at hlt
  have hc : ds.drop n = ds.getD n 0 :: ds.drop (n + 1) := by
    rw [List.drop_eq_getElem_cons hn, List.getD_eq_getElem?_getD, List.getElem?_eq_getElem hn]; rfl
  have hc10 := getD_lt h.dg.lt n
  have e2 := nv_cons (ds.getD n 0) (ds.drop (n + 1))
  rw [← hc, List.length_drop] at e2
  have hlt2 := nv_lt (ds.drop (n + 1)) fun d hd => h.dg.lt d (List.drop_subset _ _ hd)
  rw [List.length_drop] at hlt2
  have hS := pow10_succ (ds.length - n) (by omega)
  rw [show ds.length - n - 1 = ds.length - (n + 1) by omega] at hS
  obtain ⟨S, hSS⟩ : ∃ S, S = 10 ^ (ds.length - (n + 1)) := ⟨_, rfl⟩
  rw [← hSS] at hS e2 hlt2
  have hpar : nv (ds.take n) % 2 = if n = 0 then 0 else ds.getD (n - 1) 0 % 2 := by
    by_cases h0 : n = 0
    · subst h0; simp [nv]
    · rw [if_neg h0]
      have e3 : ds.take n = ds.take (n - 1) ++ [ds.getD (n - 1) 0] := by
        have := List.take_succ_eq_append_getElem (l := ds) (i := n - 1) (by omega)
        rw [Nat.sub_add_cancel (by omega)] at this
        rw [this, List.getD_eq_getElem?_getD, List.getElem?_eq_getElem (by omega)]
        rfl
      rw [e3, nv_snoc]; omega
  have hrest : ds.length ≠ n + 1 → nv (ds.drop (n + 1)) ≠ 0 := by
    intro hne hz
    have e4 := nv_append (ds.take (n + 1)) (ds.drop (n + 1))
    rw [List.take_append_drop, List.length_drop, hz, Nat.add_zero] at e4
    have h10 := pow10_succ (ds.length - (n + 1)) (by omega)
    rw [h10, ← Nat.mul_assoc] at e4
    have := h.last
    rw [e4] at this
    omega
  rw [rh_form e1 hlt, hS, hpar, e2]
  generalize nv (ds.take n) = F at *
  generalize nv (ds.drop (n + 1)) = R at *
  generalize hcc : ds.getD n 0 = c at *
  unfold upB
  rw [hcc]
  by_cases ht : c = 5 ∧ n + 1 = ds.length
  · obtain ⟨rfl, hl⟩ := ht
    have hS1 : S = 1 := by rw [hSS, ← hl, Nat.sub_self, Nat.pow_zero]
    subst hS1
    rw [if_neg (show ¬ 2 * (5 * 1 + R) < 1 * 10 by omega), if_neg (show ¬ 1 * 10 < 2 * (5 * 1 + R) by omega)]
    have hb : (if 5 = 5 ∧ n + 1 = ds.length then decide (0 < n ∧ ds.getD (n - 1) 0 % 2 ≠ 0) else decide (5 ≤ 5)) = decide (0 < n ∧ ds.getD (n - 1) 0 % 2 ≠ 0) := if_pos (And.intro rfl hl)
    rw [hb]
    by_cases h0 : n = 0
    · simp [h0]
    · rw [if_neg h0]
      clear hb hpar
      have hg2 : ds.getD (n - 1) 0 % 2 < 2 := Nat.mod_lt _ (by decide)
      generalize ds.getD (n - 1) 0 % 2 = g at *
      by_cases hodd : g = 0
      · simp [hodd]
      · have h1 : g = 1 := by omega
        have h2 : 0 < n := by omega
        rw [h1]
        simp [h2]
  · rw [show (if (if c = 5 ∧ n + 1 = ds.length then decide (0 < n ∧ ds.getD (n - 1) 0 % 2 ≠ 0) else decide (5 ≤ c)) = true then 1 else 0) = if decide (5 ≤ c) = true then 1 else 0 by rw [if_neg ht]]
    by_cases h5 : 5 ≤ c
    · rw [show (if decide (5 ≤ c) = true then 1 else 0) = 1 from if_pos (decide_eq_true h5)]
      have hcS := Nat.mul_le_mul_right S h5
      by_cases h6 : c = 5
      · subst h6
        have := hrest (by omega)
        rw [if_neg (by omega), if_pos (by omega)]
      · have hcS := Nat.mul_le_mul_right S (show 6 ≤ c by omega)
        rw [if_neg (by omega), if_pos (by omega)]
    · rw [show (if decide (5 ≤ c) = true then 1 else 0) = 0 from if_neg (by simpa using h5)]
      have hcS := Nat.mul_le_mul_right S (show c ≤ 4 by omega)
      rw [if_pos (by omega), Nat.add_zero]

theorem take_lead {ds : List Nat} (h : Dg ds) (hne : ds ≠ []) {n : Nat} (hn : n ≤ ds.length) : Dg (ds.take n) := by
  refine ⟨fun d hd => h.lt d (List.take_subset _ _ hd), fun hne' => ?_⟩
  have h0 : 1 ≤ n := by
    rcases Nat.eq_zero_or_pos n with g | g
    · subst g; simp at hne'
    · exact g
  have := NN_lo h hne n h0
  rw [NN_in ds n hn] at this
  rw [List.length_take, Nat.min_eq_left hn]
  exact this

/-- Rounded down: the noughts at the end are struck (j digits are left). -/
theorem Rd.down {ds : List Nat} {dp : Int} {M : Nat} {E : Int} {n : Nat} (h : Dv ds dp M E) (hdp : dp ≤ 800) (hn : n < ds.length) (hu : upB ds n = false) {j : Nat} (hj0 : 0 < j) (hj : j ≤ n) (hz : ∀ i, j ≤ i → i < n → ds.getD i 0 = 0) (hl : ds.getD (j - 1) 0 ≠ 0) :
    Rd ds dp M E n (ds.take j) dp := by
  have e := rh_cutat h hdp hn
  rw [hu, if_neg (by decide), Nat.add_zero] at e
  have hlen : (ds.take n).length = n := by rw [List.length_take]; omega
  have e1 := nv_take_zero (out := ds.take n) (j := j) (by omega) (fun i h1 h2 => by
    rw [List.getD_eq_getElem?_getD, List.getElem?_take, if_pos (by omega), ← List.getD_eq_getElem?_getD]; exact hz i h1 (by omega))
  rw [List.take_take, Nat.min_eq_left hj, hlen] at e1
  have hlj : (ds.take j).length = j := by rw [List.length_take]; omega
  have hne : ds.take j ≠ [] := by intro g; rw [g] at hlj; simp at hlj; omega
  refine Rd.of (z := n - j) (take_lead h.dg h.ne (by omega)) hne ?_ (by rw [e, e1]) (by rw [hlj]; omega)
  have e2 : ds.take j = ds.take (j - 1) ++ [ds.getD (j - 1) 0] := by
    have := List.take_succ_eq_append_getElem (l := ds) (i := j - 1) (by omega)
    rw [Nat.sub_add_cancel hj0] at this
    rw [this, List.getD_eq_getElem?_getD, List.getElem?_eq_getElem (by omega)]
    rfl
  have h10 := getD_lt h.dg.lt (j - 1)
  rw [e2, nv_snoc]
  omega

theorem Rd.down0 {ds : List Nat} {dp : Int} {M : Nat} {E : Int} (h : Dv ds dp M E) (hdp : dp ≤ 800) (hu : upB ds 0 = false) : Rd ds dp M E 0 [] 0 := by
  have e := rh_cutat h hdp (List.length_pos_iff.2 h.ne)
  rw [hu, if_neg (by decide), Nat.add_zero, List.take_zero, nv_nil] at e
  refine ⟨by rw [e]; decide +kernel, ?_⟩
  unfold pt
  rw [e, if_pos rfl]

/-- Rounded up at the digit i, behind which there are nines alone. -/
theorem Rd.up {ds : List Nat} {dp : Int} {M : Nat} {E : Int} {n : Nat} (h : Dv ds dp M E) (hdp : dp ≤ 800) (hn : n < ds.length) (hu : upB ds n = true) {i : Nat} (hi : i < n) (h9 : ∀ t, i < t → t < n → ds.getD t 0 = 9) (hl : ds.getD i 0 < 9) :
    Rd ds dp M E n (ds.take i ++ [ds.getD i 0 + 1]) dp := by
  have e := rh_cutat h hdp hn
  rw [hu, if_pos rfl] at e
  have key : ∀ m, i < m → m ≤ n → nv (ds.take m) + 1 = (nv (ds.take i) * 10 + ds.getD i 0 + 1) * 10 ^ (m - 1 - i) := by
    intro m
    induction m with
    | zero => intro h1; omega
    | succ m ih =>
      intro h1 h2
      have e2 : ds.take (m + 1) = ds.take m ++ [ds.getD m 0] := by
        rw [List.take_succ_eq_append_getElem (l := ds) (i := m) (by omega), List.getD_eq_getElem?_getD, List.getElem?_eq_getElem (by omega)]
        rfl
      rw [e2, nv_snoc]
      rcases Nat.lt_or_ge i m with g | g
      · have := ih g (by omega)
        rw [h9 m g (by omega), show m + 1 - 1 - i = (m - 1 - i) + 1 by omega, Nat.pow_succ, ← Nat.mul_assoc]
        omega
      · obtain rfl : m = i := by omega
        simp
  have e1 := key n hi (Nat.le_refl _)
  have hlen : (ds.take i ++ [ds.getD i 0 + 1]).length = i + 1 := by rw [List.length_append, List.length_take, List.length_singleton]; omega
  have hdg : Dg (ds.take i ++ [ds.getD i 0 + 1]) := by
    refine ⟨?_, fun _ => ?_⟩
    · intro d hd
      rcases List.mem_append.1 hd with g | g
      · exact h.dg.lt d (List.take_subset _ _ g)
      · rw [List.mem_singleton.1 g]; omega
    · rw [hlen, nv_snoc, Nat.add_sub_cancel]
      rcases Nat.eq_zero_or_pos i with g | g
      · subst g; simp [nv]
      · have := (take_lead h.dg h.ne (n := i) (by omega)).lead (by intro q; have h3 := congrArg List.length q; rw [List.length_take, List.length_nil] at h3; omega)
        rw [List.length_take, Nat.min_eq_left (by omega)] at this
        have := pow10_succ i g
        omega
  refine Rd.of (z := n - 1 - i) hdg (by simp) ?_ ?_ ?_
  · rw [nv_snoc]; omega
  · rw [e, nv_snoc]; rw [e1]; rfl
  · rw [hlen]; omega

/-- All digits were nines (or there were none). -/
theorem Rd.nines {ds : List Nat} {dp : Int} {M : Nat} {E : Int} {n : Nat} (h : Dv ds dp M E) (hdp : dp ≤ 800) (hn : n < ds.length) (hu : upB ds n = true) (h9 : ∀ t, t < n → ds.getD t 0 = 9) : Rd ds dp M E n [1] (dp + 1) := by
  have e := rh_cutat h hdp hn
  rw [hu, if_pos rfl] at e
  have key : ∀ m, m ≤ n → nv (ds.take m) + 1 = 10 ^ m := by
    intro m
    induction m with
    | zero => intro _; simp [nv]
    | succ m ih =>
      intro h2
      have e2 : ds.take (m + 1) = ds.take m ++ [ds.getD m 0] := by
        rw [List.take_succ_eq_append_getElem (l := ds) (i := m) (by omega), List.getD_eq_getElem?_getD, List.getElem?_eq_getElem (by omega)]
        rfl
      have := ih (by omega)
      rw [e2, nv_snoc, h9 m (by omega), Nat.pow_succ]
      omega
  rw [key n (Nat.le_refl _)] at e
  have e1 : nv [1] = 1 := rfl
  refine Rd.of (z := n) ⟨by simp, fun _ => by simp [nv]⟩ (by simp) (by rw [e1]; decide) (by rw [e, e1, Nat.one_mul]) ?_
  simp
  omega

end Go.Proofs.YthfjpofbaeeafaaDoor
