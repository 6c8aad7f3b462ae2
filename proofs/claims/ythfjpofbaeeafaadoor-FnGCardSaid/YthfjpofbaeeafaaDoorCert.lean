/-
  The table of powers of ten, and that scaling by it is exact up to the sticky bit: the plain law (uscale).
-/
import GoSem.PinnedTables
namespace Go.Proofs.YthfjpofbaeeafaaDoor

/-- Two neighbours of N/D on both sides of it, with denominators that add up to more than any y below Y. -/
def cfGo (Y : Nat) : Nat → Nat → Nat → Nat → Nat → Nat → Nat → Nat × Nat × Nat × Nat
  | 0, _, _, h0, k0, h1, k1 => (h0, k0, h1, k1)
  | f + 1, n, d, h0, k0, h1, k1 =>
    if d = 0 ∨ Y ≤ n / d * k1 + k0 then (h0 + (Y - k0 - 1) / k1 * h1, k0 + (Y - k0 - 1) / k1 * k1, h1, k1)
    else cfGo Y f d (n % d) h1 k1 (n / d * h1 + h0) (n / d * k1 + k0)
/-- What is asked of them. -/
def cfOk (Y B N D h1 k1 h2 k2 : Nat) : Bool :=
  decide (Y ≤ k1 + k2) && (decide (k1 * h2 = k2 * h1 + 1) || decide (k2 * h1 = k1 * h2 + 1)) &&
    ((decide (h1 * D ≤ k1 * N) && decide (k2 * N ≤ h2 * D) && (decide (k1 * N = h1 * D) || decide (h1 * D * B + D ≤ k1 * N * B)) && (decide (k2 * N = h2 * D) || decide (k2 * N * B + D ≤ h2 * D * B))) ||
     (decide (h2 * D ≤ k2 * N) && decide (k1 * N ≤ h1 * D) && (decide (k2 * N = h2 * D) || decide (h2 * D * B + D ≤ k2 * N * B)) && (decide (k1 * N = h1 * D) || decide (k1 * N * B + D ≤ h1 * D * B))))

theorem far_core (a b k1 k2 t1 t2 D B y Y : Int) (hk1 : 0 ≤ k1) (hk2 : 0 ≤ k2) (hy : a * k1 + b * k2 = y) (hy0 : 0 < y) (hY : y < Y) (hsum : Y ≤ k1 + k2) (hB : 0 < B)
    (h1 : 0 ≤ t1) (h2 : t2 ≤ 0) (g1 : t1 = 0 ∨ D ≤ t1 * B) (g2 : t2 = 0 ∨ D ≤ -t2 * B) :
    a * t1 + b * t2 = 0 ∨ D ≤ (a * t1 + b * t2) * B ∨ D ≤ -(a * t1 + b * t2) * B := by
  have one : ∀ u v : Int, 1 ≤ u → 0 ≤ v → v ≤ u * v := fun u v hu hv => by
    have := Int.mul_le_mul_of_nonneg_right hu hv
    rwa [Int.one_mul] at this
  have nn : ∀ u v : Int, 0 ≤ u → 0 ≤ v → 0 ≤ u * v := fun u v => Int.mul_nonneg
  rcases Int.lt_or_le 0 a with ha | ha
  · rcases Int.lt_or_le 0 b with hb | hb
    · have q1 := one a k1 (by omega) hk1
      have q2 := one b k2 (by omega) hk2
      omega
    · have e : a * t1 + b * t2 = a * t1 + (-b) * (-t2) := by rw [Int.neg_mul_neg]
      rw [e]
      have p1 := nn a t1 (by omega) h1
      have p2 := nn (-b) (-t2) (by omega) (by omega)
      have q1 := one a t1 (by omega) h1
      rcases g1 with g1 | g1
      · subst g1
        rw [Int.mul_zero, Int.zero_add]
        rcases g2 with g2 | g2
        · subst g2; left; simp
        · rcases Int.lt_or_le b 0 with hb2 | hb2
          · right; left
            have := one (-b) (-t2) (by omega) (by omega)
            exact Int.le_trans g2 (Int.mul_le_mul_of_nonneg_right this (by omega))
          · have : b = 0 := by omega
            subst this; left; simp
      · right; left
        exact Int.le_trans g1 (Int.mul_le_mul_of_nonneg_right (by omega) (by omega))
  · rcases Int.lt_or_le 0 b with hb | hb
    · have e : -(a * t1 + b * t2) = (-a) * t1 + b * (-t2) := by rw [Int.neg_mul, Int.mul_neg, Int.neg_add]
      have p1 := nn (-a) t1 (by omega) h1
      have p2 := nn b (-t2) (by omega) (by omega)
      have q2 := one b (-t2) (by omega) (by omega)
      rcases g2 with g2 | g2
      · subst g2
        rw [Int.mul_zero, Int.add_zero] at e ⊢
        rcases g1 with g1 | g1
        · subst g1; left; simp
        · rcases Int.lt_or_le a 0 with ha2 | ha2
          · right; right
            have := one (-a) t1 (by omega) h1
            rw [← Int.neg_mul]
            exact Int.le_trans g1 (Int.mul_le_mul_of_nonneg_right this (by omega))
          · have : a = 0 := by omega
            subst this; left; simp
      · right; right
        rw [e]
        exact Int.le_trans g2 (Int.mul_le_mul_of_nonneg_right (by omega) (by omega))
    · have q1 := nn (-a) k1 (by omega) hk1
      have q2 := nn (-b) k2 (by omega) hk2
      rw [Int.neg_mul] at q1 q2
      omega

theorem far_of_ok {Y B N D h1 k1 h2 k2 : Nat} (h : cfOk Y B N D h1 k1 h2 k2 = true) (hB : 0 < B) (y : Nat) (n : Int) (hy : 0 < y) (hY : y < Y) :
    (y * N : Int) - n * D = 0 ∨ (D : Int) ≤ ((y * N : Int) - n * D) * B ∨ (D : Int) ≤ -((y * N : Int) - n * D) * B := by
  simp only [cfOk, Bool.and_eq_true, Bool.or_eq_true, decide_eq_true_eq] at h
  obtain ⟨⟨hsum, hdet⟩, hs⟩ := h
  have hsum' : (Y : Int) ≤ k1 + k2 := by exact_mod_cast hsum
  obtain ⟨a, b, ea, eb⟩ : ∃ a b : Int, a * k1 + b * k2 = y ∧ a * h1 + b * h2 = n := by
    rcases hdet with hd | hd
    · have hd' : (k1 : Int) * h2 = k2 * h1 + 1 := by exact_mod_cast hd
      refine ⟨y * h2 - n * k2, k1 * n - h1 * y, ?_, ?_⟩
      · have : ((y : Int) * h2 - n * k2) * k1 + (k1 * n - h1 * y) * k2 = y * (k1 * h2 - k2 * h1) := by
          simp only [Int.sub_mul, Int.mul_sub]
          have e1 : (y : Int) * h2 * k1 = y * (k1 * h2) := by rw [Int.mul_assoc, Int.mul_comm (h2 : Int)]
          have e2 : n * (k2 : Int) * k1 = k1 * n * k2 := by rw [Int.mul_assoc, Int.mul_comm (k2 : Int), ← Int.mul_assoc, Int.mul_comm n]
          have e3 : (h1 : Int) * y * k2 = y * (k2 * h1) := by rw [Int.mul_comm (h1 : Int), Int.mul_assoc, Int.mul_comm (h1 : Int)]
          rw [e1, e2, e3]; omega
        rw [this, hd']
        have : (k2 : Int) * h1 + 1 - k2 * h1 = 1 := by omega
        rw [this, Int.mul_one]
      · have : ((y : Int) * h2 - n * k2) * h1 + (k1 * n - h1 * y) * h2 = n * (k1 * h2 - k2 * h1) := by
          simp only [Int.sub_mul, Int.mul_sub]
          have e1 : (y : Int) * h2 * h1 = h1 * y * h2 := by rw [Int.mul_assoc, Int.mul_comm (y : Int), Int.mul_comm (h2 : Int), Int.mul_assoc, Int.mul_comm (h2 : Int), ← Int.mul_assoc]
          have e2 : n * (k2 : Int) * h1 = n * (k2 * h1) := by rw [Int.mul_assoc]
          have e3 : (k1 : Int) * n * h2 = n * (k1 * h2) := by rw [Int.mul_comm (k1 : Int), Int.mul_assoc]
          rw [e1, e2, e3]; omega
        rw [this, hd']
        have : (k2 : Int) * h1 + 1 - k2 * h1 = 1 := by omega
        rw [this, Int.mul_one]
    · have hd' : (k2 : Int) * h1 = k1 * h2 + 1 := by exact_mod_cast hd
      refine ⟨n * k2 - y * h2, h1 * y - k1 * n, ?_, ?_⟩
      · have : (n * (k2 : Int) - y * h2) * k1 + (h1 * y - k1 * n) * k2 = y * (k2 * h1 - k1 * h2) := by
          simp only [Int.sub_mul, Int.mul_sub]
          have e1 : (y : Int) * h2 * k1 = y * (k1 * h2) := by rw [Int.mul_assoc, Int.mul_comm (h2 : Int)]
          have e2 : n * (k2 : Int) * k1 = k1 * n * k2 := by rw [Int.mul_assoc, Int.mul_comm (k2 : Int), ← Int.mul_assoc, Int.mul_comm n]
          have e3 : (h1 : Int) * y * k2 = y * (k2 * h1) := by rw [Int.mul_comm (h1 : Int), Int.mul_assoc, Int.mul_comm (h1 : Int)]
          rw [e1, e2, e3]; omega
        rw [this, hd']
        have : (k1 : Int) * h2 + 1 - k1 * h2 = 1 := by omega
        rw [this, Int.mul_one]
      · have : (n * (k2 : Int) - y * h2) * h1 + (h1 * y - k1 * n) * h2 = n * (k2 * h1 - k1 * h2) := by
          simp only [Int.sub_mul, Int.mul_sub]
          have e1 : (y : Int) * h2 * h1 = h1 * y * h2 := by rw [Int.mul_assoc, Int.mul_comm (y : Int), Int.mul_comm (h2 : Int), Int.mul_assoc, Int.mul_comm (h2 : Int), ← Int.mul_assoc]
          have e2 : n * (k2 : Int) * h1 = n * (k2 * h1) := by rw [Int.mul_assoc]
          have e3 : (k1 : Int) * n * h2 = n * (k1 * h2) := by rw [Int.mul_comm (k1 : Int), Int.mul_assoc]
          rw [e1, e2, e3]; omega
        rw [this, hd']
        have : (k1 : Int) * h2 + 1 - k1 * h2 = 1 := by omega
        rw [this, Int.mul_one]
  have et : (y * N : Int) - n * D = a * (k1 * N - h1 * D) + b * (k2 * N - h2 * D) := by
    rw [← ea, ← eb]
    simp only [Int.add_mul, Int.mul_sub, Int.mul_assoc]
    omega
  rw [et]
  have c1 : ∀ u v : Nat, ((u * N : Nat) : Int) - ((v * D : Nat) : Int) = (u : Int) * N - v * D := fun u v => by simp
  have w1 : ∀ u v : Nat, (u * N * B : Int) = ((u * N * B : Nat) : Int) := fun u v => by simp
  rcases hs with ⟨⟨⟨s1, s2⟩, s3⟩, s4⟩ | ⟨⟨⟨s1, s2⟩, s3⟩, s4⟩
  · refine far_core a b k1 k2 (k1 * N - h1 * D) (k2 * N - h2 * D) D B y Y (by omega) (by omega) ea (by omega) (by omega) hsum' (by omega) ?_ ?_ ?_ ?_
    · rw [← c1]; omega
    · rw [← c1]; omega
    · rcases s3 with s3 | s3
      · left; rw [← c1]; omega
      · right
        rw [Int.sub_mul]
        have : ((h1 * D * B : Nat) : Int) + D ≤ ((k1 * N * B : Nat) : Int) := by exact_mod_cast s3
        simp only [Int.natCast_mul] at this
        omega
    · rcases s4 with s4 | s4
      · left; rw [← c1]; omega
      · right
        rw [Int.neg_sub, Int.sub_mul]
        have : ((k2 * N * B : Nat) : Int) + D ≤ ((h2 * D * B : Nat) : Int) := by exact_mod_cast s4
        simp only [Int.natCast_mul] at this
        omega
  · rw [Int.add_comm]
    refine far_core b a k2 k1 (k2 * N - h2 * D) (k1 * N - h1 * D) D B y Y (by omega) (by omega) (by omega) (by omega) (by omega) (by omega) (by omega) ?_ ?_ ?_ ?_
    · rw [← c1]; omega
    · rw [← c1]; omega
    · rcases s3 with s3 | s3
      · left; rw [← c1]; omega
      · right
        rw [Int.sub_mul]
        have : ((h2 * D * B : Nat) : Int) + D ≤ ((k2 * N * B : Nat) : Int) := by exact_mod_cast s3
        simp only [Int.natCast_mul] at this
        omega
    · rcases s4 with s4 | s4
      · left; rw [← c1]; omega
      · right
        rw [Int.neg_sub, Int.sub_mul]
        have : ((k1 * N * B : Nat) : Int) + D ≤ ((h1 * D * B : Nat) : Int) := by exact_mod_cast s4
        simp only [Int.natCast_mul] at this
        omega

def lp10 (p : Int) : Int := p * 108853 / 32768
/-- Ten to the p, over 2 to the lp10 p, times 2 to the c, as a fraction. -/
def tenN (p : Int) (c : Nat) : Nat := if 0 ≤ p then 10 ^ p.toNat * 2 ^ c else 2 ^ (c + (-lp10 p).toNat)
def tenD (p : Int) : Nat := if 0 ≤ p then 2 ^ (lp10 p).toNat else 10 ^ (-p).toNat
def cfWith (Y B N D : Nat) : Nat × Nat × Nat × Nat → Bool
  | (h1, k1, h2, k2) => cfOk Y B N D h1 k1 h2 k2
def cfAt (Y B c : Nat) (i : Nat) : Bool := cfWith Y B (tenN ((i : Int) - 348) c) (tenD ((i : Int) - 348)) (cfGo Y 120 (tenN ((i : Int) - 348) c) (tenD ((i : Int) - 348)) 0 1 1 0)
/-- The row of the table: 2 to the 64 times its first part, less its second part, is ten to the p over 2 to the lp10 p, times 2 to the 127, rounded up. -/
def rowOk (i : Nat) : Bool :=
  let r := Go.Pinned.pow10Rows.getD i (0, 0)
  decide (r.1 < 2 ^ 64) && decide (r.2 < 2 ^ 64) && decide (2 ^ 63 ≤ r.1) && decide (tenN ((i : Int) - 348) 127 + r.2 * tenD ((i : Int) - 348) ≤ r.1 * 2 ^ 64 * tenD ((i : Int) - 348)) && decide (r.1 * 2 ^ 64 * tenD ((i : Int) - 348) < tenN ((i : Int) - 348) 127 + (r.2 + 1) * tenD ((i : Int) - 348))

set_option maxRecDepth 100000 in
theorem cert_a : (List.range 696).all (cfAt (2 ^ 53) (2 ^ 64) 9) = true := by decide +kernel
set_option maxRecDepth 100000 in
theorem cert_b : (List.range 696).all (cfAt (2 ^ 55) (2 ^ 66) 3) = true := by decide +kernel
def rowsOk : List (Nat × Nat) → Nat → Bool
  | [], _ => true
  | r :: l, i => decide (r.1 < 2 ^ 64) && decide (r.2 < 2 ^ 64) && decide (2 ^ 63 ≤ r.1) && decide (tenN ((i : Int) - 348) 127 + r.2 * tenD ((i : Int) - 348) ≤ r.1 * 2 ^ 64 * tenD ((i : Int) - 348)) && decide (r.1 * 2 ^ 64 * tenD ((i : Int) - 348) < tenN ((i : Int) - 348) 127 + (r.2 + 1) * tenD ((i : Int) - 348)) && rowsOk l (i + 1)
set_option maxRecDepth 100000 in
theorem rows_ok : rowsOk Go.Pinned.pow10Rows 0 = true := by decide +kernel

/-! ### scaling -/

/-- What uscale answers, over a row of the table. -/
def uscN (x hi lo s : Nat) : Nat :=
  if x * hi / 2 ^ 64 % 2 ^ s ≠ 0 then (x * hi / 2 ^ 64 / 2 ^ s) ||| 1
  else if x * hi % 2 ^ 64 < x * lo / 2 ^ 64 then ((x * hi / 2 ^ 64 - 1) / 2 ^ s) ||| 1
  else (x * hi / 2 ^ 64 / 2 ^ s) ||| (if x * hi % 2 ^ 64 - x * lo / 2 ^ 64 > 1 then 1 else 0)
/-- A fraction of four times a number: its whole part, and whether something is left. -/
def unr (N D : Nat) : Nat := (N / D) ||| (if N % D = 0 then 0 else 1)

theorem unr_in {N D F : Nat} (h1 : F * D < N) (h2 : N < (F + 1) * D) : unr N D = F ||| 1 := by
  have hD : 0 < D := by
    rcases Nat.eq_zero_or_pos D with rfl | h
    · simp at h2
    · exact h
  have e1 : N / D = F := by
    rw [Nat.div_eq_iff hD]
    rw [Nat.add_mul] at h2
    exact ⟨by omega, by omega⟩
  have e2 : N % D ≠ 0 := by
    intro h
    have := Nat.div_add_mod N D
    rw [e1, h, Nat.mul_comm] at this
    omega
  unfold unr
  rw [e1, if_neg e2]
theorem unr_at {D F : Nat} (hD : 0 < D) : unr (F * D) D = F := by
  unfold unr
  rw [Nat.mul_div_cancel _ hD, Nat.mul_mod_left, if_pos rfl, Nat.or_zero]

theorem fin1 {Q M2G KG G A : Nat} (_ : Q + M2G ≤ KG) (down : KG < Q + M2G + 2 * G) (b : A + M2G + G + G ≤ KG) : A < Q := by omega
theorem fin2 {Q M2G KG G A : Nat} (hG : 0 < G) (up : Q + M2G ≤ KG) (b : KG + G ≤ A + M2G) : Q < A := by omega
theorem fin3 {Q M2G MG G : Nat} (hG : 0 < G) (up : Q + M2G ≤ MG) (b : MG + G ≤ M2G) : False := by omega
theorem fin4 {Q M2G KG G A : Nat} (_ : 0 < G) (down : KG < Q + M2G + 2 * G) (g : Q + 2 * G ≤ A) (b : A + M2G ≤ KG) : False := by omega
theorem fin5 {Q M2G KG G A : Nat} (hG : 0 < G) (up : Q + M2G ≤ KG) (g : A + 2 * G ≤ Q) (b : KG ≤ A + M2G + G) : False := by omega
theorem down_aux {Q K T D M2 L2 x : Nat} (h : K * T * D < Q + (M2 * T + L2 + x) * D) (hL : L2 ≤ T) (hx : x ≤ T) : K * (D * T) < Q + M2 * (D * T) + 2 * (D * T) := by
  have e1 : K * (D * T) = K * T * D := by rw [Nat.mul_comm D, Nat.mul_assoc]
  have e2 : M2 * (D * T) = M2 * T * D := by rw [Nat.mul_comm D, Nat.mul_assoc]
  have e3 : D * T = T * D := Nat.mul_comm _ _
  have e4 : (M2 * T + L2 + x) * D = M2 * T * D + L2 * D + x * D := by rw [Nat.add_mul, Nat.add_mul]
  have h3 : L2 * D ≤ T * D := Nat.mul_le_mul_right _ hL
  have h4 : x * D ≤ T * D := Nat.mul_le_mul_right _ hx
  omega
theorem usc_eq (x hi lo s N D : Nat) (hx : x < 2 ^ 64) (hx0 : 0 < x) (hlo : lo < 2 ^ 64) (hD : 0 < D) (hr1 : N + lo * D ≤ hi * 2 ^ 64 * D) (hr2 : hi * 2 ^ 64 * D < N + (lo + 1) * D)
    (gap : ∀ F : Nat, x * N = F * (D * 2 ^ 64 * (2 ^ 64 * 2 ^ s)) ∨ x * N + 2 * (D * 2 ^ 64) ≤ F * (D * 2 ^ 64 * (2 ^ 64 * 2 ^ s)) ∨ F * (D * 2 ^ 64 * (2 ^ 64 * 2 ^ s)) + 2 * (D * 2 ^ 64) ≤ x * N) :
    uscN x hi lo s = unr (x * N) (D * 2 ^ 64 * (2 ^ 64 * 2 ^ s)) := by
  obtain ⟨H, hH⟩ : ∃ H, H = x * hi / 2 ^ 64 := ⟨_, rfl⟩
  obtain ⟨M, hM⟩ : ∃ M, M = x * hi % 2 ^ 64 := ⟨_, rfl⟩
  obtain ⟨M2, hM2⟩ : ∃ M2, M2 = x * lo / 2 ^ 64 := ⟨_, rfl⟩
  obtain ⟨L2, hL2⟩ : ∃ L2, L2 = x * lo % 2 ^ 64 := ⟨_, rfl⟩
  have eH : x * hi = H * 2 ^ 64 + M := by rw [hH, hM, Nat.mul_comm _ (2 ^ 64)]; exact (Nat.div_add_mod _ _).symm
  have eM2 : x * lo = M2 * 2 ^ 64 + L2 := by rw [hM2, hL2, Nat.mul_comm _ (2 ^ 64)]; exact (Nat.div_add_mod _ _).symm
  have hM64 : M < 2 ^ 64 := by rw [hM]; exact Nat.mod_lt _ (by decide)
  have hL64 : L2 < 2 ^ 64 := by rw [hL2]; exact Nat.mod_lt _ (by decide)
  have hM2b : M2 + 2 ≤ 2 ^ 64 := by
    have h1 : x * lo ≤ (2 ^ 64 - 1) * (2 ^ 64 - 1) := Nat.mul_le_mul (by omega) (by omega)
    have : M2 * 2 ^ 64 ≤ (2 ^ 64 - 1) * (2 ^ 64 - 1) := by omega
    omega
  -- the number between
  obtain ⟨G, hG⟩ : ∃ G, G = D * 2 ^ 64 := ⟨_, rfl⟩
  have hG0 : 0 < G := by rw [hG]; exact Nat.mul_pos hD (by decide)
  rw [← hG] at gap ⊢
  obtain ⟨S, hS⟩ : ∃ S, S = 2 ^ s := ⟨_, rfl⟩
  have hS0 : 0 < S := by rw [hS]; exact Nat.two_pow_pos s
  rw [← hS] at gap ⊢
  have up : x * N + M2 * G ≤ (H * 2 ^ 64 + M) * G := by
    have h1 := Nat.mul_le_mul_left x hr1
    rw [Nat.mul_add, ← Nat.mul_assoc x lo D, eM2, ← Nat.mul_assoc x (hi * 2 ^ 64) D, ← Nat.mul_assoc x hi, eH] at h1
    rw [hG]
    have e1 : (H * 2 ^ 64 + M) * (D * 2 ^ 64) = (H * 2 ^ 64 + M) * 2 ^ 64 * D := by rw [Nat.mul_comm D, Nat.mul_assoc]
    have e2 : M2 * (D * 2 ^ 64) = M2 * 2 ^ 64 * D := by rw [Nat.mul_comm D, Nat.mul_assoc]
    rw [Nat.add_mul (M2 * 2 ^ 64)] at h1
    omega
  have down : (H * 2 ^ 64 + M) * G < x * N + M2 * G + 2 * G := by
    have h1 := Nat.mul_lt_mul_of_pos_left hr2 hx0
    rw [Nat.mul_add, ← Nat.mul_assoc x (lo + 1) D, Nat.mul_add x lo 1, eM2, ← Nat.mul_assoc x (hi * 2 ^ 64) D, ← Nat.mul_assoc x hi, eH, Nat.mul_one] at h1
    rw [hG]
    exact down_aux h1 (Nat.le_of_lt hL64) (Nat.le_of_lt hx)
  unfold uscN
  rw [← hH, ← hM, ← hM2, ← hS]
  have hHd := Nat.div_add_mod H S
  obtain ⟨F, hF⟩ : ∃ F, F = H / S := ⟨_, rfl⟩
  obtain ⟨r, hr⟩ : ∃ r, r = H % S := ⟨_, rfl⟩
  have hrS : r < S := by rw [hr]; exact Nat.mod_lt _ hS0
  rw [← hF, ← hr] at hHd
  rw [← hF, ← hr]
  -- all in units of G
  have big : ∀ A B : Nat, A < B → A * G + G ≤ B * G := fun A B h => by
    have := Nat.mul_le_mul_right G (show A + 1 ≤ B from h)
    rw [Nat.add_mul, Nat.one_mul] at this
    exact this
  have eR : ∀ f : Nat, f * (G * (2 ^ 64 * S)) = f * S * 2 ^ 64 * G := fun f => by
    rw [Nat.mul_comm G, ← Nat.mul_assoc, ← Nat.mul_assoc f, Nat.mul_right_comm f]
  have eHS : H = F * S + r := by rw [← hHd, Nat.mul_comm S]
  by_cases hr0 : r ≠ 0
  · rw [if_pos hr0]
    refine (unr_in ?_ ?_).symm
    · rw [eR]
      have b := big (F * S * 2 ^ 64 + M2 + 1) (H * 2 ^ 64 + M) (by rw [eHS]; omega)
      rw [Nat.add_mul (F * S * 2 ^ 64 + M2), Nat.add_mul (F * S * 2 ^ 64), Nat.one_mul] at b
      exact fin1 up down b
    · rw [eR, Nat.add_mul F 1 S, Nat.one_mul]
      have b := big (H * 2 ^ 64 + M) ((F * S + S) * 2 ^ 64 + M2) (by rw [eHS]; omega)
      rw [Nat.add_mul ((F * S + S) * 2 ^ 64)] at b
      exact fin2 hG0 up b
  · have hr0' : r = 0 := by omega
    rw [if_neg hr0]
    rw [hr0', Nat.add_zero] at eHS
    by_cases hlt : M < M2
    · rw [if_pos hlt]
      have hFp : 0 < F := by
        rcases Nat.eq_zero_or_pos F with h | h
        · exfalso
          have h1 : H = 0 := by rw [eHS, h, Nat.zero_mul]
          rw [h1, Nat.zero_mul, Nat.zero_add] at up
          have b := big M M2 hlt
          exact fin3 hG0 up b
        · exact h
      have eF1 : (H - 1) / S = F - 1 := by
        rw [Nat.div_eq_iff hS0, Nat.sub_mul, Nat.one_mul]
        have : S ≤ F * S := Nat.le_mul_of_pos_left _ hFp
        omega
      rw [eF1]
      have hFS : (F - 1) * S + S = F * S := by rw [Nat.sub_mul, Nat.one_mul]; have : S ≤ F * S := Nat.le_mul_of_pos_left _ hFp; omega
      refine (unr_in ?_ ?_).symm
      · rw [eR]
        have b := big ((F - 1) * S * 2 ^ 64 + M2 + 1) (H * 2 ^ 64 + M) (by rw [eHS, ← hFS]; omega)
        rw [Nat.add_mul ((F - 1) * S * 2 ^ 64 + M2), Nat.add_mul ((F - 1) * S * 2 ^ 64), Nat.one_mul] at b
        exact fin1 up down b
      · rw [eR, Nat.sub_add_cancel hFp, ← eHS]
        have b := big (H * 2 ^ 64 + M) (H * 2 ^ 64 + M2) (by omega)
        rw [Nat.add_mul _ M2] at b
        exact fin2 hG0 up b
    · rw [if_neg hlt]
      by_cases hgt : M - M2 > 1
      · rw [if_pos hgt]
        refine (unr_in ?_ ?_).symm
        · rw [eR, ← eHS]
          have b := big (H * 2 ^ 64 + M2 + 1) (H * 2 ^ 64 + M) (by omega)
          rw [Nat.add_mul (H * 2 ^ 64 + M2), Nat.add_mul (H * 2 ^ 64), Nat.one_mul] at b
          exact fin1 up down b
        · rw [eR, Nat.add_mul F 1 S, Nat.one_mul, ← eHS]
          have b := big (H * 2 ^ 64 + M) ((H + S) * 2 ^ 64 + M2) (by omega)
          rw [Nat.add_mul ((H + S) * 2 ^ 64)] at b
          exact fin2 hG0 up b
      · rw [if_neg hgt, Nat.or_zero]
        rcases gap F with g | g | g
        · rw [g, unr_at (Nat.mul_pos hG0 (Nat.mul_pos (by decide) hS0))]
        · exfalso
          rw [eR, ← eHS] at g
          have b := Nat.mul_le_mul_right G (show H * 2 ^ 64 + M2 ≤ H * 2 ^ 64 + M by omega)
          rw [Nat.add_mul _ M2] at b
          exact fin4 hG0 down g b
        · exfalso
          rw [eR, ← eHS] at g
          have b := Nat.mul_le_mul_right G (show H * 2 ^ 64 + M ≤ H * 2 ^ 64 + M2 + 1 by omega)
          rw [Nat.add_mul _ 1, Nat.add_mul _ M2, Nat.one_mul] at b
          exact fin5 hG0 up g b

theorem gap_aux {A C D B V W Q R G : Nat} (h : A = C ∨ C * B + D ≤ A * B ∨ A * B + D ≤ C * B) (hW : W = V * B) (hQ : Q = W * A) (hR : R = W * C) (hG : 2 * G ≤ V * D) :
    Q = R ∨ Q + 2 * G ≤ R ∨ R + 2 * G ≤ Q := by
  subst hW hQ hR
  have m : ∀ a b : Nat, a * B + D ≤ b * B → V * B * a + 2 * G ≤ V * B * b := fun a b h => by
    have := Nat.mul_le_mul_left V h
    rw [Nat.mul_add] at this
    have e1 : V * (a * B) = V * B * a := by rw [Nat.mul_comm a, Nat.mul_assoc]
    have e2 : V * (b * B) = V * B * b := by rw [Nat.mul_comm b, Nat.mul_assoc]
    omega
  rcases h with h | h | h
  · left; rw [h]
  · right; right; exact m _ _ h
  · right; left; exact m _ _ h

theorem far_nat {Y B N D h1 k1 h2 k2 : Nat} (h : cfOk Y B N D h1 k1 h2 k2 = true) (hB : 0 < B) (y n : Nat) (hy : 0 < y) (hY : y < Y) :
    y * N = n * D ∨ n * D * B + D ≤ y * N * B ∨ y * N * B + D ≤ n * D * B := by
  have h' := far_of_ok h hB y (n : Int) hy hY
  have e : ((y : Int) * N - n * D) * B = ((y * N * B : Nat) : Int) - ((n * D * B : Nat) : Int) := by simp [Int.sub_mul]
  have e0 : ((y : Int) * N - n * D) = ((y * N : Nat) : Int) - ((n * D : Nat) : Int) := by simp
  rw [Int.neg_mul, e, e0] at h'
  omega

theorem cfAt_ok {Y B c i : Nat} (h : cfAt Y B c i = true) : ∃ h1 k1 h2 k2, cfOk Y B (tenN ((i : Int) - 348) c) (tenD ((i : Int) - 348)) h1 k1 h2 k2 = true := by
  unfold cfAt at h
  generalize cfGo Y 120 (tenN ((i : Int) - 348) c) (tenD ((i : Int) - 348)) 0 1 1 0 = r at h
  obtain ⟨a, b, c, d⟩ := r
  exact ⟨a, b, c, d, h⟩

theorem tenN_add (p : Int) (c d : Nat) : tenN p (c + d) = tenN p c * 2 ^ d := by
  unfold tenN
  by_cases h : 0 ≤ p
  · rw [if_pos h, if_pos h, Nat.pow_add, Nat.mul_assoc]
  · rw [if_neg h, if_neg h, ← Nat.pow_add]
    congr 1
    omega
theorem tenD_pos (p : Int) : 0 < tenD p := by
  unfold tenD
  split
  · exact Nat.two_pow_pos _
  · exact Nat.pow_pos (by decide)

theorem gap_r1 {y a N b c : Nat} (h : c = a * b) : y * a * (N * b) = c * (y * N) := by subst h; ac_rfl
theorem gap_r2 {F D a u b c : Nat} (h : c = a * (a * b)) : F * (D * a * (a * (u * b))) = c * (F * u * D) := by subst h; ac_rfl

/-- The numbers that fixedWidthFloat scales. -/
theorem gap_a (i y s : Nat) (hi : i < 696) (hy0 : 0 < y) (hy : y < 2 ^ 53) (hs : 1 ≤ s) (F : Nat) :
    y * 2 ^ 11 * tenN ((i : Int) - 348) 127 = F * (tenD ((i : Int) - 348) * 2 ^ 64 * (2 ^ 64 * 2 ^ s)) ∨
    y * 2 ^ 11 * tenN ((i : Int) - 348) 127 + 2 * (tenD ((i : Int) - 348) * 2 ^ 64) ≤ F * (tenD ((i : Int) - 348) * 2 ^ 64 * (2 ^ 64 * 2 ^ s)) ∨
    F * (tenD ((i : Int) - 348) * 2 ^ 64 * (2 ^ 64 * 2 ^ s)) + 2 * (tenD ((i : Int) - 348) * 2 ^ 64) ≤ y * 2 ^ 11 * tenN ((i : Int) - 348) 127 := by
  obtain ⟨h1, k1, h2, k2, hc⟩ := cfAt_ok (List.all_eq_true.1 cert_a i (List.mem_range.2 hi))
  have hf := far_nat hc (Nat.two_pow_pos 64) y (F * 2 ^ (s - 1)) hy0 hy
  have e1 : tenN ((i : Int) - 348) 127 = tenN ((i : Int) - 348) 9 * 2 ^ 118 := tenN_add _ 9 118
  obtain ⟨N, hN⟩ : ∃ N, N = tenN ((i : Int) - 348) 9 := ⟨_, rfl⟩
  obtain ⟨D, hD⟩ : ∃ D, D = tenD ((i : Int) - 348) := ⟨_, rfl⟩
  rw [← hN] at e1 hf
  rw [← hD] at hf ⊢
  rw [e1]
  refine gap_aux (W := 2 ^ 65 * 2 ^ 64) (V := 2 ^ 65) hf rfl ?_ ?_ (by omega)
  · exact gap_r1 (by decide)
  · obtain ⟨t, rfl⟩ : ∃ t, s = t + 1 := ⟨s - 1, by omega⟩
    rw [Nat.add_sub_cancel, Nat.pow_succ]
    exact gap_r2 (by decide)

/-- The numbers that shortFloat scales. -/
theorem gap_b (i y s : Nat) (hi : i < 696) (hy0 : 0 < y) (hy : y < 2 ^ 55) (hs : 5 ≤ s) (F : Nat) :
    y * 2 ^ 9 * tenN ((i : Int) - 348) 127 = F * (tenD ((i : Int) - 348) * 2 ^ 64 * (2 ^ 64 * 2 ^ s)) ∨
    y * 2 ^ 9 * tenN ((i : Int) - 348) 127 + 2 * (tenD ((i : Int) - 348) * 2 ^ 64) ≤ F * (tenD ((i : Int) - 348) * 2 ^ 64 * (2 ^ 64 * 2 ^ s)) ∨
    F * (tenD ((i : Int) - 348) * 2 ^ 64 * (2 ^ 64 * 2 ^ s)) + 2 * (tenD ((i : Int) - 348) * 2 ^ 64) ≤ y * 2 ^ 9 * tenN ((i : Int) - 348) 127 := by
  obtain ⟨h1, k1, h2, k2, hc⟩ := cfAt_ok (List.all_eq_true.1 cert_b i (List.mem_range.2 hi))
  have hf := far_nat hc (Nat.two_pow_pos 66) y (F * 2 ^ (s - 5)) hy0 hy
  have e1 : tenN ((i : Int) - 348) 127 = tenN ((i : Int) - 348) 3 * 2 ^ 124 := tenN_add _ 3 124
  obtain ⟨N, hN⟩ : ∃ N, N = tenN ((i : Int) - 348) 3 := ⟨_, rfl⟩
  obtain ⟨D, hD⟩ : ∃ D, D = tenD ((i : Int) - 348) := ⟨_, rfl⟩
  rw [← hN] at e1 hf
  rw [← hD] at hf ⊢
  rw [e1]
  refine gap_aux (W := 2 ^ 67 * 2 ^ 66) (V := 2 ^ 67) hf rfl ?_ ?_ (by omega)
  · exact gap_r1 (by decide)
  · obtain ⟨t, rfl⟩ : ∃ t, s = t + 5 := ⟨s - 5, by omega⟩
    rw [Nat.add_sub_cancel, Nat.pow_add]
    exact gap_r2 (by decide)

theorem rowsOk_at : ∀ (l : List (Nat × Nat)) (j : Nat), rowsOk l j = true → ∀ (i : Nat) (r : Nat × Nat), l[i]? = some r →
    r.1 < 2 ^ 64 ∧ r.2 < 2 ^ 64 ∧ 2 ^ 63 ≤ r.1 ∧ tenN (((j + i : Nat) : Int) - 348) 127 + r.2 * tenD (((j + i : Nat) : Int) - 348) ≤ r.1 * 2 ^ 64 * tenD (((j + i : Nat) : Int) - 348) ∧
      r.1 * 2 ^ 64 * tenD (((j + i : Nat) : Int) - 348) < tenN (((j + i : Nat) : Int) - 348) 127 + (r.2 + 1) * tenD (((j + i : Nat) : Int) - 348)
  | [], _, _, i, r, hr => by simp at hr
  | a :: l, j, h, i, r, hr => by
    simp only [rowsOk, Bool.and_eq_true, decide_eq_true_eq] at h
    obtain ⟨⟨⟨⟨⟨q1, q2⟩, q3⟩, q4⟩, q5⟩, q6⟩ := h
    cases i with
    | zero =>
      simp only [List.getElem?_cons_zero, Option.some.injEq] at hr
      subst hr
      exact ⟨q1, q2, q3, q4, q5⟩
    | succ i =>
      rw [List.getElem?_cons_succ] at hr
      have := rowsOk_at l (j + 1) q6 i r hr
      rwa [show j + 1 + i = j + (i + 1) by omega] at this

end Go.Proofs.YthfjpofbaeeafaaDoor
