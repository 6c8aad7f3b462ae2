/-
  What is written for the verbs b, x and X is read as the number: the plain law.
-/
import Derived.Test.YthfjpofbaeeafaaDoorRP
import Derived.Test.YthfjpofbaeeafaaDoorPX
namespace Go.Proofs.YthfjpofbaeeafaaDoor
open Go.RowKit

theorem rpBody_append (base verb : Nat) (a b : List UInt8) (st : RP) : rpBody base verb (a ++ b) st = (rpBody base verb a st).bind (rpBody base verb b) := by
  induction a generalizing st with
  | nil => rfl
  | cons c l ih =>
    rw [List.cons_append, rpBody, rpBody]
    cases rpStep base verb st c.toNat with
    | none => rfl
    | some s => simp only [Option.bind_some]; exact ih s

theorem dec_toNat (d : Nat) (h : d < 10) : (UInt8.ofNat (48 + d)).toNat = 48 + d := by
  rw [UInt8.toNat_ofNat']; omega

theorem rpStep_dec (st : RP) (d : Nat) (h : d < 10) (hov : st.n * 10 + d < 18446744073709551616) : rpStep 10 98 st (48 + d) = some ⟨st.n * 10 + d, if st.point then st.pw - 4 else st.pw, st.point, st.dg + 1⟩ := by
  have hx : hexv (48 + d) = d := by unfold hexv; rw [if_pos (by omega)]; omega
  unfold rpStep
  rw [if_neg (by omega), hx, if_neg (by omega)]
  simp

theorem rpBody_dec (u : Nat) (hu : U64 u) : rpBody 10 98 (Lib.decDigits u) ⟨0, 0, false, 0⟩ = some ⟨u, 0, false, (Lib.decDigits u).length⟩ := by
  induction u using Nat.strongRecOn with
  | _ u ih =>
    unfold U64 at *
    by_cases h : u < 10
    · rw [Lib.decDigits, dif_pos h, rpBody, dec_toNat u h, rpStep_dec _ u h (by simp; omega)]
      simp [rpBody]
    · rw [Lib.decDigits, dif_neg h, rpBody_append, ih (u / 10) (by omega) (by omega)]
      simp only [Option.bind_some]
      rw [rpBody, dec_toNat _ (by omega), rpStep_dec _ _ (by omega) (by show u / 10 * 10 + u % 10 < _; omega)]
      simp only [Option.bind_some, rpBody, List.length_append, List.length_singleton]
      rw [show u / 10 * 10 + u % 10 = u by omega]
      rfl

theorem decDigits_range (u : Nat) : ∀ c ∈ Lib.decDigits u, 48 ≤ c.toNat ∧ c.toNat ≤ 57 := by
  induction u using Nat.strongRecOn with
  | _ u ih =>
    intro c hc
    by_cases h : u < 10
    · rw [Lib.decDigits, dif_pos h] at hc
      simp only [List.mem_singleton] at hc
      rw [hc, dec_toNat u h]; omega
    · rw [Lib.decDigits, dif_neg h, List.mem_append, List.mem_singleton] at hc
      rcases hc with hc | hc
      · exact ih (u / 10) (by omega) c hc
      · rw [hc, dec_toNat _ (by omega)]; omega

theorem decVal_dec (u : Nat) : decVal (Lib.decDigits u) = u := by
  induction u using Nat.strongRecOn with
  | _ u ih =>
    by_cases h : u < 10
    · rw [Lib.decDigits, dif_pos h]
      have := decVal_snoc [] (UInt8.ofNat (48 + u))
      rw [List.nil_append] at this
      rw [this, dec_toNat u h]
      simp [decVal]
    · rw [Lib.decDigits, dif_neg h, decVal_snoc, ih (u / 10) (by omega), dec_toNat _ (by omega)]
      omega

theorem decDigits_pos (u : Nat) : 0 < (Lib.decDigits u).length := by
  rw [Lib.decDigits_length]; exact Lib.nDigits_pos u

theorem decDigits_four (u : Nat) (h : u < 10000) : (Lib.decDigits u).length ≤ 4 := by
  rw [Lib.decDigits_length]
  by_cases h1 : u < 10
  · rw [Lib.nDigits_small h1]; omega
  · rw [Lib.nDigits_big h1]
    by_cases h2 : u / 10 < 10
    · rw [Lib.nDigits_small h2]; omega
    · rw [Lib.nDigits_big h2]
      by_cases h3 : u / 10 / 10 < 10
      · rw [Lib.nDigits_small h3]; omega
      · rw [Lib.nDigits_big h3, Lib.nDigits_small (by omega)]; omega

theorem odd_part (n : Nat) (h : 0 < n) : ∃ od a, n = od * 2 ^ a ∧ od % 2 = 1 := by
  induction n using Nat.strongRecOn with
  | _ n ih =>
    by_cases h2 : n % 2 = 1
    · exact ⟨n, 0, by simp, h2⟩
    · obtain ⟨od, a, h3, h4⟩ := ih (n / 2) (by omega) (by omega)
      exact ⟨od, a + 1, by rw [Nat.pow_succ, ← Nat.mul_assoc, ← h3]; omega, h4⟩

theorem fmtBText_eq (neg : Bool) (M : Nat) (P : Int) : fmtBText neg M P = (if neg then [45] else []) ++ (Lib.decDigits M ++ 112 :: (if P < 0 then 45 else 43) :: Lib.decDigits P.natAbs) := by
  unfold fmtBText sgn Lib.itoa
  by_cases h : P < 0
  · have h' : ¬ 0 ≤ P := by omega
    simp [h, h']
  · have h' : 0 ≤ P := by omega
    have e : P.toNat = P.natAbs := by omega
    simp [h, h', e]

/-! ### base 16 -/

theorem hexd_facts (up : Bool) (d : Nat) (h : d < 16) : hexv (hexd up d).toNat = d ∧ (hexd up d).toNat ≠ 46 ∧ ¬ ((if up then 88 else 120) = 120 ∧ (hexd up d).toNat < 97 ∧ 57 < (hexd up d).toNat) ∧ ¬ ((if up then 88 else 120) = 88 ∧ 97 ≤ (hexd up d).toNat) ∧ (hexd up d).toNat ≠ 112 ∧ (hexd up d).toNat ≠ 80 := by
  have : ∀ up : Bool, ∀ d : Fin 16, hexv (hexd up d.val).toNat = d.val ∧ (hexd up d.val).toNat ≠ 46 ∧ ¬ ((if up then 88 else 120) = 120 ∧ (hexd up d.val).toNat < 97 ∧ 57 < (hexd up d.val).toNat) ∧ ¬ ((if up then 88 else 120) = 88 ∧ 97 ≤ (hexd up d.val).toNat) ∧ (hexd up d.val).toNat ≠ 112 ∧ (hexd up d.val).toNat ≠ 80 := by decide
  exact this up ⟨d, h⟩

theorem rpStep_hex (up : Bool) (st : RP) (d : Nat) (h : d < 16) (hov : st.n * 16 + d < 18446744073709551616) : rpStep 16 (if up then 88 else 120) st (hexd up d).toNat = some ⟨st.n * 16 + d, if st.point then st.pw - 4 else st.pw, st.point, st.dg + 1⟩ := by
  obtain ⟨h1, h2, h3, h4, _⟩ := hexd_facts up d h
  unfold rpStep
  rw [if_neg (by omega), h1, if_neg (by rintro (a | a | a | a | a) <;> first | omega | exact h3 a | exact h4 a | (simp at a; omega))]
  simp

theorem hexTail_rp (up : Bool) : ∀ (k m n : Nat) (pw : Int) (dg : Nat), k ≤ 16 → m < 2 ^ 64 → m % 16 ^ (17 - k) = 0 → n < 2 * 16 ^ (16 - k) →
    ∃ l V : Nat, rpBody 16 (if up then 88 else 120) (hexTail up k m) ⟨n, pw, true, dg⟩ = some ⟨n * 16 ^ l + V, pw - 4 * (l : Int), true, dg + l⟩ ∧ V * 16 ^ (16 - l) = m ∧ l ≤ k - 1
  | 0, m, n, pw, dg, _, hm, hd, hn => by
    have h0 : m = 0 := by
      rw [Nat.mod_eq_of_lt (by omega)] at hd
      exact hd
    subst h0
    exact ⟨0, 0, by simp [hexTail, rpBody], by simp, by omega⟩
  | k + 1, m, n, pw, dg, hk, hm, hd, hn => by
    by_cases h0 : m = 0
    · subst h0
      exact ⟨0, 0, by simp [hexTail, rpBody], by simp, by omega⟩
    · have hk1 : 1 ≤ k := by
        rcases Nat.eq_zero_or_pos k with rfl | h
        · rw [Nat.mod_eq_of_lt (by omega)] at hd
          omega
        · exact h
      have e17 : 17 - k = (17 - (k + 1)) + 1 := by omega
      have e16 : 16 - k = (16 - (k + 1)) + 1 := by omega
      have hd' : m * 16 % 2 ^ 64 % 16 ^ (17 - k) = 0 := by
        have hdv : 16 ^ (17 - k) ∣ 2 ^ 64 := by
          rw [show (2 : Nat) ^ 64 = 16 ^ 16 by decide]
          exact Nat.pow_dvd_pow _ (by omega)
        rw [Nat.mod_mod_of_dvd _ hdv, e17, Nat.pow_succ]
        exact Nat.mod_eq_zero_of_dvd (Nat.mul_dvd_mul_right (Nat.dvd_of_mod_eq_zero hd) 16)
      have hpow : 16 ^ (16 - (k + 1)) ≤ 16 ^ 14 := Nat.pow_le_pow_right (by decide) (by omega)
      have hdlt : m / 2 ^ 60 < 16 := by omega
      have hn' : n * 16 + m / 2 ^ 60 < 2 * 16 ^ (16 - k) := by rw [e16, Nat.pow_succ]; omega
      obtain ⟨l, V, h1, h2, h3⟩ := hexTail_rp up k (m * 16 % 2 ^ 64) (n * 16 + m / 2 ^ 60) (pw - 4) (dg + 1) (by omega) (Nat.mod_lt _ (by decide)) hd' hn'
      refine ⟨l + 1, m / 2 ^ 60 * 16 ^ l + V, ?_, ?_, by omega⟩
      · rw [hexTail, if_neg h0, rpBody, rpStep_hex up _ _ hdlt (by show n * 16 + m / 2 ^ 60 < _; omega)]
        simp only [Option.bind_some, if_true]
        rw [h1]
        congr 1
        simp only [RP.mk.injEq, true_and]
        refine ⟨?_, by omega, by omega⟩
        rw [show 16 ^ (l + 1) = 16 ^ l * 16 from Nat.pow_succ _ _, Nat.add_mul, Nat.mul_assoc n 16, Nat.mul_comm 16 (16 ^ l), Nat.add_assoc]
      · have hl16 : l ≤ 15 := by omega
        have e : 16 - l = (16 - (l + 1)) + 1 := by omega
        rw [e, Nat.pow_succ, ← Nat.mul_assoc] at h2
        have h6 : V * 16 ^ (16 - (l + 1)) = m % 2 ^ 60 := by omega
        have h7 : m / 2 ^ 60 * 16 ^ l * 16 ^ (16 - (l + 1)) = m / 2 ^ 60 * 2 ^ 60 := by
          rw [Nat.mul_assoc, ← Nat.pow_add, show l + (16 - (l + 1)) = 15 by omega]
        rw [Nat.add_mul, h6, h7]
        omega

/-! ### the exponent of base 16 -/

theorem dch_toNat (d : Nat) (h : d < 10) : (dch d).toNat = 48 + d := dec_toNat d h

theorem expX_facts (a : Nat) (h : a < 10000) : decVal (expX a) = a ∧ 0 < (expX a).length ∧ (expX a).length ≤ 4 ∧ ∀ c ∈ expX a, 48 ≤ c.toNat ∧ c.toNat ≤ 57 := by
  unfold expX
  by_cases h1 : a < 100
  · have d1 := dch_toNat (a / 10) (by omega)
    have d2 := dch_toNat (a % 10) (by omega)
    rw [if_pos h1]
    refine ⟨?_, by simp, by simp, ?_⟩
    · simp only [decVal, List.foldl, d1, d2]; omega
    · intro c hc
      simp only [List.mem_cons, List.not_mem_nil, or_false] at hc
      rcases hc with rfl | rfl <;> omega
  · by_cases h2 : a < 1000
    · have d1 := dch_toNat (a / 100) (by omega)
      have d2 := dch_toNat (a / 10 % 10) (by omega)
      have d3 := dch_toNat (a % 10) (by omega)
      rw [if_neg h1, if_pos h2]
      refine ⟨?_, by simp, by simp, ?_⟩
      · simp only [decVal, List.foldl, d1, d2, d3]; omega
      · intro c hc
        simp only [List.mem_cons, List.not_mem_nil, or_false] at hc
        rcases hc with rfl | rfl | rfl <;> omega
    · have d0 := dch_toNat (a / 1000) (by omega)
      have d1 := dch_toNat (a / 100 % 10) (by omega)
      have d2 := dch_toNat (a / 10 % 10) (by omega)
      have d3 := dch_toNat (a % 10) (by omega)
      rw [if_neg h1, if_neg h2]
      refine ⟨?_, by simp, by simp, ?_⟩
      · simp only [decVal, List.foldl, d0, d1, d2, d3]; omega
      · intro c hc
        simp only [List.mem_cons, List.not_mem_nil, or_false] at hc
        rcases hc with rfl | rfl | rfl | rfl <;> omega

theorem hexTail_no (up : Bool) : ∀ (k m : Nat), m < 2 ^ 64 → ∀ c ∈ hexTail up k m, c ≠ (if up then 80 else 112) ∧ ((48 ≤ c.toNat ∧ c.toNat ≤ 57) ∨ (65 ≤ c.toNat ∧ c.toNat ≤ 70) ∨ (97 ≤ c.toNat ∧ c.toNat ≤ 102))
  | 0, m, _, c, hc => by simp [hexTail] at hc
  | k + 1, m, hm, c, hc => by
    by_cases h0 : m = 0
    · rw [hexTail, if_pos h0] at hc; simp at hc
    · rw [hexTail, if_neg h0, List.mem_cons] at hc
      rcases hc with rfl | hc
      · have : ∀ up : Bool, ∀ d : Fin 16, hexd up d.val ≠ (if up then 80 else 112) ∧ ((48 ≤ (hexd up d.val).toNat ∧ (hexd up d.val).toNat ≤ 57) ∨ (65 ≤ (hexd up d.val).toNat ∧ (hexd up d.val).toNat ≤ 70) ∨ (97 ≤ (hexd up d.val).toNat ∧ (hexd up d.val).toNat ≤ 102)) := by decide
        exact this up ⟨m / 2 ^ 60, by omega⟩
      · exact hexTail_no up k _ (Nat.mod_lt _ (by decide)) c hc

theorem hexTail_len (up : Bool) : ∀ (k m : Nat), (hexTail up k m).length ≤ k
  | 0, m => by simp [hexTail]
  | k + 1, m => by
    have := hexTail_len up k (m * 16 % 2 ^ 64)
    by_cases h0 : m = 0
    · rw [hexTail, if_pos h0]; simp
    · rw [hexTail, if_neg h0, List.length_cons]; omega

theorem rpStep_point (verb : Nat) (n : Nat) (pw : Int) : rpStep 16 verb ⟨n, pw, false, 1⟩ 46 = some ⟨n, pw, true, 1⟩ := by
  unfold rpStep
  rw [if_pos ⟨rfl, rfl, rfl, rfl⟩]

/-- The digits that stand between 0x and p. -/
theorem fracX_rp (up : Bool) (T : Nat) (hT : T < 2 ^ 64) (hd : T % 16 = 0) :
    ∃ fin, rpBody 16 (if up then 88 else 120) (dch 1 :: fracX up T) ⟨0, 0, false, 0⟩ = some fin ∧ 0 < fin.dg ∧ ∃ l : Nat, l ≤ 15 ∧ fin.pw = -4 * (l : Int) ∧ fin.n * 2 ^ (60 - 4 * l) = 2 ^ 60 + T / 16 := by
  have s1 : rpStep 16 (if up then 88 else 120) ⟨0, 0, false, 0⟩ (dch 1).toNat = some ⟨1, 0, false, 1⟩ := by
    cases up <;> rfl
  unfold fracX
  rw [rpBody, s1, Option.bind_some]
  by_cases h0 : T = 0
  · rw [if_pos h0]
    exact ⟨⟨1, 0, false, 1⟩, rfl, by decide, 0, by omega, by simp, by simp [h0]⟩
  · rw [if_neg h0, rpBody, show (46 : UInt8).toNat = 46 from rfl, rpStep_point, Option.bind_some]
    obtain ⟨l, V, h1, h2, h3⟩ := hexTail_rp up 16 T 1 0 1 (by omega) hT (by simpa using hd) (by simp)
    refine ⟨_, h1, (by show 0 < 1 + l; omega), l, by omega, (by show 0 - 4 * (l : Int) = -4 * (l : Int); omega), ?_⟩
    show (1 * 16 ^ l + V) * 2 ^ (60 - 4 * l) = _
    have e : (2 : Nat) ^ (60 - 4 * l) = 16 ^ (15 - l) := by
      rw [show 60 - 4 * l = 4 * (15 - l) by omega, Nat.pow_mul]
    have e2 : 16 ^ (16 - l) = 16 ^ (15 - l) * 16 := by rw [← Nat.pow_succ]; congr 1; omega
    have e3 : 16 ^ l * 16 ^ (15 - l) = 2 ^ 60 := by rw [← Nat.pow_add, show l + (15 - l) = 15 by omega]
    rw [e2, ← Nat.mul_assoc] at h2
    rw [e, Nat.one_mul, Nat.add_mul, e3]
    omega

/-- The same number, if both are an odd number times powers of two. -/
theorem odd_same {n M l c : Nat} (h : n * 2 ^ l = M * 2 ^ c) (hn : 0 < n) : ∃ od a b, od % 2 = 1 ∧ n = od * 2 ^ a ∧ M = od * 2 ^ b ∧ a + l = b + c := by
  have hM : 0 < M := by
    rcases Nat.eq_zero_or_pos M with rfl | h1
    · rw [Nat.zero_mul] at h
      have := Nat.mul_pos hn (Nat.two_pow_pos l)
      omega
    · exact h1
  obtain ⟨o1, a, e1, p1⟩ := odd_part n hn
  obtain ⟨o2, b, e2, p2⟩ := odd_part M hM
  rw [e1, e2, Nat.mul_assoc, Nat.mul_assoc, ← Nat.pow_add, ← Nat.pow_add] at h
  have key : ∀ x y u v : Nat, x % 2 = 1 → y % 2 = 1 → x * 2 ^ u = y * 2 ^ v → u ≤ v := by
    intro x y u v hx hy e
    rcases Nat.lt_or_ge v u with hlt | hge
    · exfalso
      rw [show u = (u - v) + v by omega, Nat.pow_add, ← Nat.mul_assoc] at e
      have e' := Nat.eq_of_mul_eq_mul_right (Nat.two_pow_pos v) e
      rw [show u - v = (u - v - 1) + 1 by omega, Nat.pow_succ, ← Nat.mul_assoc] at e'
      omega
    · exact hge
  have k1 := key _ _ _ _ p1 p2 h
  have k2 := key _ _ _ _ p2 p1 h.symm
  have k3 : a + l = b + c := by omega
  rw [k3] at h
  have k4 := Nat.eq_of_mul_eq_mul_right (Nat.two_pow_pos _) h
  exact ⟨o1, a, b, p1, e1, k4 ▸ e2, k3⟩

theorem pow_bound {od a n : Nat} (ho : od % 2 = 1) (h : n = od * 2 ^ a) (hn : n < 2 ^ 64) : a < 64 := by
  have h1 : 2 ^ a ≤ od * 2 ^ a := Nat.le_mul_of_pos_left _ (by omega)
  exact (Nat.pow_lt_pow_iff_right (a := 2) (by decide)).1 (by omega)

/-! ### the two readings, put together -/

/-- What stands behind the sign, for the verbs b, x and X: digits, p, a sign, digits, and the number that they write is M times 2 to the P. -/
structure ReadsAs (base verb : Nat) (pch : UInt8) (M : Nat) (P : Int) (body : List UInt8) (sg : UInt8) (es : List UInt8) (fin : RP) (KK : Int) : Prop where
  hb : rpBody base verb body ⟨0, 0, false, 0⟩ = some fin
  hfd : 0 < fin.dg
  hbp : ∀ c ∈ body, c ≠ pch
  hes : 0 < es.length
  hel : es.length ≤ 4
  hsg : sg = 43 ∨ sg = 45
  hed : ∀ c ∈ es, 48 ≤ c.toNat ∧ c.toNat ≤ 57
  hKK : KK = if sg = 45 then -(decVal es : Int) else decVal es
  same : (M = 0 ∧ fin.n = 0) ∨ ∃ od a b : Nat, od % 2 = 1 ∧ fin.n = od * 2 ^ a ∧ M = od * 2 ^ b ∧ fin.pw + KK + a = P + b ∧ a < 64 ∧ b < 64
  n64 : fin.n < 2 ^ 64
  len : body.length ≤ 40

theorem bReads (M : Nat) (P : Int) (hM : U64 M) (hP : P.natAbs < 10000) :
    ReadsAs 10 98 112 M P (Lib.decDigits M) (if P < 0 then 45 else 43) (Lib.decDigits P.natAbs) ⟨M, 0, false, (Lib.decDigits M).length⟩ P where
  hb := rpBody_dec M hM
  hfd := decDigits_pos M
  hbp c hc h := by
    have := decDigits_range M c hc
    rw [h] at this
    exact absurd this (by decide)
  hes := decDigits_pos _
  hel := decDigits_four _ hP
  hsg := by by_cases h : P < 0 <;> simp [h]
  hed := decDigits_range _
  hKK := by
    rw [decVal_dec]
    by_cases h : P < 0
    · rw [if_pos h, if_pos rfl]; omega
    · rw [if_neg h, if_neg (by decide)]; omega
  same := by
    by_cases h : M = 0
    · exact .inl ⟨h, h⟩
    · obtain ⟨od, a, h1, h2⟩ := odd_part M (by omega)
      exact .inr ⟨od, a, a, h2, h1, h1, by show 0 + P + (a : Int) = P + a; omega, pow_bound h2 h1 hM, pow_bound h2 h1 hM⟩
  n64 := hM
  len := by
    have := decDigits_le M hM
    omega

theorem fXText_eq (up neg : Bool) (M mb : Nat) (P : Int) (hM : M < 2 ^ (mb + 1)) (hmb : mb ≤ 60) (hP : P.natAbs < 5000) :
    ∃ body sg es fin KK, fXText up neg M mb P = (if neg then [45] else []) ++ (48 :: (if up then 88 else 120) :: (body ++ (if up then 80 else 112) :: sg :: es)) ∧ ReadsAs 16 (if up then 88 else 120) (if up then 80 else 112) M P body sg es fin KK := by
  by_cases h0 : M = 0
  · refine ⟨[48], 43, [48, 48], ⟨0, 0, false, 1⟩, 0, ?_, ?_⟩
    · rw [fXText, if_pos h0]
      cases up <;> cases neg <;> rfl
    · refine ⟨by cases up <;> rfl, by decide, by cases up <;> decide, by decide, by decide, by decide, by decide, by decide, .inl ⟨h0, rfl⟩, by decide, by decide⟩
  · have hnm := norm60 M mb (by omega) hM hmb
    obtain ⟨X0, hX0⟩ : ∃ X0, X0 = M * 2 ^ (60 - mb) * 2 ^ (mb - M.log2) := ⟨_, rfl⟩
    rw [← hX0] at hnm
    unfold P60 at hnm
    obtain ⟨T, hT⟩ : ∃ T, T = X0 * 16 % 2 ^ 64 := ⟨_, rfl⟩
    obtain ⟨k, hk⟩ : ∃ k, k = mb - M.log2 := ⟨_, rfl⟩
    obtain ⟨E, hE⟩ : ∃ E, E = P + (mb : Int) - (k : Int) := ⟨_, rfl⟩
    have hk2 : k ≤ mb := by omega
    obtain ⟨fin, h1, h2, l, h3, h4, h5⟩ := fracX_rp up T (by omega) (by omega)
    have h6 : fin.n * 2 ^ (60 - 4 * l) = M * 2 ^ (60 - mb + k) := by
      rw [h5, Nat.pow_add, ← Nat.mul_assoc, hk, ← hX0]; omega
    have hfp : 0 < fin.n := by
      rcases Nat.eq_zero_or_pos fin.n with h | h
      · rw [h, Nat.zero_mul] at h5; omega
      · exact h
    have hf64 : fin.n < 2 ^ 64 := by
      have : fin.n ≤ fin.n * 2 ^ (60 - 4 * l) := Nat.le_mul_of_pos_right _ (Nat.two_pow_pos _)
      omega
    obtain ⟨od, a, b, o1, o2, o3, o4⟩ := odd_same h6 hfp
    obtain ⟨x1, x2, x3, x4⟩ := expX_facts E.natAbs (by omega)
    refine ⟨dch 1 :: fracX up T, if E < 0 then 45 else 43, expX E.natAbs, fin, E, ?_, ?_⟩
    · rw [fXText, if_neg h0, ← hX0, ← hT, ← hk, ← hE]
      unfold fmtXText sgn
      cases up <;> simp
    · refine ⟨h1, h2, ?_, x2, x3, by by_cases h : E < 0 <;> simp [h], x4, ?_, .inr ⟨od, a, b, o1, o2, o3, by omega, pow_bound o1 o2 hf64, ?_⟩, hf64, ?_⟩
      · intro c hc
        rw [List.mem_cons] at hc
        rcases hc with rfl | hc
        · cases up <;> decide
        · unfold fracX at hc
          by_cases hT0 : T = 0
          · rw [if_pos hT0] at hc; simp at hc
          · rw [if_neg hT0, List.mem_cons] at hc
            rcases hc with rfl | hc
            · cases up <;> decide
            · exact (hexTail_no up 16 T (by omega) c hc).1
      · rw [x1]
        by_cases h : E < 0
        · rw [if_pos h, if_pos rfl]; omega
        · rw [if_neg h, if_neg (by decide)]; omega
      · exact pow_bound o1 o3 (Nat.lt_of_lt_of_le hM (Nat.pow_le_pow_right (by decide) (by omega)))
      · unfold fracX
        by_cases hT0 : T = 0
        · rw [if_pos hT0]; simp
        · rw [if_neg hT0]
          have := hexTail_len up 16 T
          simp only [List.length_cons]
          omega

end Go.Proofs.YthfjpofbaeeafaaDoor
