/-
  What is common to the laws on floats with a precision: sizes, the text's shape, what is read back, and that it is near.
-/
import Derived.Test.YthfjpofbaeeafaaDoorRL
import Derived.Test.YthfjpofbaeeafaaDoorEG
namespace Go.Proofs.YthfjpofbaeeafaaDoor
open Go.RowKit

theorem low_lt (wide : Bool) (bits : Nat) : fLow wide bits < 2 ^ 53 := by
  unfold fLow fFrac
  cases wide
  · simp only [Bool.false_eq_true, if_false]
    split <;> omega
  · simp only [if_true]
    split <;> omega
theorem pow_lt (wide : Bool) (bits : Nat) : -1074 ≤ fPow wide bits ∧ fPow wide bits ≤ 972 := by
  unfold fPow fExp
  cases wide
  · simp only [Bool.false_eq_true, if_false]
    split <;> omega
  · simp only [if_true]
    split <;> omega
theorem size_list (l : List UInt8) : (⟨l.toArray⟩ : ByteArray).size = l.length := by
  show l.toArray.size = _
  simp
theorem sgn_len (neg : Bool) : (sgn neg).length ≤ 1 := by cases neg <;> decide
theorem numText_sgn (neg : Bool) (a r : List UInt8) (ha : isD a) (h0 : 0 < a.length) : NumText (sgn neg ++ (a ++ r)) := by
  cases a with
  | nil => simp at h0
  | cons d ds =>
    have h := ha d (by simp)
    cases neg
    · exact .inl ⟨d, ds ++ r, rfl, h.1, by omega⟩
    · exact .inr ⟨d, ds ++ r, rfl, h.1, by omega⟩

/-- The rounded number. -/
def rnd (M : Nat) (E q : Int) : Nat := rh (VN M E q) VC
theorem rnd_zero (E q : Int) : rnd 0 E q = 0 := by
  unfold rnd VN
  rw [Nat.zero_mul, Nat.zero_mul]
  have := rh_le (a := 0) (N := 0) VC_pos (Nat.zero_le _)
  omega
theorem pt_zero (q : Int) : pt 0 q = 0 := if_pos rfl
theorem rTxt_eq (txt : Bool → List UInt8 → Int → List UInt8) (neg : Bool) (M : Nat) (E q : Int) : rTxt txt neg M E q = txt neg (cutD (rnd M E q)) (pt (rnd M E q) q) := by
  unfold rTxt
  by_cases h : M = 0
  · rw [if_pos h, h, rnd_zero, cutD_zero, pt_zero]
  · rw [if_neg h]; rfl
theorem rnd_near (M : Nat) (E q : Int) : 2 * VN M E q ≤ 2 * (rnd M E q * VC) + VC ∧ 2 * (rnd M E q * VC) ≤ 2 * VN M E q + VC := rh_near _ _ VC_pos
theorem rnd_up (M : Nat) (E K q : Int) (n : Nat) (hK : Dec M E K) (h0 : -900 ≤ K) (h1 : K ≤ 900) (hn : 1 ≤ n) (hq0 : -1000 ≤ q) (hq : q ≤ n - K) : rnd M E q ≤ 10 ^ n := by
  refine rh_le VC_pos ?_
  rw [Nat.mul_comm]
  exact Nat.le_trans (VN_up M E hq0 hq) (Nat.le_of_lt (dec_digits hK h0 h1 n hn).2)
theorem nDigits_le (n : Nat) : ∀ u, u < 10 ^ n → 1 ≤ n → Lib.nDigits u ≤ n := by
  induction n with
  | zero => intro u _ h; omega
  | succ n ih =>
    intro u hu _
    by_cases h : u < 10
    · rw [Lib.nDigits_small h]; omega
    · rw [Lib.nDigits_big h]
      have h1 : u / 10 < 10 ^ n := by rw [Nat.pow_succ] at hu; omega
      have hn : 1 ≤ n := by
        rcases Nat.eq_zero_or_pos n with h2 | h2
        · subst h2; simp at hu; omega
        · exact h2
      have := ih (u / 10) h1 hn
      omega
theorem nDigits_le' (n u : Nat) (h : u ≤ 10 ^ n) : Lib.nDigits u ≤ n + 1 :=
  nDigits_le (n + 1) u (Nat.lt_of_le_of_lt h (Nat.pow_lt_pow_right (by decide) (by omega))) (by omega)

/-- The parts of the text of the verb f. -/
def fA (R : Nat) (dp : Int) : List UInt8 := if 0 < dp then fill dp.toNat (cutD R) else [48]
def fB (R prec : Nat) (dp : Int) : List UInt8 := if prec = 0 then [] else fill prec (List.replicate (-dp).toNat 48 ++ (cutD R).drop dp.toNat)
theorem fText_eq (neg : Bool) (R prec : Nat) (dp : Int) : fText neg (cutD R) dp prec = sgn neg ++ (mantOf (fA R dp) (decide (prec ≠ 0)) (fB R prec dp) ++ []) := by
  unfold fText mantOf fA fB fracE
  by_cases h : prec = 0
  · simp [h]
  · simp [h]
theorem fA_isD (R : Nat) (dp : Int) : isD (fA R dp) := by
  unfold fA
  split
  · exact fill_isD (cutD_isD R) _
  · exact fun c hc => by rw [List.mem_singleton.1 hc]; decide
theorem fB_isD (R prec : Nat) (dp : Int) : isD (fB R prec dp) := by
  unfold fB
  split
  · exact isD_nil
  · exact fill_isD ((isD_zeros _).append ((cutD_isD R).drop _)) _
theorem fA_len (R : Nat) (dp : Int) : (fA R dp).length = if 0 < dp then dp.toNat else 1 := by
  unfold fA
  split
  · exact fill_length _ _
  · rfl
theorem fB_len (R prec : Nat) (dp : Int) : (fB R prec dp).length = prec := by
  unfold fB
  split
  · rename_i h; rw [h]; rfl
  · exact fill_length _ _
theorem fAB_val (R prec : Nat) : decVal (fA R (pt R prec) ++ fB R prec (pt R prec)) = R := by
  by_cases hR : R = 0
  · subst hR
    rw [pt_zero]
    unfold fA fB
    rw [if_neg (by decide), cutD_zero]
    split
    · rfl
    · show decVal ([48] ++ fill prec (List.replicate 0 48 ++ [])) = 0
      unfold fill
      rw [List.replicate_zero, List.nil_append, List.take_nil, List.nil_append]
      have := dv_zeros0 (prec + 1)
      rw [List.replicate_succ] at this
      rw [List.length_nil, Nat.sub_zero]
      exact this
  · have h := f_digits R prec (cutD R) rfl (pt R prec) (by unfold pt; rw [if_neg hR])
    unfold fA fB
    by_cases hp : prec = 0
    · rw [if_pos hp]
      subst hp
      have e : fill 0 (List.replicate (-(pt R ((0 : Nat) : Int))).toNat 48 ++ (cutD R).drop (pt R ((0 : Nat) : Int)).toNat) = [] := by
        unfold fill; simp
      rw [e] at h
      exact h
    · rw [if_neg hp]
      exact h

/-- What Decimal says of the text of the verb f, and that it is near. -/
theorem f_all (neg : Bool) (M : Nat) (E : Int) (prec : Nat) (hM : M < 2 ^ 53) (hE0 : -1074 ≤ E) (hE1 : E ≤ 972) (hp : prec ≤ 100) :
    ∃ (a fr : List UInt8), rTxt (fun neg ds dp => fText neg ds dp prec) neg M E prec = sgn neg ++ (mantOf a (decide (prec ≠ 0)) fr ++ []) ∧ isD a ∧ isD fr ∧ 0 < a.length ∧ a.length ≤ 400 ∧ fr.length = prec ∧
      nearB (decVal (a ++ fr) * 10 ^ (-(prec : Int)).toNat * 2 ^ (-E).toNat) (M * 2 ^ E.toNat * 10 ^ (-(-(prec : Int))).toNat) (10 ^ (-(prec : Int)).toNat * 2 ^ (-E).toNat) = true := by
  obtain ⟨R, hR⟩ : ∃ R, R = rnd M E prec := ⟨_, rfl⟩
  have hpt : pt R prec ≤ 322 := by
    by_cases h0 : M = 0
    · rw [hR, h0, rnd_zero, pt_zero]; decide
    · obtain ⟨K, hK, hK0, hK1⟩ := exists_dec M E (by omega) hM hE0 hE1
      have h1 := rnd_up M E K prec (prec + 320) hK (by omega) (by omega) (by omega) (by omega) (by omega)
      rw [← hR] at h1
      have h2 := nDigits_le' _ _ h1
      unfold pt
      split <;> omega
  refine ⟨fA R (pt R prec), fB R prec (pt R prec), ?_, fA_isD _ _, fB_isD _ _ _, ?_, ?_, fB_len _ _ _, ?_⟩
  · rw [rTxt_eq, ← hR]
    exact fText_eq neg R prec _
  · rw [fA_len]; split <;> omega
  · rw [fA_len]; split <;> omega
  · rw [fAB_val]
    obtain ⟨n1, n2⟩ := rnd_near M E prec
    rw [← hR] at n1 n2
    exact near_law R M E prec (-(prec : Int)) rfl (by omega) (by omega) n1 n2

/-- A size for the decimal's head. -/
theorem dec_any (wide : Bool) (bits : Nat) : ∃ K, (fLow wide bits ≠ 0 → Dec (fLow wide bits) (fPow wide bits) K) ∧ -400 ≤ K ∧ K ≤ 400 := by
  by_cases h : fLow wide bits = 0
  · exact ⟨0, fun h2 => (h2 h).elim, by omega, by omega⟩
  · obtain ⟨K, hK, h0, h1⟩ := exists_dec (fLow wide bits) (fPow wide bits) (by omega) (low_lt wide bits) (pow_lt wide bits).1 (pow_lt wide bits).2
    exact ⟨K, fun _ => hK, by omega, by omega⟩

/-- The verb. -/
def exV (upper : Bool) : UInt8 := if upper then 69 else 101
/-- The exponent: its digits. -/
def expD (e : Int) : List UInt8 := if e.natAbs < 10 then [48, dch e.natAbs] else if e.natAbs < 100 then [dch (e.natAbs / 10), dch (e.natAbs % 10)] else [dch (e.natAbs / 100), dch (e.natAbs / 10 % 10), dch (e.natAbs % 10)]
theorem dch_toNat (u : Nat) (h : u < 10) : (dch u).toNat = 48 + u := dgt_toNat u h
theorem dv1 (a : UInt8) : decVal [a] = a.toNat - 48 := by
  have := decVal_snoc [] a
  rw [List.nil_append] at this
  rw [this]; simp [decVal]
theorem dv2 (a b : UInt8) : decVal [a, b] = (a.toNat - 48) * 10 + (b.toNat - 48) := by
  have := decVal_snoc [a] b
  rw [dv1] at this
  exact this
theorem dv3 (a b c : UInt8) : decVal [a, b, c] = ((a.toNat - 48) * 10 + (b.toNat - 48)) * 10 + (c.toNat - 48) := by
  have := decVal_snoc [a, b] c
  rw [dv2] at this
  exact this
theorem expD_all (e : Int) (h : e.natAbs < 1000) : isD (expD e) ∧ 2 ≤ (expD e).length ∧ (expD e).length ≤ 3 ∧ decVal (expD e) = e.natAbs := by
  obtain ⟨n, hn⟩ : ∃ n, n = e.natAbs := ⟨_, rfl⟩
  unfold expD
  rw [← hn] at h ⊢
  have hz : (48 : UInt8).toNat = 48 := rfl
  by_cases h1 : n < 10
  · rw [if_pos h1]
    have q1 := dch_toNat n h1
    refine ⟨fun c hc => ?_, by simp, by simp, ?_⟩
    · simp only [List.mem_cons, List.not_mem_nil, or_false] at hc
      rcases hc with rfl | rfl <;> omega
    · rw [dv2, q1, hz]; omega
  · rw [if_neg h1]
    by_cases h2 : n < 100
    · rw [if_pos h2]
      have q1 := dch_toNat (n / 10) (by omega)
      have q2 := dch_toNat (n % 10) (by omega)
      refine ⟨fun c hc => ?_, by simp, by simp, ?_⟩
      · simp only [List.mem_cons, List.not_mem_nil, or_false] at hc
        rcases hc with rfl | rfl <;> omega
      · rw [dv2, q1, q2]; omega
    · rw [if_neg h2]
      have q1 := dch_toNat (n / 100) (by omega)
      have q2 := dch_toNat (n / 10 % 10) (by omega)
      have q3 := dch_toNat (n % 10) (by omega)
      refine ⟨fun c hc => ?_, by simp, by simp, ?_⟩
      · simp only [List.mem_cons, List.not_mem_nil, or_false] at hc
        rcases hc with rfl | rfl | rfl <;> omega
      · rw [dv3, q1, q2, q3]; omega

/-- A number's first digit. -/
theorem dec_head (u : Nat) (h : 0 < u) : ∃ c l, Lib.decDigits u = c :: l ∧ c ≠ 48 := by
  induction u using Nat.strongRecOn with
  | _ u ih =>
    by_cases h9 : u < 10
    · rw [Lib.decDigits_one h9]
      refine ⟨_, _, rfl, fun e => ?_⟩
      have := dgt_toNat u h9
      rw [e] at this
      have hz : (48 : UInt8).toNat = 48 := rfl
      omega
    · obtain ⟨c, l, hl, hc⟩ := ih (u / 10) (by omega) (by omega)
      rw [Lib.decDigits, dif_neg h9, hl]
      exact ⟨c, _, rfl, hc⟩
theorem cutD_head (u : Nat) (h : 0 < u) : ∃ c l, cutD u = c :: l ∧ c ≠ 48 := by
  obtain ⟨k, hk⟩ := cutD_tail u
  obtain ⟨c, l, hl, hc⟩ := dec_head u h
  have hp := cutD_pos u h
  cases hq : cutD u with
  | nil => rw [hq] at hp; simp at hp
  | cons a m =>
    rw [hq, hl] at hk
    injection hk with h1 h2
    exact ⟨a, m, rfl, by rw [← h1]; exact hc⟩

/-- The text of the verb e: sign, a digit, digits behind the point, the exponent. -/
theorem eText_eq (neg : Bool) (V : UInt8) (ds : List UInt8) (dp : Int) (prec : Nat) :
    eText neg V ds dp prec = sgn neg ++ (mantOf [ds.headD 48] (decide (prec ≠ 0)) (if prec = 0 then [] else fill prec (ds.drop 1)) ++ (V :: (if (if ds.length = 0 then (0 : Int) else dp - 1) < 0 then 45 else 43) :: expD (if ds.length = 0 then 0 else dp - 1))) := by
  unfold eText mantOf fracE expE expD
  by_cases h : prec = 0
  · simp [h]
  · simp [h]

theorem nDigits_ge (n : Nat) : ∀ u, 10 ^ n ≤ u → n + 1 ≤ Lib.nDigits u := by
  induction n with
  | zero => intro u hu; have := Lib.nDigits_pos u; omega
  | succ n ih =>
    intro u hu
    have h1 : 0 < 10 ^ n := Nat.pow_pos (by decide)
    rw [Nat.pow_succ] at hu
    rw [Lib.nDigits_big (by omega)]
    have := ih (u / 10) (by omega)
    omega

theorem cutD_pow (n : Nat) : cutD (10 ^ n) = [49] := by
  induction n with
  | zero => decide +kernel
  | succ n ih => rw [Nat.pow_succ, cutD_ten _ (Nat.pow_pos (by decide)), ih]
theorem cutD_le (u : Nat) : (cutD u).length ≤ Lib.nDigits u := by
  obtain ⟨k, hk⟩ := cutD_tail u
  have := congrArg List.length hk
  rw [Lib.decDigits_length, List.length_append] at this
  omega


set_option maxRecDepth 100000 in
set_option maxHeartbeats 1000000 in
theorem below_any (p m : Int) (hm0 : 0 < m) (hm1 : m ≤ 1000) (w : World) :
    Calls Tryd.prog 12 #[.int .i64 p, .int .i64 m] w fun e w' => (∃ v : Nat, e = .returned (.int .i64 v) ∧ (v : Int) < m) ∧ w = w' := by
  have h1 : p.tmod m < m := Int.tmod_lt_of_pos p hm0
  have h2 : -m < p.tmod m := by
    have := Int.lt_tmod_of_pos p hm0
    exact this
  have hmz : ¬ m = 0 := by omega
  obtain ⟨t, ht⟩ : ∃ t, p.tmod m = t := ⟨_, rfl⟩
  rw [ht] at h1 h2
  by_cases h0 : t < 0
  · go_enter Tryd.func12, Tryd.ntmps12
    go_wp2_with fail
    refine bodyPost_ret (v := .int .i64 (t + m)) (by simp [results, Tryd.results12, go_sem]) rfl ⟨⟨(t + m).toNat, ?_, ?_⟩, rfl⟩
    · rw [Int.toNat_of_nonneg (by omega)]
    · omega
  · go_enter Tryd.func12, Tryd.ntmps12
    go_wp2_with fail
    refine bodyPost_ret (v := .int .i64 t) (by simp [results, Tryd.results12, go_sem]) rfl ⟨⟨t.toNat, ?_, ?_⟩, rfl⟩
    · rw [Int.toNat_of_nonneg (by omega)]
    · omega


end Go.Proofs.YthfjpofbaeeafaaDoor
