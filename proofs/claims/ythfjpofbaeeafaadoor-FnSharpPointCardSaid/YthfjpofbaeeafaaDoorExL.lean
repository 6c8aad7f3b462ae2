/-
  The law FnExponent: what the program answers for the verbs e and E.
-/
import Derived.Test.YthfjpofbaeeafaaDoorLX
import Derived.Test.YthfjpofbaeeafaaDoorFE
import Derived.Test.YthfjpofbaeeafaaDoorFEU
import Derived.Test.YthfjpofbaeeafaaDoorFTe64
import Derived.Test.YthfjpofbaeeafaaDoorFTe32
import Derived.Test.YthfjpofbaeeafaaDoorFTeU64
import Derived.Test.YthfjpofbaeeafaaDoorFTeU32
namespace Go.Proofs.YthfjpofbaeeafaaDoor
open Go.RowKit

theorem efg_e (sh : Bool) (prec : Nat) (hp : prec ≤ 100) : EFG 101 sh prec (fun neg ds dp => eText neg 101 ds dp prec) := by
  intro neg sV bs nd dp gs os cs v olds g o c w h1 h2 h3 h4 h5 h6 h7 h8 h9 h10
  exact fmtE_e neg sh sV bs nd prec dp gs os cs h1 h2 h3 (by omega) (by omega) v olds g o c w h5 h6 h7 h8 h9
theorem efg_E (sh : Bool) (prec : Nat) (hp : prec ≤ 100) : EFG 69 sh prec (fun neg ds dp => eText neg 69 ds dp prec) := by
  intro neg sV bs nd dp gs os cs v olds g o c w h1 h2 h3 h4 h5 h6 h7 h8 h9 h10
  exact fmtE_E neg sh sV bs nd prec dp gs os cs h1 h2 h3 (by omega) (by omega) v olds g o c w h5 h6 h7 h8 h9

/-- The text. -/
def expText (upper wide : Bool) (bits prec : Nat) (K : Int) : List UInt8 := rTxt (fun neg ds dp => eText neg (exV upper) ds dp prec) (fNeg wide bits) (fLow wide bits) (fPow wide bits) ((prec : Int) + 1 - K)

theorem exp_af (upper wide : Bool) (bits prec : Nat) (hp : prec ≤ 40) (hU : U64 bits) (hf : fExp wide bits ≠ fTop wide) (K : Int) (hK : fLow wide bits ≠ 0 → Dec (fLow wide bits) (fPow wide bits) K) (h0 : -400 ≤ K) (h1 : K ≤ 400) :
    AFspec (fDbl wide bits) (if wide then 64 else 32) (if upper then 69 else 101) prec (expText upper wide bits prec K) := by
  cases wide
  · simp only [fDbl, Bool.false_eq_true, if_false]
    cases upper
    · exact af32 (fun w => run_down32 (bits % 2 ^ 32) (by omega) hf w) (ftoa32_101 prec hp _ (efg_e false prec (by omega)) K bits hf hK h0 h1)
    · exact af32 (fun w => run_down32 (bits % 2 ^ 32) (by omega) hf w) (ftoa32_69 prec hp _ (efg_E false prec (by omega)) K bits hf hK h0 h1)
  · simp only [fDbl, if_true]
    cases upper
    · exact af64 (ftoa64_101 prec hp _ (efg_e false prec (by omega)) K bits hU hf hK h0 h1)
    · exact af64 (ftoa64_69 prec hp _ (efg_E false prec (by omega)) K bits hU hf hK h0 h1)

/-- What Decimal says of the text of the verb e, and that it is near. -/
theorem e_all (neg : Bool) (V : UInt8) (M : Nat) (E K : Int) (prec : Nat) (hE0 : -1074 ≤ E) (hK : M ≠ 0 → Dec M E K) (h0 : -400 ≤ K) (h1 : K ≤ 400) (hp : prec ≤ 100) :
    ∃ (a : UInt8) (fr : List UInt8) (X : Int), rTxt (fun neg ds dp => eText neg V ds dp prec) neg M E ((prec : Int) + 1 - K) = sgn neg ++ (mantOf [a] (decide (prec ≠ 0)) fr ++ (V :: (if X < 0 then 45 else 43) :: expD X)) ∧ isD [a] ∧ isD fr ∧ fr.length = prec ∧ (a = 48 ↔ M = 0) ∧ X.natAbs < 700 ∧
      nearB (decVal (a :: fr) * 10 ^ (-(prec : Int) + X).toNat * 2 ^ (-E).toNat) (M * 2 ^ E.toNat * 10 ^ (-(-(prec : Int) + X)).toNat) (10 ^ (-(prec : Int) + X).toNat * 2 ^ (-E).toNat) = true := by
  have hfr : ∀ l : List UInt8, (if prec = 0 then [] else fill prec l).length = prec := fun l => by
    split
    · rename_i h; rw [h]; rfl
    · exact fill_length _ _
  have hfe : ∀ l : List UInt8, l.length ≤ prec → (if prec = 0 then [] else fill prec l) = fill prec l := fun l hl => by
    split
    · rename_i h
      subst h
      rw [List.length_eq_zero_iff.1 (Nat.le_zero.1 hl)]
      rfl
    · rfl
  by_cases hM : M = 0
  · subst hM
    refine ⟨48, if prec = 0 then [] else fill prec [], 0, ?_, fun c hc => by rw [List.mem_singleton.1 hc]; decide, ?_, hfr _, by simp, by decide, ?_⟩
    · unfold rTxt
      rw [if_pos rfl]
      exact eText_eq neg V [] 0 prec
    · split
      · exact isD_nil
      · exact fill_isD isD_nil _
    · rw [hfe [] (Nat.zero_le _)]
      have e : decVal (48 :: fill prec []) = 0 := by
        have := dv_zeros0 (prec + 1)
        rw [List.replicate_succ] at this
        unfold fill
        rw [List.take_nil, List.nil_append, List.length_nil, Nat.sub_zero]
        exact this
      rw [e]
      have n1 := near_law 0 0 E ((prec : Int)) (-(prec : Int) + 0) (by omega) (by omega) (by omega) (by unfold VN; simp) (by unfold VN; simp)
      exact n1
  · have hD := hK hM
    obtain ⟨q, hq⟩ : ∃ q : Int, q = (prec : Int) + 1 - K := ⟨_, rfl⟩
    obtain ⟨R, hR⟩ : ∃ R, R = rnd M E q := ⟨_, rfl⟩
    obtain ⟨d1, d2⟩ := dec_digits hD (by omega) (by omega) (prec + 1) (by omega)
    rw [show ((prec + 1 : Nat) : Int) - K = q by omega, Nat.add_sub_cancel] at d1
    rw [show ((prec + 1 : Nat) : Int) - K = q by omega] at d2
    have r1 : 10 ^ prec ≤ R := by rw [hR]; exact rh_ge VC_pos (by rw [Nat.mul_comm]; exact d1)
    have r2 : R ≤ 10 ^ (prec + 1) := by rw [hR]; exact rh_le VC_pos (by rw [Nat.mul_comm]; exact Nat.le_of_lt d2)
    have hpw : 0 < 10 ^ prec := Nat.pow_pos (by decide)
    have R0 : 0 < R := by omega
    obtain ⟨c, l, hcl, hc⟩ := cutD_head R R0
    obtain ⟨t, ht, ht1, hlen⟩ : ∃ t, Lib.nDigits R = prec + 1 + t ∧ t ≤ 1 ∧ (cutD R).length ≤ prec + 1 := by
      have g1 := nDigits_ge prec R r1
      rcases Nat.lt_or_eq_of_le r2 with h | h
      · have g2 := nDigits_le (prec + 1) R h (by omega)
        exact ⟨0, by omega, by omega, Nat.le_trans (cutD_le R) g2⟩
      · have g2 := nDigits_le' (prec + 1) R r2
        have g3 := nDigits_ge (prec + 1) R (by omega)
        exact ⟨1, by omega, by omega, by rw [h, cutD_pow]; simp⟩
    have hv := e_digits R prec t (cutD R) rfl ht (by rw [hcl]; simp) hlen
    rw [hcl, List.headD_cons, List.drop_succ_cons, List.drop_zero] at hv
    have hll : l.length ≤ prec := by rw [hcl, List.length_cons] at hlen; omega
    have hisd := cutD_isD R
    rw [hcl] at hisd
    have hpt : pt R q = prec + 1 + t - q := by unfold pt; rw [if_neg (by omega), ht]; omega
    refine ⟨c, if prec = 0 then [] else fill prec l, pt R q - 1, ?_, fun x hx => hisd x (by rw [List.mem_singleton.1 hx]; simp), ?_, hfr _, ⟨fun h => absurd h hc, fun h => absurd h hM⟩, by rw [hpt]; omega, ?_⟩
    · rw [← hq, rTxt_eq, ← hR, hcl]
      have := eText_eq neg V (c :: l) (pt R q) prec
      rw [if_neg (by simp : ¬ (c :: l).length = 0)] at this
      exact this
    · split
      · exact isD_nil
      · exact fill_isD (fun x hx => hisd x (by simp [hx])) _
    · rw [hfe l hll]
      obtain ⟨D, hDv⟩ : ∃ D, D = decVal (c :: fill prec l) := ⟨_, rfl⟩
      rw [← hDv] at hv ⊢
      have epw : -(prec : Int) + (pt R q - 1) = t - q := by rw [hpt]; omega
      rw [epw]
      obtain ⟨n1, n2⟩ := rnd_near M E q
      rw [← hR] at n1 n2
      rcases Nat.le_one_iff_eq_zero_or_eq_one.1 ht1 with h | h
      · subst h
        rw [Nat.pow_zero, Nat.mul_one] at hv
        rw [hv]
        exact near_law R M E q _ (by omega) (by omega) (by omega) n1 n2
      · subst h
        rw [Nat.pow_one] at hv
        have e10 := VN_ten M E (q - 1) 1 (by omega)
        rw [show q - 1 + ((1 : Nat) : Int) = q by omega, Nat.pow_one] at e10
        rw [e10, ← hv] at n1 n2
        have k : ∀ v C : Nat, 2 * (v * 10) ≤ 2 * (D * 10 * C) + C → 2 * (D * 10 * C) ≤ 2 * (v * 10) + C → 2 * v ≤ 2 * (D * C) + C ∧ 2 * (D * C) ≤ 2 * v + C := fun v C a b => by
          have e : D * 10 * C = D * C * 10 := Nat.mul_right_comm _ _ _
          rw [e] at a b
          generalize D * C = z at *
          omega
        obtain ⟨k1, k2⟩ := k _ _ n1 n2
        exact near_law D M E (q - 1) _ (by omega) (by omega) (by omega) k1 k2

/-- All that the law asks. -/
theorem exp_all (upper wide : Bool) (bits prec : Nat) (hp : prec ≤ 40) (K : Int) (hK : fLow wide bits ≠ 0 → Dec (fLow wide bits) (fPow wide bits) K) (h0 : -400 ≤ K) (h1 : K ≤ 400) :
    NumText (expText upper wide bits prec K) ∧ (expText upper wide bits prec K).length ≤ 1000 ∧ (∀ c ∈ expText upper wide bits prec K, c ≠ exV (!upper)) ∧ ∃ (a : UInt8) (fr : List UInt8) (pw : Int) (xe : Int), fr.length = prec ∧ (a = 48 ↔ fLow wide bits = 0) ∧ 2 ≤ xe ∧ xe ≤ 3 ∧
      (∀ w, Calls Tryd.prog 14 #[.string ⟨(expText upper wide bits prec K).toArray⟩] w (RdRes w (fNeg wide bits) (a :: fr) pw (if prec = 0 then -1 else (prec : Int)) xe)) ∧
      (∀ w (ba : ByteArray), ba.data.toList = a :: fr → Calls Tryd.prog 15 #[.agg #[.bool (fNeg wide bits), .string ba, .int .i64 pw, .int .i64 (if prec = 0 then -1 else (prec : Int)), .int .i64 xe], fAgg wide bits] w (NeaRes w true)) := by
  have hp0 := pow_lt wide bits
  have hl := low_lt wide bits
  obtain ⟨a, fr, X, he, ha, hf, hfr, hz, hX, hn⟩ := e_all (fNeg wide bits) (exV upper) (fLow wide bits) (fPow wide bits) K prec hp0.1 hK h0 h1 (by omega)
  obtain ⟨x1, x2, x3, x4⟩ := expD_all X (by omega)
  have hsl := sgn_len (fNeg wide bits)
  obtain ⟨ex, hex⟩ : ∃ ex, ex = exV upper :: (if X < 0 then 45 else 43) :: expD X := ⟨_, rfl⟩
  have hexl : ex.length ≤ 5 := by rw [hex, List.length_cons, List.length_cons]; omega
  have he2 : expText upper wide bits prec K = sgn (fNeg wide bits) ++ (mantOf [a] (decide (prec ≠ 0)) fr ++ ex) := by rw [hex]; exact he
  have hml : (mantOf [a] (decide (prec ≠ 0)) fr).length ≤ 500 := by
    unfold mantOf
    split
    · simp; omega
    · simp
  have hL : (expText upper wide bits prec K).length ≤ 1000 := by
    rw [he2, List.length_append, List.length_append]; omega
  have hF := mantOf_rdF [a] fr (decide (prec ≠ 0)) ha hf (fun h => by
    have h0 : prec = 0 := by simpa using h
    rw [h0] at hfr
    exact List.length_eq_zero_iff.1 hfr)
  have hH := mantOf_head [a] fr (decide (prec ≠ 0)) ha (by simp)
  have hpt : (rdF (mantOf [a] (decide (prec ≠ 0)) fr)).2 = if prec = 0 then -1 else (prec : Int) := by
    rw [hF]
    by_cases h0 : prec = 0
    · simp [h0]
    · simp [h0, hfr]
  have hdg : (rdF (mantOf [a] (decide (prec ≠ 0)) fr)).1 = a :: fr := by rw [hF]; rfl
  have hmx : max 0 (if prec = 0 then (-1 : Int) else (prec : Int)) = prec := by split <;> omega
  refine ⟨?_, hL, ?_, a, fr, -(prec : Int) + X, (expD X).length, hfr, hz, by omega, by omega, fun w => ?_, fun w ba hba => ?_⟩
  · rw [he2]
    unfold mantOf
    split
    · rw [List.append_assoc]; exact numText_sgn _ [a] _ ha (by simp)
    · exact numText_sgn _ [a] _ ha (by simp)
  · intro c hc
    have hD : ∀ x : UInt8, 48 ≤ x.toNat ∧ x.toNat ≤ 57 → x ≠ exV (!upper) := fun x hx e => by
      rw [e] at hx
      cases upper
      · exact absurd hx.2 (by decide)
      · exact absurd hx.2 (by decide)
    rw [he2, List.mem_append, List.mem_append] at hc
    rcases hc with hc | hc | hc
    · cases hng : fNeg wide bits
      · rw [hng] at hc; exact absurd hc (by simp [sgn])
      · rw [hng] at hc
        have : c = 45 := by simpa [sgn] using hc
        subst this
        cases upper <;> decide
    · unfold mantOf at hc
      split at hc
      · rcases List.mem_append.1 hc with hc | hc
        · exact hD c (ha c hc)
        · rcases List.mem_cons.1 hc with rfl | hc
          · cases upper <;> decide
          · exact hD c (hf c hc)
      · exact hD c (ha c hc)
    · rw [hex, List.mem_cons, List.mem_cons] at hc
      rcases hc with rfl | rfl | hc
      · cases upper <;> decide
      · split <;> (cases upper <;> decide)
      · exact hD c (x1 c hc)
  · have := rd_any w ⟨(expText upper wide bits prec K).toArray⟩ (sgn (fNeg wide bits)) (mantOf [a] (decide (prec ≠ 0)) fr) ex (by rw [← he2]) (by rw [size_list]; omega)
      (by cases fNeg wide bits; exact Or.inl rfl; exact Or.inr ⟨45, rfl, Or.inl rfl⟩) hH.1 hH.2 (mantOf_ok [a] fr _ ha hf) (fNeg wide bits) (by cases fNeg wide bits <;> rfl) (-(prec : Int) + X) ((expD X).length : Int)
      (Or.inr ⟨exV upper, _, _, hex, by cases upper <;> decide, by split <;> decide, by omega, by omega, x1, by
        rw [hpt, hmx, x4]
        by_cases hx : X < 0
        · rw [if_pos hx, if_pos rfl]; omega
        · rw [if_neg hx, if_neg (by decide)]; omega, rfl⟩) (by rw [hdg]; simp)
    rw [hpt, hdg] at this
    exact this
  · have := nearest_any w (fNeg wide bits) (fNeg wide bits) (fEdge wide bits) ba (a :: fr) hba (show isD (a :: fr) from ha.append hf) (by rw [List.length_cons]; omega) (-(prec : Int) + X) (if prec = 0 then -1 else (prec : Int)) ((expD X).length : Int) (fPow wide bits) (fLow wide bits) (by omega) (by omega) (by omega) (by omega) (by omega)
    rw [hn] at this
    have e : (fNeg wide bits == fNeg wide bits && true) = true := by simp
    rw [e] at this
    exact this

end Go.Proofs.YthfjpofbaeeafaaDoor
