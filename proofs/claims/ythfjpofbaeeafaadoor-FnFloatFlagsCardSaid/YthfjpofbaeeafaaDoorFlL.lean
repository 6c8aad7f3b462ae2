/-
  The texts of all five verbs, as fmtFloat is asked for them.
-/
import Derived.Test.YthfjpofbaeeafaaDoorFI
import Derived.Test.YthfjpofbaeeafaaDoorFxL
import Derived.Test.YthfjpofbaeeafaaDoorExL
import Derived.Test.YthfjpofbaeeafaaDoorGxL
namespace Go.Proofs.YthfjpofbaeeafaaDoor
open Go.RowKit

theorem flTxt_of (a fr ex : List UInt8) (p : Bool) (ha : isD a) (hf : isD fr) (h0 : 0 < a.length) (hl : a.length ≤ 1000) (hfl : fr.length ≤ 1000)
    (hex : ex = [] ∨ ∃ (V g : UInt8) (l : List UInt8), ex = V :: g :: l ∧ (V = 101 ∨ V = 69) ∧ (g = 45 ∨ g = 43) ∧ isD l ∧ l.length ≤ 10) : FlTxt (mantOf a p fr) ex := by
  have hd : ∀ l, isD l → ∀ c ∈ l, c = 46 ∨ 48 ≤ c.toNat ∧ c.toNat < 58 := fun l h c hc => by
    have := h c hc
    exact Or.inr ⟨this.1, by omega⟩
  have hexl : ex.length ≤ 12 := by
    rcases hex with h | ⟨V, g, l, h, _, _, _, h4⟩
    · rw [h]; decide
    · rw [h, List.length_cons, List.length_cons]; omega
  refine ⟨?_, fun c hc => ?_, ?_, fun c hc => ?_, ?_⟩
  · cases a with
    | nil => simp at h0
    | cons d l =>
      have h1 := ha d (by simp)
      cases p
      · exact ⟨d, l, rfl, h1.1, by omega⟩
      · exact ⟨d, l ++ 46 :: fr, rfl, h1.1, by omega⟩
  · unfold mantOf at hc
    split at hc
    · rcases List.mem_append.1 hc with hc | hc
      · exact hd a ha c hc
      · rcases List.mem_cons.1 hc with hc | hc
        · exact Or.inl hc
        · exact hd fr hf c hc
    · exact hd a ha c hc
  · rcases hex with h | ⟨V, g, l, h, h1, _⟩
    · exact Or.inl h
    · exact Or.inr ⟨V, g :: l, h, h1⟩
  · rcases hex with h | ⟨V, g, l, h, h1, h2, h3, _⟩
    · rw [h] at hc; simp at hc
    · rw [h, List.mem_cons, List.mem_cons] at hc
      rcases hc with rfl | rfl | hc
      · rcases h1 with rfl | rfl <;> decide
      · rcases h2 with rfl | rfl <;> decide
      · have := h3 c hc; omega
  · unfold mantOf
    split
    · rw [List.length_append, List.length_cons]; omega
    · omega

theorem ex_of (V : UInt8) (X : Int) (hV : V = 101 ∨ V = 69) (hX : X.natAbs < 1000) : ∃ (V' g : UInt8) (l : List UInt8), V :: (if X < 0 then 45 else 43) :: expD X = V' :: g :: l ∧ (V' = 101 ∨ V' = 69) ∧ (g = 45 ∨ g = 43) ∧ isD l ∧ l.length ≤ 10 := by
  obtain ⟨x1, x2, x3, x4⟩ := expD_all X hX
  exact ⟨V, _, _, rfl, hV, by split <;> simp, x1, by omega⟩

theorem efg0_g : EFG0 103 false 0 (fun neg ds dp => fText neg ds dp 0) := by
  intro neg sV bs nd dp gs os cs v olds g o c w hn hd h1 h2 h3 h4 h5 h6 h7 h8 h9 h10
  subst hn
  subst hd
  exact fmtG_f neg false sV bs 0 0 0 gs os cs h1 h2 h3 (by omega) (by omega) v olds g o c w h5 h6 h7 h8 h9 h10 (by decide)
theorem efg0_G : EFG0 71 false 0 (fun neg ds dp => fText neg ds dp 0) := by
  intro neg sV bs nd dp gs os cs v olds g o c w hn hd h1 h2 h3 h4 h5 h6 h7 h8 h9 h10
  subst hn
  subst hd
  exact fmtG_F neg false sV bs 0 0 0 gs os cs h1 h2 h3 (by omega) (by omega) v olds g o c w h5 h6 h7 h8 h9 h10 (by decide)

theorem exV_is (upper : Bool) : exV upper = 101 ∨ exV upper = 69 := by cases upper <;> decide

/-- The text for g with a precision of 1 or more. -/
theorem fl_g (upper wide : Bool) (bits P : Nat) (hp1 : 1 ≤ P) (hp : P ≤ 40) (K : Int) (hK : fLow wide bits ≠ 0 → Dec (fLow wide bits) (fPow wide bits) K) (h0 : -400 ≤ K) (h1 : K ≤ 400) :
    ∃ mant ex, FlTxt mant ex ∧ gTextOf upper wide bits P K = sgn (fNeg wide bits) ++ (mant ++ ex) := by
  obtain ⟨a, fr, ex, p, X, z, n, he, ha, hf, ha0, ha1, hfr, _, hex, hX, _⟩ := g_all (fNeg wide bits) (exV upper) (fLow wide bits) (fPow wide bits) K P (pow_lt wide bits).1 hK h0 h1 hp1 (by omega)
  refine ⟨mantOf a p fr, ex, flTxt_of a fr ex p ha hf ha0 (by omega) (by omega) ?_, he⟩
  rcases hex with ⟨h, _⟩ | h
  · exact Or.inl h
  · rw [h]; exact Or.inr (ex_of _ X (exV_is upper) (by omega))

theorem fl_zero (neg : Bool) : ∃ mant ex, FlTxt mant ex ∧ fText neg [] 0 0 = sgn neg ++ (mant ++ ex) :=
  ⟨mantOf [48] false [], [], flTxt_of [48] [] [] false (fun c hc => by rw [List.mem_singleton.1 hc]; decide) isD_nil (by decide) (by decide) (by decide) (Or.inl rfl), by unfold fText fracE mantOf; simp⟩

/-- strconv's answer for all five verbs. -/
theorem fl_text (wide : Bool) (bits : Nat) (hU : U64 bits) (hf : fExp wide bits ≠ fTop wide) (V : Int) (hV : V = 101 ∨ V = 69 ∨ V = 102 ∨ V = 103 ∨ V = 71) (P : Nat) (hP : P ≤ 40) :
    ∃ mant ex, FlTxt mant ex ∧ AFspec (fDbl wide bits) (if wide then 64 else 32) V P (sgn (fNeg wide bits) ++ (mant ++ ex)) := by
  obtain ⟨K, hK, h0, h1⟩ := dec_any wide bits
  have he : ∀ upper : Bool, ∃ mant ex, FlTxt mant ex ∧ AFspec (fDbl wide bits) (if wide then 64 else 32) (if upper then 69 else 101) P (sgn (fNeg wide bits) ++ (mant ++ ex)) := fun upper => by
    obtain ⟨a, fr, X, ht, ha, hf2, hfr, _, hX, _⟩ := e_all (fNeg wide bits) (exV upper) (fLow wide bits) (fPow wide bits) K P (pow_lt wide bits).1 hK h0 h1 (by omega)
    refine ⟨_, _, flTxt_of [a] fr _ (decide (P ≠ 0)) ha hf2 (by simp) (by simp) (by omega) (Or.inr (ex_of _ X (exV_is upper) (by omega))), ?_⟩
    rw [← ht]
    exact exp_af upper wide bits P hP hU hf K hK h0 h1
  have hg : ∀ upper : Bool, ∃ mant ex, FlTxt mant ex ∧ AFspec (fDbl wide bits) (if wide then 64 else 32) (if upper then 71 else 103) P (sgn (fNeg wide bits) ++ (mant ++ ex)) := fun upper => by
    rcases Nat.eq_zero_or_pos P with hz | hp1
    · subst hz
      obtain ⟨m1, x1, f1, e1⟩ := fl_g upper wide bits 1 (by decide) (by decide) K hK h0 h1
      obtain ⟨m0, x0, f0, e0⟩ := fl_zero (fNeg wide bits)
      have hsel : ∃ mant ex, FlTxt mant ex ∧ (if fLow wide bits = 0 then fText (fNeg wide bits) [] 0 0 else gTextOf upper wide bits 1 K) = sgn (fNeg wide bits) ++ (mant ++ ex) := by
        by_cases hM : fLow wide bits = 0
        · exact ⟨m0, x0, f0, by rw [if_pos hM, e0]⟩
        · exact ⟨m1, x1, f1, by rw [if_neg hM, e1]⟩
      obtain ⟨mant, ex, hF, hE⟩ := hsel
      refine ⟨mant, ex, hF, ?_⟩
      rw [← hE]
      cases wide
      · simp only [fDbl, Bool.false_eq_true, if_false]
        cases upper
        · exact af32 (fun w => run_down32 (bits % 2 ^ 32) (by omega) hf w) (ftoa32_103z _ _ (efg_g 1 (by decide) (by decide)) efg0_g K bits hf hK h0 h1)
        · exact af32 (fun w => run_down32 (bits % 2 ^ 32) (by omega) hf w) (ftoa32_71z _ _ (efg_G 1 (by decide) (by decide)) efg0_G K bits hf hK h0 h1)
      · simp only [fDbl, if_true]
        cases upper
        · exact af64 (ftoa64_103z _ _ (efg_g 1 (by decide) (by decide)) efg0_g K bits hU hf hK h0 h1)
        · exact af64 (ftoa64_71z _ _ (efg_G 1 (by decide) (by decide)) efg0_G K bits hU hf hK h0 h1)
    · obtain ⟨mant, ex, hF, hE⟩ := fl_g upper wide bits P hp1 hP K hK h0 h1
      refine ⟨mant, ex, hF, ?_⟩
      rw [← hE]
      exact g_af upper wide bits P hp1 hP hU hf K hK h0 h1
  rcases hV with rfl | rfl | rfl | rfl | rfl
  · exact he false
  · exact he true
  · have hp0 := pow_lt wide bits
    obtain ⟨a, fr, ht, ha, hf2, ha0, ha1, hfr, _⟩ := f_all (fNeg wide bits) (fLow wide bits) (fPow wide bits) P (low_lt wide bits) hp0.1 hp0.2 (by omega)
    refine ⟨_, _, flTxt_of a fr [] (decide (P ≠ 0)) ha hf2 ha0 (by omega) (by omega) (Or.inl rfl), ?_⟩
    rw [← ht]
    exact fix_af wide bits P hP hU hf
  · exact hg false
  · exact hg true

end Go.Proofs.YthfjpofbaeeafaaDoor
