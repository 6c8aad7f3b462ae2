/-
  The law FnSharpPoint: the texts of the verbs e, E, f, without the flag # and with it.
-/
import Derived.Test.YthfjpofbaeeafaaDoorFI
import Derived.Test.YthfjpofbaeeafaaDoorFxL
import Derived.Test.YthfjpofbaeeafaaDoorExL
namespace Go.Proofs.YthfjpofbaeeafaaDoor
open Go.RowKit

theorem shZ_zero (mant : List UInt8) : shZ 0 mant = 0 := by
  unfold shZ
  split <;> omega

theorem shp_point (a fr ex : List UInt8) : shp 0 (mantOf a true fr) ex = mantOf a true fr ++ ex := by
  unfold shp
  rw [shZ_zero, shF_has]
  have : (46 : UInt8) ∈ mantOf a true fr := by unfold mantOf; simp
  rw [decide_eq_true this, if_pos rfl, List.replicate_zero, List.nil_append]
theorem shp_none (a ex : List UInt8) (ha : isD a) : shp 0 (mantOf a false []) ex = a ++ ([46] ++ ex) := by
  unfold shp
  rw [shZ_zero, shF_has]
  have : ¬ (46 : UInt8) ∈ mantOf a false [] := fun h => by
    have := ha 46 h
    exact absurd this.1 (by decide)
  rw [decide_eq_false this, if_neg (by decide), List.replicate_zero, List.nil_append]
  show a ++ [46] ++ ex = _
  rw [List.append_assoc]

/-- The text of the verbs e, E, f. -/
theorem sp_text (wide : Bool) (bits : Nat) (hU : U64 bits) (hf : fExp wide bits ≠ fTop wide) (V : Int) (hV : V = 101 ∨ V = 69 ∨ V = 102) (P : Nat) (hP : P ≤ 40) :
    ∃ a fr ex, isD a ∧ isD fr ∧ 0 < a.length ∧ a.length ≤ 400 ∧ fr.length = P ∧ (ex = [] ∨ ∃ (V' g : UInt8) (l : List UInt8), ex = V' :: g :: l ∧ (V' = 101 ∨ V' = 69) ∧ (g = 45 ∨ g = 43) ∧ isD l ∧ l.length ≤ 10) ∧
      AFspec (fDbl wide bits) (if wide then 64 else 32) V P (sgn (fNeg wide bits) ++ (mantOf a (decide (P ≠ 0)) fr ++ ex)) := by
  have hex : ∀ (V : UInt8) (X : Int), V = 101 ∨ V = 69 → X.natAbs < 1000 → ∃ (V' g : UInt8) (l : List UInt8), V :: (if X < 0 then 45 else 43) :: expD X = V' :: g :: l ∧ (V' = 101 ∨ V' = 69) ∧ (g = 45 ∨ g = 43) ∧ isD l ∧ l.length ≤ 10 := fun V X hV hX => by
    obtain ⟨x1, x2, x3, x4⟩ := expD_all X hX
    exact ⟨V, _, _, rfl, hV, by split <;> simp, x1, by omega⟩
  obtain ⟨K, hK, h0, h1⟩ := dec_any wide bits
  have he : ∀ upper : Bool, ∃ a fr ex, isD a ∧ isD fr ∧ 0 < a.length ∧ a.length ≤ 400 ∧ fr.length = P ∧ (ex = [] ∨ ∃ (V' g : UInt8) (l : List UInt8), ex = V' :: g :: l ∧ (V' = 101 ∨ V' = 69) ∧ (g = 45 ∨ g = 43) ∧ isD l ∧ l.length ≤ 10) ∧
      AFspec (fDbl wide bits) (if wide then 64 else 32) (if upper then 69 else 101) P (sgn (fNeg wide bits) ++ (mantOf a (decide (P ≠ 0)) fr ++ ex)) := fun upper => by
    obtain ⟨a, fr, X, ht, ha, hf2, hfr, _, hX, _⟩ := e_all (fNeg wide bits) (exV upper) (fLow wide bits) (fPow wide bits) K P (pow_lt wide bits).1 hK h0 h1 (by omega)
    refine ⟨[a], fr, _, ha, hf2, by simp, by simp, hfr, Or.inr (hex (exV upper) X (by cases upper <;> decide) (by omega)), ?_⟩
    rw [← ht]
    exact exp_af upper wide bits P hP hU hf K hK h0 h1
  rcases hV with rfl | rfl | rfl
  · exact he false
  · exact he true
  · have hp0 := pow_lt wide bits
    obtain ⟨a, fr, ht, ha, hf2, ha0, ha1, hfr, _⟩ := f_all (fNeg wide bits) (fLow wide bits) (fPow wide bits) P (low_lt wide bits) hp0.1 hp0.2 (by omega)
    refine ⟨a, fr, [], ha, hf2, ha0, ha1, hfr, Or.inl rfl, ?_⟩
    rw [← ht]
    exact fix_af wide bits P hP hU hf

end Go.Proofs.YthfjpofbaeeafaaDoor
