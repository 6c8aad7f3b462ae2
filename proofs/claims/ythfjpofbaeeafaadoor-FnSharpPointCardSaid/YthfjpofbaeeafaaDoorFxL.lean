/-
  The law FnFixed: what the program answers for the verb f.
-/
import Derived.Test.YthfjpofbaeeafaaDoorLX
import Derived.Test.YthfjpofbaeeafaaDoorFF
import Derived.Test.YthfjpofbaeeafaaDoorFTf64
import Derived.Test.YthfjpofbaeeafaaDoorFTf32
namespace Go.Proofs.YthfjpofbaeeafaaDoor
open Go.RowKit

theorem efg_f (sh : Bool) (prec : Nat) (hp : prec ≤ 100) : EFG 102 sh prec (fun neg ds dp => fText neg ds dp prec) := by
  intro neg sV bs nd dp gs os cs v olds g o c w h1 h2 h3 h4 h5 h6 h7 h8 h9 h10
  exact fmtE_f neg sh sV bs nd prec dp gs os cs h1 h2 h3 (by omega) (by omega) v olds g o c w h5 h6 h7 h8 h9 (by omega)

/-- The text. -/
def fixText (wide : Bool) (bits prec : Nat) : List UInt8 := rTxt (fun neg ds dp => fText neg ds dp prec) (fNeg wide bits) (fLow wide bits) (fPow wide bits) prec

theorem fix_af (wide : Bool) (bits prec : Nat) (hp : prec ≤ 40) (hU : U64 bits) (hf : fExp wide bits ≠ fTop wide) : AFspec (fDbl wide bits) (if wide then 64 else 32) 102 prec (fixText wide bits prec) := by
  obtain ⟨K, hK, h0, h1⟩ := dec_any wide bits
  cases wide
  · simp only [fDbl, Bool.false_eq_true, if_false]
    exact af32 (fun w => run_down32 (bits % 2 ^ 32) (by omega) hf w) (ftoa32_102 prec hp _ (efg_f false prec (by omega)) K bits hf hK h0 h1)
  · simp only [fDbl, if_true]
    exact af64 (ftoa64_102 prec hp _ (efg_f false prec (by omega)) K bits hU hf hK h0 h1)

/-- All that the law asks. -/
theorem fix_all (wide : Bool) (bits prec : Nat) (hp : prec ≤ 40) :
    NumText (fixText wide bits prec) ∧ (fixText wide bits prec).length ≤ 1000 ∧ ∃ dg : List UInt8,
      (∀ w, Calls Tryd.prog 14 #[.string ⟨(fixText wide bits prec).toArray⟩] w (RdRes w (fNeg wide bits) dg (-(prec : Int)) (if prec = 0 then -1 else (prec : Int)) 0)) ∧
      (∀ w (ba : ByteArray), ba.data.toList = dg → Calls Tryd.prog 15 #[.agg #[.bool (fNeg wide bits), .string ba, .int .i64 (-(prec : Int)), .int .i64 (if prec = 0 then -1 else (prec : Int)), .int .i64 0], fAgg wide bits] w (NeaRes w true)) := by
  have hp0 := pow_lt wide bits
  have hl := low_lt wide bits
  obtain ⟨a, fr, he, ha, hf, ha0, ha1, hfr, hn⟩ := f_all (fNeg wide bits) (fLow wide bits) (fPow wide bits) prec hl hp0.1 hp0.2 (by omega)
  have hsl := sgn_len (fNeg wide bits)
  have he2 : fixText wide bits prec = sgn (fNeg wide bits) ++ (mantOf a (decide (prec ≠ 0)) fr ++ []) := he
  have hml : (mantOf a (decide (prec ≠ 0)) fr).length ≤ 500 := by
    unfold mantOf
    split
    · rw [List.length_append, List.length_cons]; omega
    · omega
  have hL : (fixText wide bits prec).length ≤ 1000 := by
    rw [he2, List.length_append, List.length_append, List.length_nil]; omega
  have hF := mantOf_rdF a fr (decide (prec ≠ 0)) ha hf (fun h => by
    have h0 : prec = 0 := by simpa using h
    rw [h0] at hfr
    exact List.length_eq_zero_iff.1 hfr)
  have hH := mantOf_head a fr (decide (prec ≠ 0)) ha ha0
  have hpt : (rdF (mantOf a (decide (prec ≠ 0)) fr)).2 = if prec = 0 then -1 else (prec : Int) := by
    rw [hF]
    by_cases h0 : prec = 0
    · simp [h0]
    · simp [h0, hfr]
  have hdg : (rdF (mantOf a (decide (prec ≠ 0)) fr)).1 = a ++ fr := by rw [hF]
  refine ⟨?_, hL, a ++ fr, fun w => ?_, fun w ba hba => ?_⟩
  · rw [he2]
    unfold mantOf
    split
    · rw [List.append_assoc]; exact numText_sgn _ a _ ha ha0
    · exact numText_sgn _ a _ ha ha0
  · have := rd_any w ⟨(fixText wide bits prec).toArray⟩ (sgn (fNeg wide bits)) (mantOf a (decide (prec ≠ 0)) fr) [] (by rw [← he2]) (by rw [size_list]; omega)
      (by cases fNeg wide bits; exact Or.inl rfl; exact Or.inr ⟨45, rfl, Or.inl rfl⟩) hH.1 hH.2 (mantOf_ok a fr _ ha hf) (fNeg wide bits) (by cases fNeg wide bits <;> rfl) (-(prec : Int)) 0
      (Or.inl ⟨rfl, by rw [hpt]; split <;> omega, rfl⟩) (by rw [hdg]; intro h; rw [List.append_eq_nil_iff] at h; rw [h.1] at ha0; exact absurd ha0 (by decide))
    rw [hpt, hdg] at this
    exact this
  · have := nearest_any w (fNeg wide bits) (fNeg wide bits) (fEdge wide bits) ba (a ++ fr) hba (ha.append hf) (by rw [List.length_append]; omega) (-(prec : Int)) (if prec = 0 then -1 else (prec : Int)) 0 (fPow wide bits) (fLow wide bits) (by omega) (by omega) (by omega) (by omega) (by omega)
    rw [hn] at this
    have e : (fNeg wide bits == fNeg wide bits && true) = true := by simp
    rw [e] at this
    exact this

end Go.Proofs.YthfjpofbaeeafaaDoor
