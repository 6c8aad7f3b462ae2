/-
  The law FnPower: what the program answers, for every bits and every verb b, x, X.
-/
import Derived.Test.YthfjpofbaeeafaaDoorPowL
import Derived.Test.YthfjpofbaeeafaaDoorPB
import Derived.Test.YthfjpofbaeeafaaDoorRPX2
namespace Go.Proofs.YthfjpofbaeeafaaDoor
open Go.RowKit

theorem fLow_true (bits : Nat) : fLow true bits < 2 ^ 53 := by
  unfold fLow fFrac
  simp only [if_true]
  split <;> omega
theorem fLow_false (bits : Nat) : fLow false bits < 2 ^ 24 := by
  unfold fLow fFrac
  simp only [Bool.false_eq_true, if_false]
  split <;> omega
theorem fPow_true (bits : Nat) : -1074 ≤ fPow true bits ∧ fPow true bits ≤ 972 := by
  unfold fPow fExp
  simp only [if_true]
  split <;> omega
theorem fPow_false (bits : Nat) : -149 ≤ fPow false bits ∧ fPow false bits ≤ 105 := by
  unfold fPow fExp
  simp only [Bool.false_eq_true, if_false]
  split <;> omega
theorem fLow_lt (wide : Bool) (bits : Nat) : fLow wide bits < 2 ^ 53 := by
  cases wide
  · have := fLow_false bits; omega
  · exact fLow_true bits
theorem fPow_lt (wide : Bool) (bits : Nat) : -1074 ≤ fPow wide bits ∧ fPow wide bits ≤ 972 := by
  cases wide
  · have := fPow_false bits; omega
  · exact fPow_true bits

/-- The verb that the law takes. -/
def pVerb (hex upper : Bool) : Nat := if hex then (if upper then 88 else 120) else 98
/-- The text that stands for the number. -/
def pText (wide hex upper : Bool) (bits : Nat) : List UInt8 :=
  if hex then fXText upper (fNeg wide bits) (fLow wide bits) (if wide then 52 else 23) (fPow wide bits) else fmtBText (fNeg wide bits) (fLow wide bits) (fPow wide bits)

theorem pText_b (wide upper : Bool) (bits : Nat) : pText wide false upper bits = fmtBText (fNeg wide bits) (fLow wide bits) (fPow wide bits) := by
  simp only [pText, Bool.false_eq_true, if_false]
theorem pText_x (wide upper : Bool) (bits : Nat) : pText wide true upper bits = fXText upper (fNeg wide bits) (fLow wide bits) (if wide then 52 else 23) (fPow wide bits) := by
  simp only [pText, if_true]

theorem pText_af64 (hex upper : Bool) (bits : Nat) (hU : U64 bits) (hf : fExp true bits ≠ 2047) :
    AFspec bits 64 (pVerb hex upper : Nat) (-1) (pText true hex upper bits) := by
  cases hex
  · rw [pText_b]
    exact af64 (ftoa64_b bits hU hf)
  · rw [pText_x]
    simp only [if_true]
    cases upper
    · exact af64 (ftoa64_x bits hU hf)
    · exact af64 (ftoa64_X bits hU hf)
theorem pText_af32 (hex upper : Bool) (bits : Nat) (hf : fExp false bits ≠ 255) :
    AFspec (up32 (bits % 2 ^ 32)) 32 (pVerb hex upper : Nat) (-1) (pText false hex upper bits) := by
  have hc : ∀ w, Sem.run Tryd.prog (convert 54 55 (.float .f64 (up32 (bits % 2 ^ 32)))) w = .ok (.float .f32 (bits % 2 ^ 32)) w := fun w => run_down32 (bits % 2 ^ 32) (by omega) hf w
  cases hex
  · rw [pText_b]
    exact af32 hc (ftoa32_b bits hf)
  · rw [pText_x]
    simp only [Bool.false_eq_true, if_false]
    cases upper
    · exact af32 hc (ftoa32_x bits hf)
    · exact af32 hc (ftoa32_X bits hf)

theorem samePower_all (wide : Bool) (bits : Nat) (n : Nat) (pk : Int) (w : World) (hn : n < 2 ^ 64)
    (same : (fLow wide bits = 0 ∧ n = 0) ∨ ∃ od a b : Nat, od % 2 = 1 ∧ n = od * 2 ^ a ∧ fLow wide bits = od * 2 ^ b ∧ pk + a = fPow wide bits + b ∧ a < 64 ∧ b < 64) :
    Calls Tryd.prog 20 #[.int .u64 (n : Int), .int .i64 pk, fAgg wide bits] w fun e w' => e = .returned (.bool true) ∧ Still w w' := by
  unfold fAgg
  have hp := fPow_lt wide bits
  have hl := fLow_lt wide bits
  rcases same with ⟨h1, h2⟩ | ⟨od, a, b, h1, h2, h3, h4, h5, h6⟩
  · rw [h1, h2]
    exact samePower_zero _ _ _ _ w
  · rw [h3] at hl
    rw [h2] at hn
    rw [h2, h3]
    exact samePower_odd od a b pk _ _ _ w h1 h4 (by omega) (by omega) (by omega) (by omega) (by omega) (by omega) hn (by unfold U64; omega)

theorem size_of_list (l : List UInt8) : (⟨l.toArray⟩ : ByteArray).size = l.length := by
  show l.toArray.size = _
  simp

theorem numText_sign (neg : Bool) (d : UInt8) (ds : List UInt8) (h : 48 ≤ d.toNat ∧ d.toNat < 58) : NumText ((if neg then [45] else []) ++ d :: ds) := by
  cases neg
  · exact .inl ⟨d, ds, rfl, h.1, h.2⟩
  · exact .inr ⟨d, ds, rfl, h.1, h.2⟩

theorem sign_len (neg : Bool) : (if neg then [45] else [] : List UInt8).length ≤ 1 := by cases neg <;> decide

theorem b_head (M : Nat) : ∃ d ds, Lib.decDigits M = d :: ds ∧ 48 ≤ d.toNat ∧ d.toNat < 58 := by
  have h := decDigits_pos M
  have h2 := decDigits_range M
  cases hd : Lib.decDigits M with
  | nil => rw [hd] at h; simp at h
  | cons d ds =>
    have := h2 d (by rw [hd]; simp)
    exact ⟨d, ds, rfl, this.1, by omega⟩

/-- All that the law asks, for each verb. -/
theorem power_all (wide hex upper : Bool) (bits : Nat) :
    NumText (pText wide hex upper bits) ∧ (pText wide hex upper bits).length ≤ 1000 ∧ ∃ (n : Nat) (pk : Int),
      (∀ w, Calls Tryd.prog 19 #[.string ⟨(pText wide hex upper bits).toArray⟩, .int .u8 (pVerb hex upper : Nat)] w fun e w' => e = .returned (.tuple #[.bool (fNeg wide bits), .int .u64 (n : Int), .int .i64 pk, .bool true]) ∧ Still w w') ∧
      (∀ w, Calls Tryd.prog 20 #[.int .u64 (n : Int), .int .i64 pk, fAgg wide bits] w fun e w' => e = .returned (.bool true) ∧ Still w w') := by
  have hp := fPow_lt wide bits
  have hl := fLow_lt wide bits
  cases hex
  · rw [pText_b, fmtBText_eq]
    have R := bReads (fLow wide bits) (fPow wide bits) (by unfold U64; omega) (by omega)
    obtain ⟨d, ds, hd, hd1, hd2⟩ := b_head (fLow wide bits)
    have hsl := sign_len (fNeg wide bits)
    have hlen := R.len
    have hel := R.hel
    have hL : ((if fNeg wide bits then [45] else []) ++ (Lib.decDigits (fLow wide bits) ++ 112 :: (if fPow wide bits < 0 then 45 else 43) :: Lib.decDigits (fPow wide bits).natAbs)).length ≤ 1000 := by
      rw [List.length_append, List.length_append, List.length_cons, List.length_cons]; omega
    refine ⟨?_, hL, _, _, fun w => readPower_b (fNeg wide bits) _ _ _ _ _ _ w rfl ?_ R.hb R.hfd rfl ?_ R.hbp R.hes R.hel R.hsg R.hed R.hKK, fun w => samePower_all wide bits _ _ w R.n64 R.same⟩
    · rw [hd]; exact numText_sign _ _ _ ⟨hd1, hd2⟩
    · rw [size_of_list]; omega
    · intro c l he hc
      rw [hd] at he
      rw [hc] at he
      have : d = 45 := by injection he
      rw [this] at hd1
      exact absurd hd1 (by decide)
  · have key : ∃ body sg es fin KK, pText wide true upper bits = (if fNeg wide bits then [45] else []) ++ (48 :: (if upper then 88 else 120) :: (body ++ (if upper then 80 else 112) :: sg :: es)) ∧ ReadsAs 16 (if upper then 88 else 120) (if upper then 80 else 112) (fLow wide bits) (fPow wide bits) body sg es fin KK := by
      rw [pText_x]
      cases wide
      · simp only [Bool.false_eq_true, if_false]
        exact fXText_eq upper (fNeg false bits) (fLow false bits) 23 (fPow false bits) (fLow_false bits) (by decide) (by omega)
      · simp only [if_true]
        exact fXText_eq upper (fNeg true bits) (fLow true bits) 52 (fPow true bits) (fLow_true bits) (by decide) (by omega)
    obtain ⟨body, sg, es, fin, KK, he, R⟩ := key
    rw [he]
    have hsl := sign_len (fNeg wide bits)
    have hlen := R.len
    have hel := R.hel
    have hL : ((if fNeg wide bits then [45] else []) ++ (48 :: (if upper then 88 else 120) :: (body ++ (if upper then 80 else 112) :: sg :: es))).length ≤ 1000 := by
      rw [List.length_append, List.length_cons, List.length_cons, List.length_append, List.length_cons, List.length_cons]; omega
    refine ⟨numText_sign _ _ _ (by decide), hL, _, _, fun w => ?_, fun w => samePower_all wide bits _ _ w R.n64 R.same⟩
    cases upper
    · exact readPower_x (fNeg wide bits) _ _ _ _ _ _ w rfl (by rw [size_of_list]; exact Nat.le_trans hL (by decide)) R.hb R.hfd R.hbp R.hes R.hel R.hsg R.hed R.hKK
    · exact readPower_X (fNeg wide bits) _ _ _ _ _ _ w rfl (by rw [size_of_list]; exact Nat.le_trans hL (by decide)) R.hb R.hfd R.hbp R.hes R.hel R.hsg R.hed R.hKK

end Go.Proofs.YthfjpofbaeeafaaDoor
