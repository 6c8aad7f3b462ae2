/-
  fmtX without a precision: what it writes, and the small facts that its walk asks for.
-/
import Derived.Test.YthfjpofbaeeafaaDoorFB
namespace Go.Proofs.YthfjpofbaeeafaaDoor
open Go.RowKit

/-- A digit in base 16. -/
def hexd (upper : Bool) (d : Nat) : UInt8 := if d < 10 then UInt8.ofNat (48 + d) else if upper then UInt8.ofNat (55 + d) else UInt8.ofNat (87 + d)
/-- The digits of a fraction of 64 bits, up to the last one that is none. -/
def hexTail (upper : Bool) : Nat → Nat → List UInt8
  | 0, _ => []
  | k + 1, m => if m = 0 then [] else hexd upper (m / 2 ^ 60) :: hexTail upper k (m * 16 % 2 ^ 64)
def dch (d : Nat) : UInt8 := UInt8.ofNat (48 + d)
/-- An exponent of two digits or more. -/
def expX (a : Nat) : List UInt8 := if a < 100 then [dch (a / 10), dch (a % 10)] else if a < 1000 then [dch (a / 100), dch (a / 10 % 10), dch (a % 10)] else [dch (a / 1000), dch (a / 100 % 10), dch (a / 10 % 10), dch (a % 10)]
def fracX (upper : Bool) (m : Nat) : List UInt8 := if m = 0 then [] else 46 :: hexTail upper 16 m
/-- What fmtX writes: the sign, 0x, the first digit, the others, p, and the exponent. -/
def fmtXText (upper neg : Bool) (lead tail : Nat) (exp : Int) : List UInt8 :=
  sgn neg ++ [48, if upper then 88 else 120, dch lead] ++ fracX upper tail ++ [if upper then 80 else 112] ++ [if exp < 0 then 45 else 43] ++ expX exp.natAbs

def P60 : Nat := 2 ^ 60
theorem and60 (m : Nat) (h : m < 2 * P60) : bits .and .u64 (m : Int) 1152921504606846976 = if m < P60 then 0 else 1152921504606846976 := by
  have h1 := u64_and_nat m (2 ^ 60) (by unfold P60 at h; omega) (by decide)
  refine (show _ = _ from h1).trans ?_
  unfold P60 at *
  by_cases hm : m < 2 ^ 60
  · rw [if_pos hm]
    have : m &&& 2 ^ 60 = 0 := Nat.eq_of_testBit_eq fun i => by
      rw [Nat.testBit_and, Nat.testBit_two_pow, Nat.zero_testBit]
      by_cases hi : 60 = i
      · subst hi; rw [Nat.testBit_lt_two_pow hm]; rfl
      · simp [hi]
    rw [this]; rfl
  · rw [if_neg hm]
    have hb : m.testBit 60 = true := by rw [Nat.testBit_eq_decide_div_mod_eq]; simp; omega
    have : m &&& 2 ^ 60 = 2 ^ 60 := Nat.eq_of_testBit_eq fun i => by
      rw [Nat.testBit_and, Nat.testBit_two_pow]
      by_cases hi : 60 = i
      · subst hi; simp [hb]
      · simp [hi]
    rw [this]; rfl
/-- What the loop over the digits keeps: what stands, and what is still to come, are the digits of T. -/
def HexInv (upper : Bool) (T q t : Nat) (ks : List UInt8) : Prop := ks ++ hexTail upper q t = hexTail upper 16 T ∧ t < 2 ^ 64 ∧ t % 16 ^ (16 - q) = 0

theorem hexInv_pos {upper : Bool} {T q t : Nat} {ks : List UInt8} (h : HexInv upper T q t ks) (ht : t ≠ 0) : 0 < q := by
  obtain ⟨_, h2, h3⟩ := h
  rcases Nat.eq_zero_or_pos q with rfl | hq
  · rw [Nat.sub_zero, show (16 : Nat) ^ 16 = 2 ^ 64 by decide, Nat.mod_eq_of_lt h2] at h3
    exact absurd h3 ht
  · exact hq
theorem hexInv_step {upper : Bool} {T q t : Nat} {ks : List UInt8} (h : HexInv upper T q t ks) (hq16 : q ≤ 16) (ht : t ≠ 0) : HexInv upper T (q - 1) (t * 16 % 2 ^ 64) (ks ++ [hexd upper (t / P60)]) := by
  have hq := hexInv_pos h ht
  obtain ⟨h1, h2, h3⟩ := h
  refine ⟨?_, Nat.mod_lt _ (by decide), ?_⟩
  · rw [← h1, List.append_assoc]
    congr 1
    obtain ⟨q', rfl⟩ : ∃ q', q = q' + 1 := ⟨q - 1, by omega⟩
    rw [hexTail, if_neg ht]
    rfl
  · have e : 16 - (q - 1) = (16 - q) + 1 := by omega
    rw [e, show 16 ^ (16 - q + 1) = 16 ^ (16 - q) * 16 from Nat.pow_succ _ _]
    have hd : 16 ^ (16 - q) * 16 ∣ 2 ^ 64 := by
      rw [← Nat.pow_succ, show (2 : Nat) ^ 64 = 16 ^ 16 by decide]
      exact Nat.pow_dvd_pow _ (by omega)
    rw [Nat.mod_mod_of_dvd _ hd]
    exact Nat.mod_eq_zero_of_dvd (Nat.mul_dvd_mul_right (Nat.dvd_of_mod_eq_zero h3) 16)
theorem xlt {x M j k : Nat} (hx : x = M * 2 ^ j) (hk : M * 2 ^ k < 2 * P60) (hj : j < k) : x < P60 := by
  have h1 : M * 2 ^ (j + 1) ≤ M * 2 ^ k := Nat.mul_le_mul_left _ (Nat.pow_le_pow_right (by decide) hj)
  rw [Nat.pow_succ, ← Nat.mul_assoc, ← hx] at h1
  omega
theorem k60 {M k : Nat} (hM : 0 < M) (hk : M * 2 ^ k < 2 * P60) : k ≤ 60 := by
  have h1 : 2 ^ k ≤ M * 2 ^ k := Nat.le_mul_of_pos_left _ hM
  have h2 : 2 ^ k < 2 ^ 61 := by unfold P60 at hk; omega
  have := (Nat.pow_lt_pow_iff_right (a := 2) (by decide)).1 h2
  omega
theorem shlM {mant mb M k : Nat} (hM : M = mant * 2 ^ (60 - mb)) (hk : M * 2 ^ k < 2 * P60) : IntKind.u64.wrap ((mant : Int) * 2 ^ (60 - mb)) = (M : Int) := by
  have h1 : M ≤ M * 2 ^ k := Nat.le_mul_of_pos_right _ (Nat.two_pow_pos k)
  have h2 : ((mant : Int) * 2 ^ (60 - mb)) = (M : Int) := by rw [hM]; simp
  rw [h2, IntKind.wrap_u64]
  unfold P60 at hk
  omega
theorem and15 (t : Nat) (h : t < 2 ^ 64) : bits .and .u64 ((t : Int) / 1152921504606846976) 15 = ((t / P60 : Nat) : Int) := by
  have e : (t : Int) / 1152921504606846976 = ((t / P60 : Nat) : Int) := by unfold P60; omega
  have hd : t / P60 < 16 := by unfold P60; omega
  rw [e]
  generalize t / P60 = d at hd
  have : ∀ d : Fin 16, bits .and .u64 ((d.val : Nat) : Int) 15 = ((d.val : Nat) : Int) := by decide
  exact this ⟨d, hd⟩
theorem hexIdx_false (d : Nat) (h : d < 16) (W : World) : (Instr.index 9 (.string ⟨#[48, 49, 50, 51, 52, 53, 54, 55, 56, 57, 97, 98, 99, 100, 101, 102]⟩) (.int .u64 (d : Int))).run Tryd.prog W = .ok (.int .u8 ((hexd false d).toNat : Int)) W :=
  match d, h with
  | 0, _ => by kernel_rfl
  | 1, _ => by kernel_rfl
  | 2, _ => by kernel_rfl
  | 3, _ => by kernel_rfl
  | 4, _ => by kernel_rfl
  | 5, _ => by kernel_rfl
  | 6, _ => by kernel_rfl
  | 7, _ => by kernel_rfl
  | 8, _ => by kernel_rfl
  | 9, _ => by kernel_rfl
  | 10, _ => by kernel_rfl
  | 11, _ => by kernel_rfl
  | 12, _ => by kernel_rfl
  | 13, _ => by kernel_rfl
  | 14, _ => by kernel_rfl
  | 15, _ => by kernel_rfl
  | d + 16, h => absurd h (by omega)
theorem hexIdx_true (d : Nat) (h : d < 16) (W : World) : (Instr.index 9 (.string ⟨#[48, 49, 50, 51, 52, 53, 54, 55, 56, 57, 65, 66, 67, 68, 69, 70]⟩) (.int .u64 (d : Int))).run Tryd.prog W = .ok (.int .u8 ((hexd true d).toNat : Int)) W :=
  match d, h with
  | 0, _ => by kernel_rfl
  | 1, _ => by kernel_rfl
  | 2, _ => by kernel_rfl
  | 3, _ => by kernel_rfl
  | 4, _ => by kernel_rfl
  | 5, _ => by kernel_rfl
  | 6, _ => by kernel_rfl
  | 7, _ => by kernel_rfl
  | 8, _ => by kernel_rfl
  | 9, _ => by kernel_rfl
  | 10, _ => by kernel_rfl
  | 11, _ => by kernel_rfl
  | 12, _ => by kernel_rfl
  | 13, _ => by kernel_rfl
  | 14, _ => by kernel_rfl
  | 15, _ => by kernel_rfl
  | d + 16, h => absurd h (by omega)
theorem dch_eq (x : Int) (d : Nat) (hd : d < 10) (hx : x = d + 48) : x = ((dch d).toNat : Int) := by
  unfold dch
  rw [UInt8.toNat_ofNat']
  omega
theorem hexTail_zero (upper : Bool) (q : Nat) : hexTail upper q 0 = [] := by cases q <;> simp [hexTail]
theorem hexTail_length (upper : Bool) : ∀ k m, (hexTail upper k m).length ≤ k
  | 0, _ => by simp [hexTail]
  | k + 1, m => by
    unfold hexTail
    split
    · simp
    · simpa using hexTail_length upper k _
theorem fracX_length (upper : Bool) (T : Nat) : (fracX upper T).length ≤ 17 := by
  unfold fracX
  split
  · simp
  · simpa using hexTail_length upper 16 T

end Go.Proofs.YthfjpofbaeeafaaDoor
