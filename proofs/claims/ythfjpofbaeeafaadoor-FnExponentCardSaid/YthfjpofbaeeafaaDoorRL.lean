/-
  The texts of the verbs e and f, read back: plain Lean.
-/
import Derived.Test.YthfjpofbaeeafaaDoorRD
import Derived.Test.YthfjpofbaeeafaaDoorEL
import Derived.Test.YthfjpofbaeeafaaDoorUL
import Derived.Test.YthfjpofbaeeafaaDoorFP
namespace Go.Proofs.YthfjpofbaeeafaaDoor
open Go.RowKit

theorem dgt_toNat (u : Nat) (h : u < 10) : (UInt8.ofNat (48 + u)).toNat = 48 + u := by
  rw [UInt8.toNat_ofNat_of_lt' (by show 48 + u < 256; omega)]
/-- Digits only. -/
def isD (l : List UInt8) : Prop := ∀ c ∈ l, 48 ≤ c.toNat ∧ c.toNat ≤ 57
theorem isD.append {a b : List UInt8} (ha : isD a) (hb : isD b) : isD (a ++ b) := fun c hc => by
  rcases List.mem_append.1 hc with h | h
  · exact ha c h
  · exact hb c h
theorem isD.take {a : List UInt8} (ha : isD a) (n : Nat) : isD (a.take n) := fun c hc => ha c (List.mem_of_mem_take hc)
theorem isD.drop {a : List UInt8} (ha : isD a) (n : Nat) : isD (a.drop n) := fun c hc => ha c (List.mem_of_mem_drop hc)
theorem isD_zeros (n : Nat) : isD (List.replicate n 48) := fun c hc => by rw [(List.mem_replicate.1 hc).2]; decide
theorem isD_nil : isD [] := fun c hc => by cases hc
theorem isD_dec (u : Nat) : isD (Lib.decDigits u) := by
  induction u using Nat.strongRecOn with
  | _ u ih =>
    intro c hc
    by_cases h : u < 10
    · rw [Lib.decDigits, dif_pos h] at hc
      simp only [List.mem_singleton] at hc
      rw [hc, dgt_toNat u h]; omega
    · rw [Lib.decDigits, dif_neg h, List.mem_append, List.mem_singleton] at hc
      rcases hc with hc | hc
      · exact ih (u / 10) (by omega) c hc
      · rw [hc, dgt_toNat _ (by omega)]; omega
theorem dv_dec (u : Nat) : decVal (Lib.decDigits u) = u := by
  induction u using Nat.strongRecOn with
  | _ u ih =>
    by_cases h : u < 10
    · rw [Lib.decDigits, dif_pos h]
      have := decVal_snoc [] (UInt8.ofNat (48 + u))
      rw [List.nil_append] at this
      rw [this, dgt_toNat u h]
      simp [decVal]
    · rw [Lib.decDigits, dif_neg h, decVal_snoc, ih (u / 10) (by omega), dgt_toNat _ (by omega)]
      omega
theorem dv_zeros (n : Nat) (l : List UInt8) : decVal (List.replicate n 48 ++ l) = decVal l := by
  induction n with
  | zero => simp
  | succ n ih =>
    rw [List.replicate_succ, List.cons_append]
    unfold decVal at ih ⊢
    rw [List.foldl_cons]
    exact ih
theorem dv_zeros0 (n : Nat) : decVal (List.replicate n 48) = 0 := by
  have := dv_zeros n []
  rw [List.append_nil] at this
  rw [this]; rfl
theorem dv_tail (l : List UInt8) (n : Nat) : decVal (l ++ List.replicate n 48) = decVal l * 10 ^ n := by
  induction n with
  | zero => simp
  | succ n ih =>
    rw [List.replicate_succ', ← List.append_assoc, decVal_snoc, ih, Nat.pow_succ, ← Nat.mul_assoc]
    simp

/-- The digits are those that were left, and noughts. -/
theorem cutD_tail (d : Nat) : ∃ k, Lib.decDigits d = cutD d ++ List.replicate k 48 := by
  unfold cutD strip
  have h : ∀ l : List UInt8, ∃ k, l = List.replicate k 48 ++ l.dropWhile (· == 48) := by
    intro l
    induction l with
    | nil => exact ⟨0, rfl⟩
    | cons c l ih =>
      obtain ⟨k, hk⟩ := ih
      by_cases hc : c = 48
      · subst hc
        refine ⟨k + 1, ?_⟩
        rw [List.dropWhile_cons_of_pos (by decide), List.replicate_succ, List.cons_append, ← hk]
      · refine ⟨0, ?_⟩
        rw [List.dropWhile_cons_of_neg (by simpa using hc)]
        rfl
  obtain ⟨k, hk⟩ := h (Lib.decDigits d).reverse
  refine ⟨k, ?_⟩
  have := congrArg List.reverse hk
  rw [List.reverse_reverse, List.reverse_append, List.reverse_replicate] at this
  exact this

theorem fill_all (n : Nat) (l : List UInt8) (k : Nat) (h : l.length ≤ n) (hn : n ≤ l.length + k) : fill n l = (l ++ List.replicate k 48).take n := by
  unfold fill
  rw [List.take_append, List.take_replicate]
  congr 2
  omega
theorem fill_take (n : Nat) (l : List UInt8) (k : Nat) (hn : n ≤ l.length + k) : fill n l = (l ++ List.replicate k 48).take n := by
  unfold fill
  rw [List.take_append, List.take_replicate]
  congr 2
  omega
theorem fill_isD {l : List UInt8} (h : isD l) (n : Nat) : isD (fill n l) := (h.take n).append (isD_zeros _)
theorem cutD_isD (d : Nat) : isD (cutD d) := fun c hc => by
  obtain ⟨k, hk⟩ := cutD_tail d
  exact isD_dec d c (by rw [hk]; exact List.mem_append_left _ hc)

/-- The verb f: the digits say the rounded number. -/
theorem f_digits (R prec : Nat) (ds : List UInt8) (hds : ds = cutD R) (dp : Int) (hdp : dp = (Lib.nDigits R : Int) - prec) :
    decVal ((if 0 < dp then fill dp.toNat ds else [48]) ++ fill prec (List.replicate (-dp).toNat 48 ++ ds.drop dp.toNat)) = R := by
  obtain ⟨k, hk⟩ := cutD_tail R
  rw [← hds] at hk
  have hn : ds.length + k = Lib.nDigits R := by
    have := congrArg List.length hk
    rw [Lib.decDigits_length, List.length_append, List.length_replicate] at this
    exact this.symm
  by_cases h0 : 0 < dp
  · rw [if_pos h0]
    obtain ⟨P, hP⟩ : ∃ P, P = dp.toNat := ⟨_, rfl⟩
    have hz : (-dp).toNat = 0 := by omega
    rw [hz, ← hP, List.replicate_zero, List.nil_append]
    have hn2 : P + prec = ds.length + k := by omega
    rw [fill_take P ds k (by omega), ← hk]
    have e2 : fill prec (ds.drop P) = (Lib.decDigits R).drop P := by
      by_cases hP2 : P ≤ ds.length
      · rw [fill_take prec (ds.drop P) k (by rw [List.length_drop]; omega), hk, List.drop_append, show P - ds.length = 0 by omega, List.drop_zero, List.take_of_length_le]
        rw [List.length_append, List.length_drop, List.length_replicate]; omega
      · rw [List.drop_of_length_le (by omega), hk, List.drop_append, List.drop_of_length_le (by omega), List.nil_append, List.drop_replicate]
        unfold fill
        rw [List.take_nil, List.nil_append]
        congr 1
        rw [List.length_nil]; omega
    rw [e2, List.take_append_drop, dv_dec]
  · rw [if_neg h0]
    have hz : dp.toNat = 0 := by omega
    obtain ⟨Z, hZ⟩ : ∃ Z, Z = (-dp).toNat := ⟨_, rfl⟩
    rw [hz, ← hZ, List.drop_zero]
    have hn2 : prec = Z + (ds.length + k) := by omega
    rw [fill_take prec _ k (by rw [List.length_append, List.length_replicate]; omega), List.append_assoc, ← hk, List.take_of_length_le (by rw [List.length_append, List.length_replicate, Lib.decDigits_length]; omega)]
    have e : [48] ++ (List.replicate Z 48 ++ Lib.decDigits R) = List.replicate (Z + 1) (48 : UInt8) ++ Lib.decDigits R := by
      rw [List.replicate_succ]; rfl
    rw [e, dv_zeros, dv_dec]

/-- The verb e: prec + 1 digits. -/
theorem e_digits (R prec t : Nat) (ds : List UInt8) (hds : ds = cutD R) (hn : Lib.nDigits R = prec + 1 + t) (h0 : 0 < ds.length) (hl : ds.length ≤ prec + 1) :
    decVal (ds.headD 48 :: fill prec (ds.drop 1)) * 10 ^ t = R := by
  obtain ⟨k, hk⟩ := cutD_tail R
  rw [← hds] at hk
  have hlen : ds.length + k = prec + 1 + t := by
    have := congrArg List.length hk
    rw [Lib.decDigits_length, List.length_append, List.length_replicate] at this
    omega
  have hR : R = decVal ds * 10 ^ k := by
    have := congrArg decVal hk
    rw [dv_dec, dv_tail] at this
    exact this
  clear hds hk
  cases ds with
  | nil => simp at h0
  | cons c l =>
    rw [List.headD_cons, List.drop_succ_cons, List.drop_zero]
    rw [List.length_cons] at hlen hl
    have e : c :: fill prec l = (c :: l) ++ List.replicate (prec - l.length) 48 := by
      unfold fill
      rw [List.take_of_length_le (by omega)]
      rfl
    rw [e, dv_tail, hR, Nat.mul_assoc, ← Nat.pow_add]
    congr 2
    omega

/-- rdF at digits. -/
theorem rdF_digits (l : List UInt8) (hl : isD l) : rdF l = (l, -1) := by
  have h : ∀ (l a : List UInt8), isD l → l.foldl rdStep (a, -1) = (a ++ l, -1) := by
    intro l
    induction l with
    | nil => intro a _; simp
    | cons c l ih =>
      intro a hl
      have hc := hl c (by simp)
      have hne : c ≠ 46 := fun e => by rw [e] at hc; exact absurd hc.1 (by decide)
      rw [List.foldl_cons, rdStep, if_neg hne, if_neg (show ¬ (0 : Int) ≤ -1 by decide), ih _ (fun x hx => hl x (by simp [hx]))]
      simp
  have := h l [] hl
  rwa [List.nil_append] at this
theorem rdF_point (a fr : List UInt8) (ha : isD a) (hf : isD fr) : rdF (a ++ 46 :: fr) = (a ++ fr, (fr.length : Int)) := by
  have h : ∀ (l : List UInt8) (st : List UInt8) (p : Nat), isD l → l.foldl rdStep (st, (p : Int)) = (st ++ l, ((p + l.length : Nat) : Int)) := by
    intro l
    induction l with
    | nil => intro st p _; simp
    | cons c l ih =>
      intro st p hl
      have hc := hl c (by simp)
      have hne : c ≠ 46 := fun e => by rw [e] at hc; exact absurd hc.1 (by decide)
      have e1 : rdStep (st, (p : Int)) c = (st ++ [c], ((p + 1 : Nat) : Int)) := by
        rw [rdStep, if_neg hne, if_pos (by show (0 : Int) ≤ (p : Int); omega)]
        simp
      rw [List.foldl_cons, e1, ih _ _ (fun x hx => hl x (by simp [hx]))]
      rw [List.append_assoc, List.length_cons, show p + 1 + l.length = p + (l.length + 1) by omega]
      rfl
  have e0 : rdF (a ++ 46 :: fr) = fr.foldl rdStep (rdStep (rdF a) 46) := by simp [rdF]
  rw [e0, rdF_digits a ha, rdStep, if_pos rfl]
  have := h fr a 0 hf
  rw [Nat.zero_add] at this
  exact this
theorem rdOk_digits (l : List UInt8) (hl : isD l) : rdOk l := fun _ h => Or.inr (hl _ (List.getElem_mem h))
theorem rdOk_point (a fr : List UInt8) (ha : isD a) (hf : isD fr) : rdOk (a ++ 46 :: fr) := fun k h => by
  rcases Nat.lt_trichotomy k a.length with hk | hk | hk
  · right
    rw [List.getElem_append_left hk]
    exact ha _ (List.getElem_mem hk)
  · left
    subst hk
    refine ⟨by simp, ?_⟩
    rw [List.take_append_of_le_length (Nat.le_refl _), List.take_length, rdF_digits a ha]
  · right
    have h2 : k - a.length - 1 < fr.length := by rw [List.length_append, List.length_cons] at h; omega
    have e : (a ++ 46 :: fr)[k] = fr[k - a.length - 1] := by
      rw [List.getElem_append_right (by omega), List.getElem_cons]
      rw [dif_neg (by omega)]
    rw [e]
    exact hf _ (List.getElem_mem h2)

/-- Digits ahead of a point and behind it. -/
def mantOf (a : List UInt8) (p : Bool) (fr : List UInt8) : List UInt8 := if p then a ++ 46 :: fr else a
theorem mantOf_rdF (a fr : List UInt8) (p : Bool) (ha : isD a) (hf : isD fr) (hp : p = false → fr = []) : rdF (mantOf a p fr) = (a ++ fr, if p then (fr.length : Int) else -1) := by
  cases p
  · rw [hp rfl, List.append_nil]; exact rdF_digits a ha
  · exact rdF_point a fr ha hf
theorem mantOf_ok (a fr : List UInt8) (p : Bool) (ha : isD a) (hf : isD fr) : rdOk (mantOf a p fr) := by
  cases p
  · exact rdOk_digits a ha
  · exact rdOk_point a fr ha hf
theorem mantOf_head (a fr : List UInt8) (p : Bool) (ha : isD a) (h0 : 0 < a.length) : mantOf a p fr ≠ [] ∧ ∀ h : 0 < (mantOf a p fr).length, (mantOf a p fr)[0] ≠ 45 ∧ (mantOf a p fr)[0] ≠ 43 ∧ (mantOf a p fr)[0] ≠ 32 := by
  cases a with
  | nil => simp at h0
  | cons c l =>
    have hc := ha c (by simp)
    have hx : c ≠ 45 ∧ c ≠ 43 ∧ c ≠ 32 := by
      refine ⟨fun e => ?_, fun e => ?_, fun e => ?_⟩ <;> (rw [e] at hc; exact absurd hc.1 (by decide))
    cases p
    · exact ⟨by simp [mantOf], fun _ => by simpa [mantOf] using hx⟩
    · exact ⟨by simp [mantOf], fun _ => by simpa [mantOf] using hx⟩

/-- What is rounded to q digits is near enough to a unit of the last place. -/
theorem near_law (R M : Nat) (E q pw : Int) (hpw : pw = -q) (hE0 : -1200 ≤ E) (hq0 : -1000 ≤ q) (h1 : 2 * VN M E q ≤ 2 * (R * VC) + VC) (h2 : 2 * (R * VC) ≤ 2 * VN M E q + VC) :
    nearB (R * 10 ^ pw.toNat * 2 ^ (-E).toNat) (M * 2 ^ E.toNat * 10 ^ (-pw).toNat) (10 ^ pw.toNat * 2 ^ (-E).toNat) = true := by
  obtain ⟨a, ha⟩ : ∃ a, a = pw.toNat := ⟨_, rfl⟩
  obtain ⟨b, hb⟩ : ∃ b, b = (-E).toNat := ⟨_, rfl⟩
  obtain ⟨c, hc⟩ : ∃ c, c = E.toNat := ⟨_, rfl⟩
  obtain ⟨d, hd⟩ : ∃ d, d = (-pw).toNat := ⟨_, rfl⟩
  rw [← ha, ← hb, ← hc, ← hd]
  have e1 : VN M E q * (10 ^ a * 2 ^ b) = M * 2 ^ c * 10 ^ d * VC := by
    unfold VC VN
    obtain ⟨y, hy⟩ : ∃ y, y = ((0 : Int) + 1200).toNat := ⟨_, rfl⟩
    obtain ⟨z, hz⟩ : ∃ z, z = ((0 : Int) + 1000).toNat := ⟨_, rfl⟩
    rw [← hy, ← hz]
    have x1 : 2 ^ (E + 1200).toNat * 2 ^ b = 2 ^ c * 2 ^ y := by rw [← Nat.pow_add, ← Nat.pow_add]; congr 1; omega
    have x2 : 10 ^ (q + 1000).toNat * 10 ^ a = 10 ^ d * 10 ^ z := by rw [← Nat.pow_add, ← Nat.pow_add]; congr 1; omega
    clear hy hz
    generalize 2 ^ y = Y at *
    generalize 10 ^ z = Z at *
    calc M * 2 ^ (E + 1200).toNat * 10 ^ (q + 1000).toNat * (10 ^ a * 2 ^ b) = M * (2 ^ (E + 1200).toNat * 2 ^ b) * (10 ^ (q + 1000).toNat * 10 ^ a) := by ac_rfl
      _ = M * (2 ^ c * Y) * (10 ^ d * Z) := by rw [x1, x2]
      _ = M * 2 ^ c * 10 ^ d * (1 * Y * Z) := by rw [Nat.one_mul]; ac_rfl
  have hC := VC_pos
  clear ha hb hc hd hpw hE0 hq0
  obtain ⟨V, hV⟩ : ∃ V, V = VN M E q := ⟨_, rfl⟩
  obtain ⟨C, hCC⟩ : ∃ C, C = VC := ⟨_, rfl⟩
  obtain ⟨B, hB⟩ : ∃ B, B = M * 2 ^ c * 10 ^ d := ⟨_, rfl⟩
  obtain ⟨U, hU⟩ : ∃ U, U = 10 ^ a * 2 ^ b := ⟨_, rfl⟩
  rw [← hV, ← hCC] at h1 h2
  rw [← hV, ← hCC, ← hB, ← hU] at e1
  rw [← hCC] at hC
  rw [Nat.mul_assoc, ← hU, ← hB]
  clear hV hCC hB hU
  have g1 := Nat.mul_le_mul_right U h1
  have g2 := Nat.mul_le_mul_right U h2
  rw [Nat.add_mul, Nat.mul_assoc, e1, Nat.mul_assoc, Nat.mul_assoc] at g1
  rw [Nat.add_mul, Nat.mul_assoc, Nat.mul_assoc, Nat.mul_assoc, e1] at g2
  have k1 : 2 * B ≤ 2 * (R * U) + U := by
    refine Nat.le_of_mul_le_mul_right (c := C) ?_ hC
    rw [Nat.add_mul, Nat.mul_assoc, Nat.mul_assoc, Nat.mul_assoc]
    rw [Nat.mul_comm C U] at g1
    exact g1
  have k2 : 2 * (R * U) ≤ 2 * B + U := by
    refine Nat.le_of_mul_le_mul_right (c := C) ?_ hC
    rw [Nat.add_mul, Nat.mul_assoc, Nat.mul_assoc, Nat.mul_assoc]
    rw [Nat.mul_comm C U] at g2
    exact g2
  unfold nearB
  generalize R * U = D at *
  have : ¬ U < (D - B + (B - D)) * 2 + 0 := by omega
  simp only [this, decide_false, Bool.not_false]

end Go.Proofs.YthfjpofbaeeafaaDoor
