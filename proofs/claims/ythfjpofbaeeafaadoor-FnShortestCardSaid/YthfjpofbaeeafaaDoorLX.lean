/-
  The texts of the verbs e and f, read back: plain Lean.
  What is common to the laws on floats with a precision: sizes, the text's shape, what is read back, and that it is near.
-/
import Derived.Test.YthfjpofbaeeafaaDoorRD
import Derived.Test.YthfjpofbaeeafaaDoorGL
import Derived.Test.YthfjpofbaeeafaaDoorDR
import Derived.Test.YthfjpofbaeeafaaDoorFP
import Derived.Test.YthfjpofbaeeafaaDoorEG
namespace Go.Proofs.YthfjpofbaeeafaaDoor
open Go.RowKit

theorem dgt_toNat (u : Nat) (h : u < 10) : (UInt8.ofNat (48 + u)).toNat = 48 + u := by
  rw [UInt8.toNat_ofNat_of_lt' (by show 48 + u < 256; omega)]
/-- Digits only. -/
def isD (l : List UInt8) : Prop := ∀ c ∈ l, 48 ≤ c.toNat ∧ c.toNat ≤ 57
theorem isD.append {a b : List UInt8} (ha : isD a) (hb : isD b) : isD (a ++ b) := fun c hc => by
  rcases List.mem_append.1 hc with h | h
  · exact ha c h
  · exact hb c h
theorem isD.take {a : List UInt8} (ha : isD a) (n : Nat) : isD (a.take n) := fun c hc => ha c (List.mem_of_mem_take hc)
theorem isD.drop {a : List UInt8} (ha : isD a) (n : Nat) : isD (a.drop n) := fun c hc => ha c (List.mem_of_mem_drop hc)
theorem isD_zeros (n : Nat) : isD (List.replicate n 48) := fun c hc => by rw [(List.mem_replicate.1 hc).2]; decide
theorem isD_nil : isD [] := fun c hc => by cases hc
theorem isD_dec (u : Nat) : isD (Lib.decDigits u) := by
  induction u using Nat.strongRecOn with
  | _ u ih =>
    intro c hc
    by_cases h : u < 10
    · rw [Lib.decDigits, dif_pos h] at hc
      simp only [List.mem_singleton] at hc
      rw [hc, dgt_toNat u h]; omega
    · rw [Lib.decDigits, dif_neg h, List.mem_append, List.mem_singleton] at hc
      rcases hc with hc | hc
      · exact ih (u / 10) (by omega) c hc
      · rw [hc, dgt_toNat _ (by omega)]; omega
theorem dv_dec (u : Nat) : decVal (Lib.decDigits u) = u := by
  induction u using Nat.strongRecOn with
  | _ u ih =>
    by_cases h : u < 10
    · rw [Lib.decDigits, dif_pos h]
      have := decVal_snoc [] (UInt8.ofNat (48 + u))
      rw [List.nil_append] at this
      rw [this, dgt_toNat u h]
      simp [decVal]
    · rw [Lib.decDigits, dif_neg h, decVal_snoc, ih (u / 10) (by omega), dgt_toNat _ (by omega)]
      omega
theorem dv_zeros (n : Nat) (l : List UInt8) : decVal (List.replicate n 48 ++ l) = decVal l := by
  induction n with
  | zero => simp
  | succ n ih =>
    rw [List.replicate_succ, List.cons_append]
    unfold decVal at ih ⊢
    rw [List.foldl_cons]
    exact ih
theorem dv_zeros0 (n : Nat) : decVal (List.replicate n 48) = 0 := by
  have := dv_zeros n []
  rw [List.append_nil] at this
  rw [this]; rfl
theorem dv_tail (l : List UInt8) (n : Nat) : decVal (l ++ List.replicate n 48) = decVal l * 10 ^ n := by
  induction n with
  | zero => simp
  | succ n ih =>
    rw [List.replicate_succ', ← List.append_assoc, decVal_snoc, ih, Nat.pow_succ, ← Nat.mul_assoc]
    simp

/-- The digits are those that were left, and noughts. -/
theorem cutD_tail (d : Nat) : ∃ k, Lib.decDigits d = cutD d ++ List.replicate k 48 := by
  unfold cutD strip
  have h : ∀ l : List UInt8, ∃ k, l = List.replicate k 48 ++ l.dropWhile (· == 48) := by
    intro l
    induction l with
    | nil => exact ⟨0, rfl⟩
    | cons c l ih =>
      obtain ⟨k, hk⟩ := ih
      by_cases hc : c = 48
      · subst hc
        refine ⟨k + 1, ?_⟩
        rw [List.dropWhile_cons_of_pos (by decide), List.replicate_succ, List.cons_append, ← hk]
      · refine ⟨0, ?_⟩
        rw [List.dropWhile_cons_of_neg (by simpa using hc)]
        rfl
  obtain ⟨k, hk⟩ := h (Lib.decDigits d).reverse
  refine ⟨k, ?_⟩
  have := congrArg List.reverse hk
  rw [List.reverse_reverse, List.reverse_append, List.reverse_replicate] at this
  exact this

theorem fill_all (n : Nat) (l : List UInt8) (k : Nat) (h : l.length ≤ n) (hn : n ≤ l.length + k) : fill n l = (l ++ List.replicate k 48).take n := by
  unfold fill
  rw [List.take_append, List.take_replicate]
  congr 2
  omega
theorem fill_take (n : Nat) (l : List UInt8) (k : Nat) (hn : n ≤ l.length + k) : fill n l = (l ++ List.replicate k 48).take n := by
  unfold fill
  rw [List.take_append, List.take_replicate]
  congr 2
  omega
theorem fill_isD {l : List UInt8} (h : isD l) (n : Nat) : isD (fill n l) := (h.take n).append (isD_zeros _)
theorem cutD_isD (d : Nat) : isD (cutD d) := fun c hc => by
  obtain ⟨k, hk⟩ := cutD_tail d
  exact isD_dec d c (by rw [hk]; exact List.mem_append_left _ hc)

/-- The verb f: the digits say the rounded number. -/
theorem f_digits (R prec : Nat) (ds : List UInt8) (hds : ds = cutD R) (dp : Int) (hdp : dp = (Lib.nDigits R : Int) - prec) :
    decVal ((if 0 < dp then fill dp.toNat ds else [48]) ++ fill prec (List.replicate (-dp).toNat 48 ++ ds.drop dp.toNat)) = R := by
  obtain ⟨k, hk⟩ := cutD_tail R
  rw [← hds] at hk
  have hn : ds.length + k = Lib.nDigits R := by
    have := congrArg List.length hk
    rw [Lib.decDigits_length, List.length_append, List.length_replicate] at this
    exact this.symm
  by_cases h0 : 0 < dp
  · rw [if_pos h0]
    obtain ⟨P, hP⟩ : ∃ P, P = dp.toNat := ⟨_, rfl⟩
    have hz : (-dp).toNat = 0 := by omega
    rw [hz, ← hP, List.replicate_zero, List.nil_append]
    have hn2 : P + prec = ds.length + k := by omega
    rw [fill_take P ds k (by omega), ← hk]
    have e2 : fill prec (ds.drop P) = (Lib.decDigits R).drop P := by
      by_cases hP2 : P ≤ ds.length
      · rw [fill_take prec (ds.drop P) k (by rw [List.length_drop]; omega), hk, List.drop_append, show P - ds.length = 0 by omega, List.drop_zero, List.take_of_length_le]
        rw [List.length_append, List.length_drop, List.length_replicate]; omega
      · rw [List.drop_of_length_le (by omega), hk, List.drop_append, List.drop_of_length_le (by omega), List.nil_append, List.drop_replicate]
        unfold fill
        rw [List.take_nil, List.nil_append]
        congr 1
        rw [List.length_nil]; omega
    rw [e2, List.take_append_drop, dv_dec]
  · rw [if_neg h0]
    have hz : dp.toNat = 0 := by omega
    obtain ⟨Z, hZ⟩ : ∃ Z, Z = (-dp).toNat := ⟨_, rfl⟩
    rw [hz, ← hZ, List.drop_zero]
    have hn2 : prec = Z + (ds.length + k) := by omega
    rw [fill_take prec _ k (by rw [List.length_append, List.length_replicate]; omega), List.append_assoc, ← hk, List.take_of_length_le (by rw [List.length_append, List.length_replicate, Lib.decDigits_length]; omega)]
    have e : [48] ++ (List.replicate Z 48 ++ Lib.decDigits R) = List.replicate (Z + 1) (48 : UInt8) ++ Lib.decDigits R := by
      rw [List.replicate_succ]; rfl
    rw [e, dv_zeros, dv_dec]

/-- The verb e: prec + 1 digits. -/
theorem e_digits (R prec t : Nat) (ds : List UInt8) (hds : ds = cutD R) (hn : Lib.nDigits R = prec + 1 + t) (h0 : 0 < ds.length) (hl : ds.length ≤ prec + 1) :
    decVal (ds.headD 48 :: fill prec (ds.drop 1)) * 10 ^ t = R := by
  obtain ⟨k, hk⟩ := cutD_tail R
  rw [← hds] at hk
  have hlen : ds.length + k = prec + 1 + t := by
    have := congrArg List.length hk
    rw [Lib.decDigits_length, List.length_append, List.length_replicate] at this
    omega
  have hR : R = decVal ds * 10 ^ k := by
    have := congrArg decVal hk
    rw [dv_dec, dv_tail] at this
    exact this
  clear hds hk
  cases ds with
  | nil => simp at h0
  | cons c l =>
    rw [List.headD_cons, List.drop_succ_cons, List.drop_zero]
    rw [List.length_cons] at hlen hl
    have e : c :: fill prec l = (c :: l) ++ List.replicate (prec - l.length) 48 := by
      unfold fill
      rw [List.take_of_length_le (by omega)]
      rfl
    rw [e, dv_tail, hR, Nat.mul_assoc, ← Nat.pow_add]
    congr 2
    omega

/-- rdF at digits. -/
theorem rdF_digits (l : List UInt8) (hl : isD l) : rdF l = (l, -1) := by
  have h : ∀ (l a : List UInt8), isD l → l.foldl rdStep (a, -1) = (a ++ l, -1) := by
    intro l
    induction l with
    | nil => intro a _; simp
    | cons c l ih =>
      intro a hl
      have hc := hl c (by simp)
      have hne : c ≠ 46 := fun e => by rw [e] at hc; exact absurd hc.1 (by decide)
      rw [List.foldl_cons, rdStep, if_neg hne, if_neg (show ¬ (0 : Int) ≤ -1 by decide), ih _ (fun x hx => hl x (by simp [hx]))]
      simp
  have := h l [] hl
  rwa [List.nil_append] at this
theorem rdF_point (a fr : List UInt8) (ha : isD a) (hf : isD fr) : rdF (a ++ 46 :: fr) = (a ++ fr, (fr.length : Int)) := by
  have h : ∀ (l : List UInt8) (st : List UInt8) (p : Nat), isD l → l.foldl rdStep (st, (p : Int)) = (st ++ l, ((p + l.length : Nat) : Int)) := by
    intro l
    induction l with
    | nil => intro st p _; simp
    | cons c l ih =>
      intro st p hl
      have hc := hl c (by simp)
      have hne : c ≠ 46 := fun e => by rw [e] at hc; exact absurd hc.1 (by decide)
      have e1 : rdStep (st, (p : Int)) c = (st ++ [c], ((p + 1 : Nat) : Int)) := by
        rw [rdStep, if_neg hne, if_pos (by show (0 : Int) ≤ (p : Int); omega)]
        simp
      rw [List.foldl_cons, e1, ih _ _ (fun x hx => hl x (by simp [hx]))]
      rw [List.append_assoc, List.length_cons, show p + 1 + l.length = p + (l.length + 1) by omega]
      rfl
  have e0 : rdF (a ++ 46 :: fr) = fr.foldl rdStep (rdStep (rdF a) 46) := by simp [rdF]
  rw [e0, rdF_digits a ha, rdStep, if_pos rfl]
  have := h fr a 0 hf
  rw [Nat.zero_add] at this
  exact this
theorem rdOk_digits (l : List UInt8) (hl : isD l) : rdOk l := fun _ h => Or.inr (hl _ (List.getElem_mem h))
theorem rdOk_point (a fr : List UInt8) (ha : isD a) (hf : isD fr) : rdOk (a ++ 46 :: fr) := fun k h => by
  rcases Nat.lt_trichotomy k a.length with hk | hk | hk
  · right
    rw [List.getElem_append_left hk]
    exact ha _ (List.getElem_mem hk)
  · left
    subst hk
    refine ⟨by simp, ?_⟩
    rw [List.take_append_of_le_length (Nat.le_refl _), List.take_length, rdF_digits a ha]
  · right
    have h2 : k - a.length - 1 < fr.length := by rw [List.length_append, List.length_cons] at h; omega
    have e : (a ++ 46 :: fr)[k] = fr[k - a.length - 1] := by
      rw [List.getElem_append_right (by omega), List.getElem_cons]
      rw [dif_neg (by omega)]
    rw [e]
    exact hf _ (List.getElem_mem h2)

/-- Digits ahead of a point and behind it. -/
def mantOf (a : List UInt8) (p : Bool) (fr : List UInt8) : List UInt8 := if p then a ++ 46 :: fr else a
theorem mantOf_rdF (a fr : List UInt8) (p : Bool) (ha : isD a) (hf : isD fr) (hp : p = false → fr = []) : rdF (mantOf a p fr) = (a ++ fr, if p then (fr.length : Int) else -1) := by
  cases p
  · rw [hp rfl, List.append_nil]; exact rdF_digits a ha
  · exact rdF_point a fr ha hf
theorem mantOf_ok (a fr : List UInt8) (p : Bool) (ha : isD a) (hf : isD fr) : rdOk (mantOf a p fr) := by
  cases p
  · exact rdOk_digits a ha
  · exact rdOk_point a fr ha hf
theorem mantOf_head (a fr : List UInt8) (p : Bool) (ha : isD a) (h0 : 0 < a.length) : mantOf a p fr ≠ [] ∧ ∀ h : 0 < (mantOf a p fr).length, (mantOf a p fr)[0] ≠ 45 ∧ (mantOf a p fr)[0] ≠ 43 ∧ (mantOf a p fr)[0] ≠ 32 := by
  cases a with
  | nil => simp at h0
  | cons c l =>
    have hc := ha c (by simp)
    have hx : c ≠ 45 ∧ c ≠ 43 ∧ c ≠ 32 := by
      refine ⟨fun e => ?_, fun e => ?_, fun e => ?_⟩ <;> (rw [e] at hc; exact absurd hc.1 (by decide))
    cases p
    · exact ⟨by simp [mantOf], fun _ => by simpa [mantOf] using hx⟩
    · exact ⟨by simp [mantOf], fun _ => by simpa [mantOf] using hx⟩

/-- What is rounded to q digits is near enough to a unit of the last place. -/
theorem near_law (R M : Nat) (E q pw : Int) (hpw : pw = -q) (hE0 : -1200 ≤ E) (hq0 : -1000 ≤ q) (h1 : 2 * VN M E q ≤ 2 * (R * VC) + VC) (h2 : 2 * (R * VC) ≤ 2 * VN M E q + VC) :
    nearB (R * 10 ^ pw.toNat * 2 ^ (-E).toNat) (M * 2 ^ E.toNat * 10 ^ (-pw).toNat) (10 ^ pw.toNat * 2 ^ (-E).toNat) = true := by
  obtain ⟨a, ha⟩ : ∃ a, a = pw.toNat := ⟨_, rfl⟩
  obtain ⟨b, hb⟩ : ∃ b, b = (-E).toNat := ⟨_, rfl⟩
  obtain ⟨c, hc⟩ : ∃ c, c = E.toNat := ⟨_, rfl⟩
  obtain ⟨d, hd⟩ : ∃ d, d = (-pw).toNat := ⟨_, rfl⟩
  rw [← ha, ← hb, ← hc, ← hd]
  have e1 : VN M E q * (10 ^ a * 2 ^ b) = M * 2 ^ c * 10 ^ d * VC := by
    unfold VC VN
    obtain ⟨y, hy⟩ : ∃ y, y = ((0 : Int) + 1200).toNat := ⟨_, rfl⟩
    obtain ⟨z, hz⟩ : ∃ z, z = ((0 : Int) + 1000).toNat := ⟨_, rfl⟩
    rw [← hy, ← hz]
    have x1 : 2 ^ (E + 1200).toNat * 2 ^ b = 2 ^ c * 2 ^ y := by rw [← Nat.pow_add, ← Nat.pow_add]; congr 1; omega
    have x2 : 10 ^ (q + 1000).toNat * 10 ^ a = 10 ^ d * 10 ^ z := by rw [← Nat.pow_add, ← Nat.pow_add]; congr 1; omega
    clear hy hz
    generalize 2 ^ y = Y at *
    generalize 10 ^ z = Z at *
    calc M * 2 ^ (E + 1200).toNat * 10 ^ (q + 1000).toNat * (10 ^ a * 2 ^ b) = M * (2 ^ (E + 1200).toNat * 2 ^ b) * (10 ^ (q + 1000).toNat * 10 ^ a) := by ac_rfl
      _ = M * (2 ^ c * Y) * (10 ^ d * Z) := by rw [x1, x2]
      _ = M * 2 ^ c * 10 ^ d * (1 * Y * Z) := by rw [Nat.one_mul]; ac_rfl
  have hC := VC_pos
  clear ha hb hc hd hpw hE0 hq0
  obtain ⟨V, hV⟩ : ∃ V, V = VN M E q := ⟨_, rfl⟩
  obtain ⟨C, hCC⟩ : ∃ C, C = VC := ⟨_, rfl⟩
  obtain ⟨B, hB⟩ : ∃ B, B = M * 2 ^ c * 10 ^ d := ⟨_, rfl⟩
  obtain ⟨U, hU⟩ : ∃ U, U = 10 ^ a * 2 ^ b := ⟨_, rfl⟩
  rw [← hV, ← hCC] at h1 h2
  rw [← hV, ← hCC, ← hB, ← hU] at e1
  rw [← hCC] at hC
  rw [Nat.mul_assoc, ← hU, ← hB]
  clear hV hCC hB hU
  have g1 := Nat.mul_le_mul_right U h1
  have g2 := Nat.mul_le_mul_right U h2
  rw [Nat.add_mul, Nat.mul_assoc, e1, Nat.mul_assoc, Nat.mul_assoc] at g1
  rw [Nat.add_mul, Nat.mul_assoc, Nat.mul_assoc, Nat.mul_assoc, e1] at g2
  have k1 : 2 * B ≤ 2 * (R * U) + U := by
    refine Nat.le_of_mul_le_mul_right (c := C) ?_ hC
    rw [Nat.add_mul, Nat.mul_assoc, Nat.mul_assoc, Nat.mul_assoc]
    rw [Nat.mul_comm C U] at g1
    exact g1
  have k2 : 2 * (R * U) ≤ 2 * B + U := by
    refine Nat.le_of_mul_le_mul_right (c := C) ?_ hC
    rw [Nat.add_mul, Nat.mul_assoc, Nat.mul_assoc, Nat.mul_assoc]
    rw [Nat.mul_comm C U] at g2
    exact g2
  unfold nearB
  generalize R * U = D at *
  have : ¬ U < (D - B + (B - D)) * 2 + 0 := by omega
  simp only [this, decide_false, Bool.not_false]


theorem low_lt (wide : Bool) (bits : Nat) : fLow wide bits < 2 ^ 53 := by
  unfold fLow fFrac
  cases wide
  · simp only [Bool.false_eq_true, if_false]
    split <;> omega
  · simp only [if_true]
    split <;> omega
theorem pow_lt (wide : Bool) (bits : Nat) : -1074 ≤ fPow wide bits ∧ fPow wide bits ≤ 972 := by
  unfold fPow fExp
  cases wide
  · simp only [Bool.false_eq_true, if_false]
    split <;> omega
  · simp only [if_true]
    split <;> omega
theorem size_list (l : List UInt8) : (⟨l.toArray⟩ : ByteArray).size = l.length := by
  show l.toArray.size = _
  simp
theorem sgn_len (neg : Bool) : (sgn neg).length ≤ 1 := by cases neg <;> decide
theorem numText_sgn (neg : Bool) (a r : List UInt8) (ha : isD a) (h0 : 0 < a.length) : NumText (sgn neg ++ (a ++ r)) := by
  cases a with
  | nil => simp at h0
  | cons d ds =>
    have h := ha d (by simp)
    cases neg
    · exact .inl ⟨d, ds ++ r, rfl, h.1, by omega⟩
    · exact .inr ⟨d, ds ++ r, rfl, h.1, by omega⟩

/-- The rounded number. -/
def rnd (M : Nat) (E q : Int) : Nat := rh (VN M E q) VC
theorem rnd_zero (E q : Int) : rnd 0 E q = 0 := by
  unfold rnd VN
  rw [Nat.zero_mul, Nat.zero_mul]
  have := rh_le (a := 0) (N := 0) VC_pos (Nat.zero_le _)
  omega
theorem pt_zero (q : Int) : pt 0 q = 0 := if_pos rfl
theorem rTxt_eq (txt : Bool → List UInt8 → Int → List UInt8) (neg : Bool) (M : Nat) (E q : Int) : rTxt txt neg M E q = txt neg (cutD (rnd M E q)) (pt (rnd M E q) q) := by
  unfold rTxt
  by_cases h : M = 0
  · rw [if_pos h, h, rnd_zero, cutD_zero, pt_zero]
  · rw [if_neg h]; rfl
theorem rnd_near (M : Nat) (E q : Int) : 2 * VN M E q ≤ 2 * (rnd M E q * VC) + VC ∧ 2 * (rnd M E q * VC) ≤ 2 * VN M E q + VC := rh_near _ _ VC_pos
theorem rnd_up (M : Nat) (E K q : Int) (n : Nat) (hK : Dec M E K) (h0 : -900 ≤ K) (h1 : K ≤ 900) (hn : 1 ≤ n) (hq0 : -1000 ≤ q) (hq : q ≤ n - K) : rnd M E q ≤ 10 ^ n := by
  refine rh_le VC_pos ?_
  rw [Nat.mul_comm]
  exact Nat.le_trans (VN_up M E hq0 hq) (Nat.le_of_lt (dec_digits hK h0 h1 n hn).2)
theorem nDigits_le (n : Nat) : ∀ u, u < 10 ^ n → 1 ≤ n → Lib.nDigits u ≤ n := by
  induction n with
  | zero => intro u _ h; omega
  | succ n ih =>
    intro u hu _
    by_cases h : u < 10
    · rw [Lib.nDigits_small h]; omega
    · rw [Lib.nDigits_big h]
      have h1 : u / 10 < 10 ^ n := by rw [Nat.pow_succ] at hu; omega
      have hn : 1 ≤ n := by
        rcases Nat.eq_zero_or_pos n with h2 | h2
        · subst h2; simp at hu; omega
        · exact h2
      have := ih (u / 10) h1 hn
      omega
theorem nDigits_le' (n u : Nat) (h : u ≤ 10 ^ n) : Lib.nDigits u ≤ n + 1 :=
  nDigits_le (n + 1) u (Nat.lt_of_le_of_lt h (Nat.pow_lt_pow_right (by decide) (by omega))) (by omega)

/-- The parts of the text of the verb f. -/
def fA (R : Nat) (dp : Int) : List UInt8 := if 0 < dp then fill dp.toNat (cutD R) else [48]
def fB (R prec : Nat) (dp : Int) : List UInt8 := if prec = 0 then [] else fill prec (List.replicate (-dp).toNat 48 ++ (cutD R).drop dp.toNat)
theorem fText_eq (neg : Bool) (R prec : Nat) (dp : Int) : fText neg (cutD R) dp prec = sgn neg ++ (mantOf (fA R dp) (decide (prec ≠ 0)) (fB R prec dp) ++ []) := by
  unfold fText mantOf fA fB fracE
  by_cases h : prec = 0
  · simp [h]
  · simp [h]
theorem fA_isD (R : Nat) (dp : Int) : isD (fA R dp) := by
  unfold fA
  split
  · exact fill_isD (cutD_isD R) _
  · exact fun c hc => by rw [List.mem_singleton.1 hc]; decide
theorem fB_isD (R prec : Nat) (dp : Int) : isD (fB R prec dp) := by
  unfold fB
  split
  · exact isD_nil
  · exact fill_isD ((isD_zeros _).append ((cutD_isD R).drop _)) _
theorem fA_len (R : Nat) (dp : Int) : (fA R dp).length = if 0 < dp then dp.toNat else 1 := by
  unfold fA
  split
  · exact fill_length _ _
  · rfl
theorem fB_len (R prec : Nat) (dp : Int) : (fB R prec dp).length = prec := by
  unfold fB
  split
  · rename_i h; rw [h]; rfl
  · exact fill_length _ _
theorem fAB_val (R prec : Nat) : decVal (fA R (pt R prec) ++ fB R prec (pt R prec)) = R := by
  by_cases hR : R = 0
  · subst hR
    rw [pt_zero]
    unfold fA fB
    rw [if_neg (by decide), cutD_zero]
    split
    · rfl
    · show decVal ([48] ++ fill prec (List.replicate 0 48 ++ [])) = 0
      unfold fill
      rw [List.replicate_zero, List.nil_append, List.take_nil, List.nil_append]
      have := dv_zeros0 (prec + 1)
      rw [List.replicate_succ] at this
      rw [List.length_nil, Nat.sub_zero]
      exact this
  · have h := f_digits R prec (cutD R) rfl (pt R prec) (by unfold pt; rw [if_neg hR])
    unfold fA fB
    by_cases hp : prec = 0
    · rw [if_pos hp]
      subst hp
      have e : fill 0 (List.replicate (-(pt R ((0 : Nat) : Int))).toNat 48 ++ (cutD R).drop (pt R ((0 : Nat) : Int)).toNat) = [] := by
        unfold fill; simp
      rw [e] at h
      exact h
    · rw [if_neg hp]
      exact h

/-- What Decimal says of the text of the verb f, and that it is near. -/
theorem f_all (neg : Bool) (M : Nat) (E : Int) (prec : Nat) (hM : M < 2 ^ 53) (hE0 : -1074 ≤ E) (hE1 : E ≤ 972) (hp : prec ≤ 100) :
    ∃ (a fr : List UInt8), rTxt (fun neg ds dp => fText neg ds dp prec) neg M E prec = sgn neg ++ (mantOf a (decide (prec ≠ 0)) fr ++ []) ∧ isD a ∧ isD fr ∧ 0 < a.length ∧ a.length ≤ 400 ∧ fr.length = prec ∧
      nearB (decVal (a ++ fr) * 10 ^ (-(prec : Int)).toNat * 2 ^ (-E).toNat) (M * 2 ^ E.toNat * 10 ^ (-(-(prec : Int))).toNat) (10 ^ (-(prec : Int)).toNat * 2 ^ (-E).toNat) = true := by
  obtain ⟨R, hR⟩ : ∃ R, R = rnd M E prec := ⟨_, rfl⟩
  have hpt : pt R prec ≤ 322 := by
    by_cases h0 : M = 0
    · rw [hR, h0, rnd_zero, pt_zero]; decide
    · obtain ⟨K, hK, hK0, hK1⟩ := exists_dec M E (by omega) hM hE0 hE1
      have h1 := rnd_up M E K prec (prec + 320) hK (by omega) (by omega) (by omega) (by omega) (by omega)
      rw [← hR] at h1
      have h2 := nDigits_le' _ _ h1
      unfold pt
      split <;> omega
  refine ⟨fA R (pt R prec), fB R prec (pt R prec), ?_, fA_isD _ _, fB_isD _ _ _, ?_, ?_, fB_len _ _ _, ?_⟩
  · rw [rTxt_eq, ← hR]
    exact fText_eq neg R prec _
  · rw [fA_len]; split <;> omega
  · rw [fA_len]; split <;> omega
  · rw [fAB_val]
    obtain ⟨n1, n2⟩ := rnd_near M E prec
    rw [← hR] at n1 n2
    exact near_law R M E prec (-(prec : Int)) rfl (by omega) (by omega) n1 n2

/-- A size for the decimal's head. -/
theorem dec_any (wide : Bool) (bits : Nat) : ∃ K, (fLow wide bits ≠ 0 → Dec (fLow wide bits) (fPow wide bits) K) ∧ -400 ≤ K ∧ K ≤ 400 := by
  by_cases h : fLow wide bits = 0
  · exact ⟨0, fun h2 => (h2 h).elim, by omega, by omega⟩
  · obtain ⟨K, hK, h0, h1⟩ := exists_dec (fLow wide bits) (fPow wide bits) (by omega) (low_lt wide bits) (pow_lt wide bits).1 (pow_lt wide bits).2
    exact ⟨K, fun _ => hK, by omega, by omega⟩

/-- The verb. -/
def exV (upper : Bool) : UInt8 := if upper then 69 else 101
/-- The exponent: its digits. -/
def expD (e : Int) : List UInt8 := if e.natAbs < 10 then [48, dch e.natAbs] else if e.natAbs < 100 then [dch (e.natAbs / 10), dch (e.natAbs % 10)] else [dch (e.natAbs / 100), dch (e.natAbs / 10 % 10), dch (e.natAbs % 10)]
theorem dch_toNat (u : Nat) (h : u < 10) : (dch u).toNat = 48 + u := dgt_toNat u h
theorem dv1 (a : UInt8) : decVal [a] = a.toNat - 48 := by
  have := decVal_snoc [] a
  rw [List.nil_append] at this
  rw [this]; simp [decVal]
theorem dv2 (a b : UInt8) : decVal [a, b] = (a.toNat - 48) * 10 + (b.toNat - 48) := by
  have := decVal_snoc [a] b
  rw [dv1] at this
  exact this
theorem dv3 (a b c : UInt8) : decVal [a, b, c] = ((a.toNat - 48) * 10 + (b.toNat - 48)) * 10 + (c.toNat - 48) := by
  have := decVal_snoc [a, b] c
  rw [dv2] at this
  exact this
theorem expD_all (e : Int) (h : e.natAbs < 1000) : isD (expD e) ∧ 2 ≤ (expD e).length ∧ (expD e).length ≤ 3 ∧ decVal (expD e) = e.natAbs := by
  obtain ⟨n, hn⟩ : ∃ n, n = e.natAbs := ⟨_, rfl⟩
  unfold expD
  rw [← hn] at h ⊢
  have hz : (48 : UInt8).toNat = 48 := rfl
  by_cases h1 : n < 10
  · rw [if_pos h1]
    have q1 := dch_toNat n h1
    refine ⟨fun c hc => ?_, by simp, by simp, ?_⟩
    · simp only [List.mem_cons, List.not_mem_nil, or_false] at hc
      rcases hc with rfl | rfl <;> omega
    · rw [dv2, q1, hz]; omega
  · rw [if_neg h1]
    by_cases h2 : n < 100
    · rw [if_pos h2]
      have q1 := dch_toNat (n / 10) (by omega)
      have q2 := dch_toNat (n % 10) (by omega)
      refine ⟨fun c hc => ?_, by simp, by simp, ?_⟩
      · simp only [List.mem_cons, List.not_mem_nil, or_false] at hc
        rcases hc with rfl | rfl <;> omega
      · rw [dv2, q1, q2]; omega
    · rw [if_neg h2]
      have q1 := dch_toNat (n / 100) (by omega)
      have q2 := dch_toNat (n / 10 % 10) (by omega)
      have q3 := dch_toNat (n % 10) (by omega)
      refine ⟨fun c hc => ?_, by simp, by simp, ?_⟩
      · simp only [List.mem_cons, List.not_mem_nil, or_false] at hc
        rcases hc with rfl | rfl | rfl <;> omega
      · rw [dv3, q1, q2, q3]; omega

/-- A number's first digit. -/
theorem dec_head (u : Nat) (h : 0 < u) : ∃ c l, Lib.decDigits u = c :: l ∧ c ≠ 48 := by
  induction u using Nat.strongRecOn with
  | _ u ih =>
    by_cases h9 : u < 10
    · rw [Lib.decDigits_one h9]
      refine ⟨_, _, rfl, fun e => ?_⟩
      have := dgt_toNat u h9
      rw [e] at this
      have hz : (48 : UInt8).toNat = 48 := rfl
      omega
    · obtain ⟨c, l, hl, hc⟩ := ih (u / 10) (by omega) (by omega)
      rw [Lib.decDigits, dif_neg h9, hl]
      exact ⟨c, _, rfl, hc⟩
theorem cutD_head (u : Nat) (h : 0 < u) : ∃ c l, cutD u = c :: l ∧ c ≠ 48 := by
  obtain ⟨k, hk⟩ := cutD_tail u
  obtain ⟨c, l, hl, hc⟩ := dec_head u h
  have hp := cutD_pos u h
  cases hq : cutD u with
  | nil => rw [hq] at hp; simp at hp
  | cons a m =>
    rw [hq, hl] at hk
    injection hk with h1 h2
    exact ⟨a, m, rfl, by rw [← h1]; exact hc⟩

/-- The text of the verb e: sign, a digit, digits behind the point, the exponent. -/
theorem eText_eq (neg : Bool) (V : UInt8) (ds : List UInt8) (dp : Int) (prec : Nat) :
    eText neg V ds dp prec = sgn neg ++ (mantOf [ds.headD 48] (decide (prec ≠ 0)) (if prec = 0 then [] else fill prec (ds.drop 1)) ++ (V :: (if (if ds.length = 0 then (0 : Int) else dp - 1) < 0 then 45 else 43) :: expD (if ds.length = 0 then 0 else dp - 1))) := by
  unfold eText mantOf fracE expE expD
  by_cases h : prec = 0
  · simp [h]
  · simp [h]

theorem nDigits_ge (n : Nat) : ∀ u, 10 ^ n ≤ u → n + 1 ≤ Lib.nDigits u := by
  induction n with
  | zero => intro u hu; have := Lib.nDigits_pos u; omega
  | succ n ih =>
    intro u hu
    have h1 : 0 < 10 ^ n := Nat.pow_pos (by decide)
    rw [Nat.pow_succ] at hu
    rw [Lib.nDigits_big (by omega)]
    have := ih (u / 10) (by omega)
    omega

theorem cutD_pow (n : Nat) : cutD (10 ^ n) = [49] := by
  induction n with
  | zero => decide +kernel
  | succ n ih => rw [Nat.pow_succ, cutD_ten _ (Nat.pow_pos (by decide)), ih]
theorem cutD_le (u : Nat) : (cutD u).length ≤ Lib.nDigits u := by
  obtain ⟨k, hk⟩ := cutD_tail u
  have := congrArg List.length hk
  rw [Lib.decDigits_length, List.length_append] at this
  omega


set_option maxRecDepth 100000 in
set_option maxHeartbeats 1000000 in
theorem below_any (p m : Int) (hm0 : 0 < m) (hm1 : m ≤ 1000) (w : World) :
    Calls Tryd.prog 12 #[.int .i64 p, .int .i64 m] w fun e w' => (∃ v : Nat, e = .returned (.int .i64 v) ∧ (v : Int) < m) ∧ w = w' := by
  have h1 : p.tmod m < m := Int.tmod_lt_of_pos p hm0
  have h2 : -m < p.tmod m := by
    have := Int.lt_tmod_of_pos p hm0
    exact this
  have hmz : ¬ m = 0 := by omega
  obtain ⟨t, ht⟩ : ∃ t, p.tmod m = t := ⟨_, rfl⟩
  rw [ht] at h1 h2
  by_cases h0 : t < 0
  · go_enter Tryd.func12, Tryd.ntmps12
    go_wp2_with fail
    refine bodyPost_ret (v := .int .i64 (t + m)) (by simp [results, Tryd.results12, go_sem]) rfl ⟨⟨(t + m).toNat, ?_, ?_⟩, rfl⟩
    · rw [Int.toNat_of_nonneg (by omega)]
    · omega
  · go_enter Tryd.func12, Tryd.ntmps12
    go_wp2_with fail
    refine bodyPost_ret (v := .int .i64 t) (by simp [results, Tryd.results12, go_sem]) rfl ⟨⟨t.toNat, ?_, ?_⟩, rfl⟩
    · rw [Int.toNat_of_nonneg (by omega)]
    · omega


end Go.Proofs.YthfjpofbaeeafaaDoor
