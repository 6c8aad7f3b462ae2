/-
  A float32 as a float64, and back: nothing is lost.
-/
import Derived.Test.YthfjpofbaeeafaaDoorTabs
namespace Go.Proofs.YthfjpofbaeeafaaDoor
open Go.RowKit Ieee

theorem cut_exact (neg : Bool) (m k : Nat) (hm : 0 < m) : Toward.even.cut neg (m * 2 ^ k) k = m := by
  have hlog : k ≤ (m * 2 ^ k).log2 := by
    rw [Nat.le_log2 (by have := Nat.two_pow_pos k; exact Nat.ne_of_gt (Nat.mul_pos hm this))]
    exact Nat.le_mul_of_pos_left _ hm
  have hgap : 1 <<< min k ((m * 2 ^ k).log2 + 2) = 2 ^ k := by
    rw [Nat.min_eq_left (by omega), Nat.one_shiftLeft]
  have hp := Nat.two_pow_pos k
  unfold Toward.cut
  simp only [hgap]
  rw [Nat.mul_div_cancel _ hp, Nat.mul_mod_left]
  have h1 : decide (2 ^ k < 2 * 0) = false := by simp
  have h2 : (2 ^ k == 2 * 0) = false := by simp
  rw [h1, h2]
  rfl

theorem cut_zero (neg : Bool) (m : Nat) : Toward.even.cut neg m 0 = m := by
  unfold Toward.cut
  simp [Nat.mod_one]

/-- The double of a single's number. -/
theorem double_of (neg : Bool) (mag : Nat) (place : Int) (hm : 0 < mag) (hm24 : mag < 2 ^ 24) (hp0 : -149 ≤ place) (hp1 : place ≤ 104) :
    double.nearest neg mag place = double.word neg ((place + mag.log2 - 52 + 1074).toNat * 2 ^ 52 + mag * 2 ^ (52 - mag.log2)) := by
  have hl : mag.log2 ≤ 23 := by
    have := (Nat.log2_lt (by omega : mag ≠ 0)).2 hm24
    omega
  have hmax : max (place + mag.log2 - double.fractionBits) double.leastPlace = place + mag.log2 - 52 := by
    have h1 : double.leastPlace = -1074 := by decide
    have h2 : (double.fractionBits : Int) = 52 := by decide
    rw [h1, h2]; omega
  unfold Format.nearest
  rw [if_neg (by omega), hmax]
  have h1 : (place - (place + mag.log2 - 52)).toNat = 52 - mag.log2 := by omega
  have h2 : (place + mag.log2 - 52 - place).toNat = 0 := by omega
  have h3 : double.leastPlace = -1074 := by decide
  have h4 : double.binade = 2 ^ 52 := by decide
  have h5 : double.infRung = 2047 * 2 ^ 52 := by decide
  dsimp only
  rw [h1, h2, h3, h4, h5, cut_zero, Nat.shiftLeft_eq]
  have hk : mag * 2 ^ (52 - mag.log2) < 2 ^ 53 := by
    have := Nat.lt_log2_self (n := mag)
    have e : 2 ^ 53 = 2 ^ (mag.log2 + 1) * 2 ^ (52 - mag.log2) := by rw [← Nat.pow_add]; congr 1; omega
    rw [e]
    exact Nat.mul_lt_mul_of_pos_right this (Nat.two_pow_pos _)
  congr 1
  rw [show (place + ↑mag.log2 - 52 - -1074).toNat = (place + ↑mag.log2 - 52 + 1074).toNat by omega]
  apply Nat.min_eq_left
  have : (place + ↑mag.log2 - 52 + 1074).toNat ≤ 1200 := by omega
  omega

/-- What such a double reads as. -/
theorem double_read (neg : Bool) (e k : Nat) (he : e < 2000) (hk1 : 2 ^ 52 ≤ k) (hk2 : k < 2 ^ 53) : double.read (double.word neg (e * 2 ^ 52 + k)) = .number neg k ((e : Int) - 1074) := by
  have hs : double.signWeight = 2 ^ 63 := by decide
  have hb : double.binade = 2 ^ 52 := by decide
  have hi : double.infRung = 2047 * 2 ^ 52 := by decide
  have hlp : double.leastPlace = -1074 := by decide
  have hr : e * 2 ^ 52 + k < 2 ^ 63 := by omega
  have hm : double.word neg (e * 2 ^ 52 + k) % 2 ^ 63 = e * 2 ^ 52 + k := by
    unfold Format.word
    rw [hs]
    cases neg
    · simp only [Bool.false_eq_true, if_false]; omega
    · simp only [if_true]; omega
  have hn : (double.word neg (e * 2 ^ 52 + k) / 2 ^ 63 % 2 == 1) = neg := by
    unfold Format.word
    rw [hs]
    cases neg
    · simp only [Bool.false_eq_true, if_false]
      rw [show (e * 2 ^ 52 + k) / 2 ^ 63 = 0 by omega]; rfl
    · simp only [if_true]
      rw [show (2 ^ 63 + (e * 2 ^ 52 + k)) / 2 ^ 63 = 1 by omega]; rfl
  unfold Format.read
  dsimp only
  rw [hs, hm, hn, hb, hi, hlp, if_neg (by omega), if_pos (by omega)]
  have h1 : (e * 2 ^ 52 + k) % 2 ^ 52 = k - 2 ^ 52 := by omega
  have h2 : (e * 2 ^ 52 + k) / 2 ^ 52 = e + 1 := by omega
  have h3 : 2 ^ 52 + (k - 2 ^ 52) = k := by omega
  have h4 : ((-1074 : Int) + ((e + 1 - 1 : Nat) : Int)) = (e : Int) - 1074 := by omega
  rw [h1, h2, h3, h4]

/-- The single nearest to such a number is the one that it came from. -/
theorem single_back (neg : Bool) (mag : Nat) (place : Int) (hm : 0 < mag) (hm24 : mag < 2 ^ 24) (hp0 : -149 ≤ place) (hp1 : place ≤ 104) (hn : 2 ^ 23 ≤ mag ∨ place = -149) :
    single.nearest neg (mag * 2 ^ (52 - mag.log2)) (place + mag.log2 - 52) = single.word neg ((place + 149).toNat * 2 ^ 23 + mag) := by
  have hl : mag.log2 ≤ 23 := by
    have := (Nat.log2_lt (by omega : mag ≠ 0)).2 hm24
    omega
  have hl2 : mag.log2 = 23 ∨ place = -149 := by
    rcases hn with h | h
    · left
      have := (Nat.le_log2 (by omega : mag ≠ 0)).2 h
      omega
    · exact Or.inr h
  have hlog : (mag * 2 ^ (52 - mag.log2)).log2 = 52 := by
    have h1 := Nat.log2_self_le (by omega : mag ≠ 0)
    have h2 := Nat.lt_log2_self (n := mag)
    have hne : mag * 2 ^ (52 - mag.log2) ≠ 0 := Nat.ne_of_gt (Nat.mul_pos hm (Nat.two_pow_pos _))
    have a : 52 ≤ (mag * 2 ^ (52 - mag.log2)).log2 := by
      rw [Nat.le_log2 hne]
      calc 2 ^ 52 = 2 ^ mag.log2 * 2 ^ (52 - mag.log2) := by rw [← Nat.pow_add]; congr 1; omega
        _ ≤ _ := Nat.mul_le_mul_right _ h1
    have b : (mag * 2 ^ (52 - mag.log2)).log2 < 53 := by
      rw [Nat.log2_lt hne]
      calc _ < 2 ^ (mag.log2 + 1) * 2 ^ (52 - mag.log2) := Nat.mul_lt_mul_of_pos_right h2 (Nat.two_pow_pos _)
        _ = 2 ^ 53 := by rw [← Nat.pow_add]; congr 1; omega
    omega
  have hmax : max (place + mag.log2 - 52 + ((mag * 2 ^ (52 - mag.log2)).log2 : Nat) - single.fractionBits) single.leastPlace = place := by
    have h1 : single.leastPlace = -149 := by decide
    have h2 : (single.fractionBits : Int) = 23 := by decide
    rw [h1, h2, hlog]; omega
  unfold Format.nearest
  rw [if_neg (Nat.ne_of_gt (Nat.mul_pos hm (Nat.two_pow_pos _))), hmax]
  dsimp only
  have h1 : (place + mag.log2 - 52 - place).toNat = 0 := by omega
  have h2 : (place - (place + mag.log2 - 52)).toNat = 52 - mag.log2 := by omega
  have h3 : single.leastPlace = -149 := by decide
  have h4 : single.binade = 2 ^ 23 := by decide
  have h5 : single.infRung = 255 * 2 ^ 23 := by decide
  rw [h1, h2, h3, h4, h5, Nat.shiftLeft_zero, cut_exact neg mag _ hm]
  congr 1
  rw [show (place - -149).toNat = (place + 149).toNat by omega]
  apply Nat.min_eq_left
  omega

/-- The double that holds a single's number. -/
def up32 (n : Nat) : Nat := FloatKind.f64.encode (FloatKind.f32.decode n)

theorem single_read (n : Nat) (hn : n < 4294967296) (hE : n / 2 ^ 23 % 256 ≠ 255) :
    ∃ neg mag place, single.read n = .number neg mag place ∧ n = single.word neg ((place + 149).toNat * 2 ^ 23 + mag) ∧ mag < 2 ^ 24 ∧ -149 ≤ place ∧ place ≤ 104 ∧ (2 ^ 23 ≤ mag ∨ place = -149) := by
  have hs : single.signWeight = 2 ^ 31 := by decide
  have hb : single.binade = 2 ^ 23 := by decide
  have hi : single.infRung = 255 * 2 ^ 23 := by decide
  have hlp : single.leastPlace = -149 := by decide
  have hword : ∀ r, r = n % 2 ^ 31 → n = single.word (n / 2 ^ 31 % 2 == 1) r := by
    rintro r rfl
    unfold Format.word
    rw [hs]
    by_cases h : n / 2 ^ 31 % 2 = 1
    · simp only [h, beq_self_eq_true, if_true]; omega
    · rw [show (n / 2 ^ 31 % 2 == 1) = false by simpa using h]
      simp only [Bool.false_eq_true, if_false]; omega
  unfold Format.read
  dsimp only
  rw [hs, hb, hi, hlp]
  by_cases h : n % 2 ^ 31 < 2 ^ 23
  · rw [if_pos h]
    exact ⟨_, _, _, rfl, hword _ (by simp), by omega, by omega, by omega, Or.inr rfl⟩
  · rw [if_neg h, if_pos (by omega)]
    exact ⟨_, _, _, rfl, hword _ (by omega), by omega, by omega, by omega, Or.inl (by omega)⟩

theorem up32_spec (n : Nat) (hn : n < 4294967296) (hE : n / 2 ^ 23 % 256 ≠ 255) :
    ∃ neg mag place mag' place', single.read n = .number neg mag place ∧ double.read (up32 n) = .number neg mag' place' ∧ single.nearest neg mag' place' = n := by
  obtain ⟨neg, mag, place, h1, h2, h3, h4, h5, h6⟩ := single_read n hn hE
  have hu : up32 n = double.nearest neg mag place := by
    show double.write (single.read n) = _
    rw [h1]; rfl
  rw [hu]
  rcases Nat.eq_zero_or_pos mag with h0 | h0
  · subst h0
    obtain rfl : place = -149 := by rcases h6 with h | h <;> omega
    refine ⟨neg, 0, -149, 0, -1074, h1, ?_, ?_⟩
    · cases neg <;> decide
    · rw [h2]; cases neg <;> decide
  · have hl : mag.log2 ≤ 23 := by
      have := (Nat.log2_lt (by omega : mag ≠ 0)).2 h3
      omega
    have ha := Nat.log2_self_le (by omega : mag ≠ 0)
    have hb := Nat.lt_log2_self (n := mag)
    refine ⟨neg, mag, place, mag * 2 ^ (52 - mag.log2), place + mag.log2 - 52, h1, ?_, ?_⟩
    · rw [double_of neg mag place h0 h3 h4 h5, double_read]
      · congr 1; omega
      · omega
      · calc 2 ^ 52 = 2 ^ mag.log2 * 2 ^ (52 - mag.log2) := by rw [← Nat.pow_add]; congr 1; omega
          _ ≤ _ := Nat.mul_le_mul_right _ ha
      · calc _ < 2 ^ (mag.log2 + 1) * 2 ^ (52 - mag.log2) := Nat.mul_lt_mul_of_pos_right hb (Nat.two_pow_pos _)
          _ = 2 ^ 53 := by rw [← Nat.pow_add]; congr 1; omega
    · rw [single_back neg mag place h0 h3 h4 h5 h6, ← h2]

theorem run_up32 (n : Nat) (hn : n < 4294967296) (hE : n / 2 ^ 23 % 256 ≠ 255) (w : World) : Sem.run Tryd.prog (convert 55 54 (.float .f32 n)) w = .ok (.float .f64 (up32 n)) w := by
  obtain ⟨neg, mag, place, mag', place', h1, h2, h3⟩ := up32_spec n hn hE
  have hd : FloatKind.f32.decode n = .number neg mag place := h1
  have hu : FloatKind.f64.decode (up32 n) = .number neg mag' place' := h2
  have he : FloatKind.f64.encode (.number neg mag place) = up32 n := by unfold up32; rw [hd]
  simp [convert, run_underlying Tryd.underlying55, run_underlying Tryd.underlying54, Conv.floatToFloat, hd, he, hu, Datum.isInfinity]

theorem run_down32 (n : Nat) (hn : n < 4294967296) (hE : n / 2 ^ 23 % 256 ≠ 255) (w : World) : Sem.run Tryd.prog (convert 54 55 (.float .f64 (up32 n))) w = .ok (.float .f32 n) w := by
  obtain ⟨neg, mag, place, mag', place', h1, h2, h3⟩ := up32_spec n hn hE
  have hd : FloatKind.f32.decode n = .number neg mag place := h1
  have hu : FloatKind.f64.decode (up32 n) = .number neg mag' place' := h2
  have he : FloatKind.f32.encode (.number neg mag' place') = n := h3
  simp [convert, run_underlying Tryd.underlying55, run_underlying Tryd.underlying54, Conv.floatToFloat, hd, he, hu, Datum.isInfinity]

end Go.Proofs.YthfjpofbaeeafaaDoor
