/-
  A float32 as a float64, and back: nothing is lost.
  spec.FloatOf: the binary number of some bits, case by case.
  laws.number: the binary number of some bits, as data.
-/
import Derived.Test.YthfjpofbaeeafaaDoorTabs
import Derived.RegionTactic
import Derived.ChangeAlike
import Derived.Laws.FloatBits
namespace Go.Proofs.YthfjpofbaeeafaaDoor
open Go.RowKit Ieee

theorem cut_exact (neg : Bool) (m k : Nat) (hm : 0 < m) : Toward.even.cut neg (m * 2 ^ k) k = m := by
  have hlog : k ≤ (m * 2 ^ k).log2 := by
    rw [Nat.le_log2 (by have := Nat.two_pow_pos k; exact Nat.ne_of_gt (Nat.mul_pos hm this))]
    exact Nat.le_mul_of_pos_left _ hm
  have hgap : 1 <<< min k ((m * 2 ^ k).log2 + 2) = 2 ^ k := by
    rw [Nat.min_eq_left (by omega), Nat.one_shiftLeft]
  have hp := Nat.two_pow_pos k
  unfold Toward.cut
  simp only [hgap]
  rw [Nat.mul_div_cancel _ hp, Nat.mul_mod_left]
  have h1 : decide (2 ^ k < 2 * 0) = false := by simp
  have h2 : (2 ^ k == 2 * 0) = false := by simp
  rw [h1, h2]
  rfl

theorem cut_zero (neg : Bool) (m : Nat) : Toward.even.cut neg m 0 = m := by
  unfold Toward.cut
  simp [Nat.mod_one]

/-- The double of a single's number. -/
theorem double_of (neg : Bool) (mag : Nat) (place : Int) (hm : 0 < mag) (hm24 : mag < 2 ^ 24) (hp0 : -149 ≤ place) (hp1 : place ≤ 104) :
    double.nearest neg mag place = double.word neg ((place + mag.log2 - 52 + 1074).toNat * 2 ^ 52 + mag * 2 ^ (52 - mag.log2)) := by
  have hl : mag.log2 ≤ 23 := by
    have := (Nat.log2_lt (by omega : mag ≠ 0)).2 hm24
    omega
  have hmax : max (place + mag.log2 - double.fractionBits) double.leastPlace = place + mag.log2 - 52 := by
    have h1 : double.leastPlace = -1074 := by decide
    have h2 : (double.fractionBits : Int) = 52 := by decide
    rw [h1, h2]; omega
  unfold Format.nearest
  rw [if_neg (by omega), hmax]
  have h1 : (place - (place + mag.log2 - 52)).toNat = 52 - mag.log2 := by omega
  have h2 : (place + mag.log2 - 52 - place).toNat = 0 := by omega
  have h3 : double.leastPlace = -1074 := by decide
  have h4 : double.binade = 2 ^ 52 := by decide
  have h5 : double.infRung = 2047 * 2 ^ 52 := by decide
  dsimp only
  rw [h1, h2, h3, h4, h5, cut_zero, Nat.shiftLeft_eq]
  have hk : mag * 2 ^ (52 - mag.log2) < 2 ^ 53 := by
    have := Nat.lt_log2_self (n := mag)
    have e : 2 ^ 53 = 2 ^ (mag.log2 + 1) * 2 ^ (52 - mag.log2) := by rw [← Nat.pow_add]; congr 1; omega
    rw [e]
    exact Nat.mul_lt_mul_of_pos_right this (Nat.two_pow_pos _)
  congr 1
  rw [show (place + ↑mag.log2 - 52 - -1074).toNat = (place + ↑mag.log2 - 52 + 1074).toNat by omega]
  apply Nat.min_eq_left
  have : (place + ↑mag.log2 - 52 + 1074).toNat ≤ 1200 := by omega
  omega

/-- What such a double reads as. -/
theorem double_read (neg : Bool) (e k : Nat) (he : e < 2000) (hk1 : 2 ^ 52 ≤ k) (hk2 : k < 2 ^ 53) : double.read (double.word neg (e * 2 ^ 52 + k)) = .number neg k ((e : Int) - 1074) := by
  have hs : double.signWeight = 2 ^ 63 := by decide
  have hb : double.binade = 2 ^ 52 := by decide
  have hi : double.infRung = 2047 * 2 ^ 52 := by decide
  have hlp : double.leastPlace = -1074 := by decide
  have hr : e * 2 ^ 52 + k < 2 ^ 63 := by omega
  have hm : double.word neg (e * 2 ^ 52 + k) % 2 ^ 63 = e * 2 ^ 52 + k := by
    unfold Format.word
    rw [hs]
    cases neg
    · simp only [Bool.false_eq_true, if_false]; omega
    · simp only [if_true]; omega
  have hn : (double.word neg (e * 2 ^ 52 + k) / 2 ^ 63 % 2 == 1) = neg := by
    unfold Format.word
    rw [hs]
    cases neg
    · simp only [Bool.false_eq_true, if_false]
      rw [show (e * 2 ^ 52 + k) / 2 ^ 63 = 0 by omega]; rfl
    · simp only [if_true]
      rw [show (2 ^ 63 + (e * 2 ^ 52 + k)) / 2 ^ 63 = 1 by omega]; rfl
  unfold Format.read
  dsimp only
  rw [hs, hm, hn, hb, hi, hlp, if_neg (by omega), if_pos (by omega)]
  have h1 : (e * 2 ^ 52 + k) % 2 ^ 52 = k - 2 ^ 52 := by omega
  have h2 : (e * 2 ^ 52 + k) / 2 ^ 52 = e + 1 := by omega
  have h3 : 2 ^ 52 + (k - 2 ^ 52) = k := by omega
  have h4 : ((-1074 : Int) + ((e + 1 - 1 : Nat) : Int)) = (e : Int) - 1074 := by omega
  rw [h1, h2, h3, h4]

/-- The single nearest to such a number is the one that it came from. -/
theorem single_back (neg : Bool) (mag : Nat) (place : Int) (hm : 0 < mag) (hm24 : mag < 2 ^ 24) (hp0 : -149 ≤ place) (hp1 : place ≤ 104) (hn : 2 ^ 23 ≤ mag ∨ place = -149) :
    single.nearest neg (mag * 2 ^ (52 - mag.log2)) (place + mag.log2 - 52) = single.word neg ((place + 149).toNat * 2 ^ 23 + mag) := by
  have hl : mag.log2 ≤ 23 := by
    have := (Nat.log2_lt (by omega : mag ≠ 0)).2 hm24
    omega
  have hl2 : mag.log2 = 23 ∨ place = -149 := by
    rcases hn with h | h
    · left
      have := (Nat.le_log2 (by omega : mag ≠ 0)).2 h
      omega
    · exact Or.inr h
  have hlog : (mag * 2 ^ (52 - mag.log2)).log2 = 52 := by
    have h1 := Nat.log2_self_le (by omega : mag ≠ 0)
    have h2 := Nat.lt_log2_self (n := mag)
    have hne : mag * 2 ^ (52 - mag.log2) ≠ 0 := Nat.ne_of_gt (Nat.mul_pos hm (Nat.two_pow_pos _))
    have a : 52 ≤ (mag * 2 ^ (52 - mag.log2)).log2 := by
      rw [Nat.le_log2 hne]
      calc 2 ^ 52 = 2 ^ mag.log2 * 2 ^ (52 - mag.log2) := by rw [← Nat.pow_add]; congr 1; omega
        _ ≤ _ := Nat.mul_le_mul_right _ h1
    have b : (mag * 2 ^ (52 - mag.log2)).log2 < 53 := by
      rw [Nat.log2_lt hne]
      calc _ < 2 ^ (mag.log2 + 1) * 2 ^ (52 - mag.log2) := Nat.mul_lt_mul_of_pos_right h2 (Nat.two_pow_pos _)
        _ = 2 ^ 53 := by rw [← Nat.pow_add]; congr 1; omega
    omega
  have hmax : max (place + mag.log2 - 52 + ((mag * 2 ^ (52 - mag.log2)).log2 : Nat) - single.fractionBits) single.leastPlace = place := by
    have h1 : single.leastPlace = -149 := by decide
    have h2 : (single.fractionBits : Int) = 23 := by decide
    rw [h1, h2, hlog]; omega
  unfold Format.nearest
  rw [if_neg (Nat.ne_of_gt (Nat.mul_pos hm (Nat.two_pow_pos _))), hmax]
  dsimp only
  have h1 : (place + mag.log2 - 52 - place).toNat = 0 := by omega
  have h2 : (place - (place + mag.log2 - 52)).toNat = 52 - mag.log2 := by omega
  have h3 : single.leastPlace = -149 := by decide
  have h4 : single.binade = 2 ^ 23 := by decide
  have h5 : single.infRung = 255 * 2 ^ 23 := by decide
  rw [h1, h2, h3, h4, h5, Nat.shiftLeft_zero, cut_exact neg mag _ hm]
  congr 1
  rw [show (place - -149).toNat = (place + 149).toNat by omega]
  apply Nat.min_eq_left
  omega

/-- The double that holds a single's number. -/
def up32 (n : Nat) : Nat := FloatKind.f64.encode (FloatKind.f32.decode n)

theorem single_read (n : Nat) (hn : n < 4294967296) (hE : n / 2 ^ 23 % 256 ≠ 255) :
    ∃ neg mag place, single.read n = .number neg mag place ∧ n = single.word neg ((place + 149).toNat * 2 ^ 23 + mag) ∧ mag < 2 ^ 24 ∧ -149 ≤ place ∧ place ≤ 104 ∧ (2 ^ 23 ≤ mag ∨ place = -149) := by
  have hs : single.signWeight = 2 ^ 31 := by decide
  have hb : single.binade = 2 ^ 23 := by decide
  have hi : single.infRung = 255 * 2 ^ 23 := by decide
  have hlp : single.leastPlace = -149 := by decide
  have hword : ∀ r, r = n % 2 ^ 31 → n = single.word (n / 2 ^ 31 % 2 == 1) r := by
    rintro r rfl
    unfold Format.word
    rw [hs]
    by_cases h : n / 2 ^ 31 % 2 = 1
    · simp only [h, beq_self_eq_true, if_true]; omega
    · rw [show (n / 2 ^ 31 % 2 == 1) = false by simpa using h]
      simp only [Bool.false_eq_true, if_false]; omega
  unfold Format.read
  dsimp only
  rw [hs, hb, hi, hlp]
  by_cases h : n % 2 ^ 31 < 2 ^ 23
  · rw [if_pos h]
    exact ⟨_, _, _, rfl, hword _ (by simp), by omega, by omega, by omega, Or.inr rfl⟩
  · rw [if_neg h, if_pos (by omega)]
    exact ⟨_, _, _, rfl, hword _ (by omega), by omega, by omega, by omega, Or.inl (by omega)⟩

theorem up32_spec (n : Nat) (hn : n < 4294967296) (hE : n / 2 ^ 23 % 256 ≠ 255) :
    ∃ neg mag place mag' place', single.read n = .number neg mag place ∧ double.read (up32 n) = .number neg mag' place' ∧ single.nearest neg mag' place' = n := by
  obtain ⟨neg, mag, place, h1, h2, h3, h4, h5, h6⟩ := single_read n hn hE
  have hu : up32 n = double.nearest neg mag place := by
    show double.write (single.read n) = _
    rw [h1]; rfl
  rw [hu]
  rcases Nat.eq_zero_or_pos mag with h0 | h0
  · subst h0
    obtain rfl : place = -149 := by rcases h6 with h | h <;> omega
    refine ⟨neg, 0, -149, 0, -1074, h1, ?_, ?_⟩
    · cases neg <;> decide
    · rw [h2]; cases neg <;> decide
  · have hl : mag.log2 ≤ 23 := by
      have := (Nat.log2_lt (by omega : mag ≠ 0)).2 h3
      omega
    have ha := Nat.log2_self_le (by omega : mag ≠ 0)
    have hb := Nat.lt_log2_self (n := mag)
    refine ⟨neg, mag, place, mag * 2 ^ (52 - mag.log2), place + mag.log2 - 52, h1, ?_, ?_⟩
    · rw [double_of neg mag place h0 h3 h4 h5, double_read]
      · congr 1; omega
      · omega
      · calc 2 ^ 52 = 2 ^ mag.log2 * 2 ^ (52 - mag.log2) := by rw [← Nat.pow_add]; congr 1; omega
          _ ≤ _ := Nat.mul_le_mul_right _ ha
      · calc _ < 2 ^ (mag.log2 + 1) * 2 ^ (52 - mag.log2) := Nat.mul_lt_mul_of_pos_right hb (Nat.two_pow_pos _)
          _ = 2 ^ 53 := by rw [← Nat.pow_add]; congr 1; omega
    · rw [single_back neg mag place h0 h3 h4 h5 h6, ← h2]

theorem run_up32 (n : Nat) (hn : n < 4294967296) (hE : n / 2 ^ 23 % 256 ≠ 255) (w : World) : Sem.run Tryd.prog (convert 55 54 (.float .f32 n)) w = .ok (.float .f64 (up32 n)) w := by
  obtain ⟨neg, mag, place, mag', place', h1, h2, h3⟩ := up32_spec n hn hE
  have hd : FloatKind.f32.decode n = .number neg mag place := h1
  have hu : FloatKind.f64.decode (up32 n) = .number neg mag' place' := h2
  have he : FloatKind.f64.encode (.number neg mag place) = up32 n := by unfold up32; rw [hd]
  simp [convert, run_underlying Tryd.underlying55, run_underlying Tryd.underlying54, Conv.floatToFloat, hd, he, hu, Datum.isInfinity]

theorem run_down32 (n : Nat) (hn : n < 4294967296) (hE : n / 2 ^ 23 % 256 ≠ 255) (w : World) : Sem.run Tryd.prog (convert 54 55 (.float .f64 (up32 n))) w = .ok (.float .f32 n) w := by
  obtain ⟨neg, mag, place, mag', place', h1, h2, h3⟩ := up32_spec n hn hE
  have hd : FloatKind.f32.decode n = .number neg mag place := h1
  have hu : FloatKind.f64.decode (up32 n) = .number neg mag' place' := h2
  have he : FloatKind.f32.encode (.number neg mag' place') = n := h3
  simp [convert, run_underlying Tryd.underlying55, run_underlying Tryd.underlying54, Conv.floatToFloat, hd, he, hu, Datum.isInfinity]


theorem and_mask_u64 (x n : Nat) (h : x < 18446744073709551616) (hn : n < 64) : Go.bits .and .u64 (x : Int) ((2 ^ n - 1 : Nat) : Int) = ((x % 2 ^ n : Nat) : Int) := by
  have hp : 2 ^ n ≤ 2 ^ 63 := Nat.pow_le_pow_right (by decide) (by omega)
  have h1 := u64_and_nat x (2 ^ n - 1) h (by omega)
  rw [Nat.and_two_pow_sub_one_eq_mod] at h1
  exact h1
theorem i64_and_nat (a b : Nat) (ha : a < 9223372036854775808) (hb : b < 9223372036854775808) : Go.bits .and .i64 (a : Int) (b : Int) = ((a &&& b : Nat) : Int) := by
  have hx : a &&& b < 2 ^ 63 := Nat.and_lt_two_pow _ (by omega)
  show IntKind.i64.wrap ((BitVec.ofInt 64 (a : Int) &&& BitVec.ofInt 64 (b : Int)).toNat : Int) = _
  rw [BitVec.toNat_and, ofInt_u64 a (by omega), ofInt_u64 b (by omega), IntKind.wrap_i64]
  omega
theorem and_mask_i64 (x n : Nat) (h : x < 9223372036854775808) (hn : n < 63) : Go.bits .and .i64 (x : Int) ((2 ^ n - 1 : Nat) : Int) = ((x % 2 ^ n : Nat) : Int) := by
  have hp : 2 ^ n ≤ 2 ^ 62 := Nat.pow_le_pow_right (by decide) (by omega)
  have h1 := i64_and_nat x (2 ^ n - 1) h (by omega)
  rw [Nat.and_two_pow_sub_one_eq_mod] at h1
  exact h1
theorem or_pow_u64 (x n : Nat) (h : x < 2 ^ n) (hn : n < 63) : Go.bits .or .u64 (x : Int) ((2 ^ n : Nat) : Int) = ((x + 2 ^ n : Nat) : Int) := by
  have hp : 2 ^ n ≤ 2 ^ 62 := Nat.pow_le_pow_right (by decide) (by omega)
  have h1 := u64_or_nat x (2 ^ n) (by omega) (by omega)
  have h2 : x ||| 2 ^ n = x + 2 ^ n := by
    have := Nat.two_pow_add_eq_or_of_lt h 1
    rw [Nat.mul_one, Nat.or_comm, Nat.add_comm] at this
    exact this.symm
  rw [h2] at h1
  exact h1

set_option maxRecDepth 100000 in
set_option maxHeartbeats 1000000 in
theorem floatOf_top64 (bits : Nat) (w : World) (hb : bits / 2 ^ 52 % 2048 = 2047) (hU : U64 bits) :
    Calls Tryd.prog 23 #[.int .u64 bits, .bool true] w fun e w' => e = .returned (.tuple #[.agg #[.bool false, .int .u64 0, .int .i64 0, .bool false], .bool false]) ∧ Still w w' := by
  obtain ⟨Q, hQ⟩ : ∃ Q, Q = bits / 2 ^ 52 := ⟨_, rfl⟩
  obtain ⟨L, hL⟩ : ∃ L, L = bits % 2 ^ 52 := ⟨_, rfl⟩
  have hU' : bits < 18446744073709551616 := hU
  have hQ1 : Q < 8192 := by rw [hQ]; unfold U64 at hU; omega
  have e1 : (bits : Int) / 4503599627370496 = (Q : Int) := by rw [hQ]; omega
  have e2 : IntKind.i64.wrap (Q : Int) = (Q : Int) := by rw [IntKind.wrap_i64]; omega
  have e3 : Go.bits .and .i64 (Q : Int) 2047 = ((Q % 2048 : Nat) : Int) := and_mask_i64 Q 11 (by omega) (by omega)
  have e4 : Go.bits .and .u64 (bits : Int) 4503599627370495 = (L : Int) := by rw [hL]; exact and_mask_u64 bits 52 hU' (by omega)
  have hL1 : L < 4503599627370496 := by rw [hL]; omega
  rw [show Q % 2048 = 2047 from by rw [hQ]; exact hb] at e3
  have HQ := Lib.hid hQ
  have HL := Lib.hid hL
  clear hQ hL hU hU' hb
  go_enter Tryd.func23, Tryd.ntmps23
  go_wp2_with fail
  exact bodyPost_ret (v := .tuple #[.agg #[.bool false, .int .u64 0, .int .i64 0, .bool false], .bool false]) (by simp [results, Tryd.results23, go_sem]) rfl ⟨rfl, by repeat (first | exact Still.refl _ | refine Still.alloc ?_ _)⟩

set_option maxRecDepth 100000 in
set_option maxHeartbeats 1000000 in
theorem floatOf_zero64 (bits : Nat) (w : World) (hb : bits / 2 ^ 52 % 2048 = 0) (hU : U64 bits) :
    Calls Tryd.prog 23 #[.int .u64 bits, .bool true] w fun e w' => e = .returned (.tuple #[.agg #[.bool (decide (0 < bits / 2 ^ 52 / 2048)), .int .u64 ((bits % 2 ^ 52 : Nat) : Int), .int .i64 (-1074), .bool false], .bool true]) ∧ Still w w' := by
  obtain ⟨Q, hQ⟩ : ∃ Q, Q = bits / 2 ^ 52 := ⟨_, rfl⟩
  obtain ⟨L, hL⟩ : ∃ L, L = bits % 2 ^ 52 := ⟨_, rfl⟩
  have hU' : bits < 18446744073709551616 := hU
  have hQ1 : Q < 8192 := by rw [hQ]; unfold U64 at hU; omega
  have e1 : (bits : Int) / 4503599627370496 = (Q : Int) := by rw [hQ]; omega
  have e2 : IntKind.i64.wrap (Q : Int) = (Q : Int) := by rw [IntKind.wrap_i64]; omega
  have e3 : Go.bits .and .i64 (Q : Int) 2047 = ((Q % 2048 : Nat) : Int) := and_mask_i64 Q 11 (by omega) (by omega)
  have e4 : Go.bits .and .u64 (bits : Int) 4503599627370495 = (L : Int) := by rw [hL]; exact and_mask_u64 bits 52 hU' (by omega)
  have hL1 : L < 4503599627370496 := by rw [hL]; omega
  rw [show Q % 2048 = 0 from by rw [hQ]; exact hb] at e3
  rw [← hQ, ← hL]
  have HQ := Lib.hid hQ
  have HL := Lib.hid hL
  clear hQ hL hU hU' hb
  go_enter Tryd.func23, Tryd.ntmps23
  go_wp2_with fail
  all_goals exact bodyPost_ret (v := .tuple #[.agg #[.bool (decide (0 < Q / 2048)), .int .u64 (L : Int), .int .i64 (-1074), .bool false], .bool true]) (by simp [results, Tryd.results23, go_sem, *]; first | omega | exact ⟨by omega, by decide, by omega, by omega⟩ | exact ⟨by omega, by omega⟩) rfl ⟨rfl, by repeat (first | exact Still.refl _ | refine Still.alloc ?_ _ | refine Still.drew ?_)⟩

set_option maxRecDepth 100000 in
set_option maxHeartbeats 1000000 in
theorem floatOf_pos64 (bits : Nat) (w : World) (E : Nat) (hb : bits / 2 ^ 52 % 2048 = E) (hE0 : 0 < E) (hE1 : E < 2047) (hU : U64 bits) :
    Calls Tryd.prog 23 #[.int .u64 bits, .bool true] w fun e w' => e = .returned (.tuple #[.agg #[.bool (decide (0 < bits / 2 ^ 52 / 2048)), .int .u64 ((bits % 2 ^ 52 + 4503599627370496 : Nat) : Int), .int .i64 (E - 1075), .bool (decide (bits % 2 ^ 52 = 0) && decide (1 < E))], .bool true]) ∧ Still w w' := by
  obtain ⟨Q, hQ⟩ : ∃ Q, Q = bits / 2 ^ 52 := ⟨_, rfl⟩
  obtain ⟨L, hL⟩ : ∃ L, L = bits % 2 ^ 52 := ⟨_, rfl⟩
  have hU' : bits < 18446744073709551616 := hU
  have hQ1 : Q < 8192 := by rw [hQ]; unfold U64 at hU; omega
  have e1 : (bits : Int) / 4503599627370496 = (Q : Int) := by rw [hQ]; omega
  have e2 : IntKind.i64.wrap (Q : Int) = (Q : Int) := by rw [IntKind.wrap_i64]; omega
  have e3 : Go.bits .and .i64 (Q : Int) 2047 = ((Q % 2048 : Nat) : Int) := and_mask_i64 Q 11 (by omega) (by omega)
  have e4 : Go.bits .and .u64 (bits : Int) 4503599627370495 = (L : Int) := by rw [hL]; exact and_mask_u64 bits 52 hU' (by omega)
  have hL1 : L < 4503599627370496 := by rw [hL]; omega
  rw [show Q % 2048 = E from by rw [hQ]; exact hb] at e3
  have e5 : Go.bits .or .u64 (L : Int) 4503599627370496 = ((L + 4503599627370496 : Nat) : Int) := or_pow_u64 L 52 hL1 (by omega)
  have hEi : (0 : Int) < E := by omega
  have hEt : ((E : Int) == 2047) = false := by simp; omega
  rw [← hQ, ← hL]
  have HQ := Lib.hid hQ
  have HL := Lib.hid hL
  clear hQ hL hU hU' hb
  go_enter Tryd.func23, Tryd.ntmps23
  go_wp2_with fail
  all_goals
    go_region
    go_wp2_with fail
  all_goals exact bodyPost_ret (v := .tuple #[.agg #[.bool (decide (0 < Q / 2048)), .int .u64 ((L + 4503599627370496 : Nat) : Int), .int .i64 (E - 1075), .bool (decide (L = 0) && decide (1 < E))], .bool true]) (by simp [results, Tryd.results23, go_sem, *]; first | omega | exact ⟨by omega, by decide, by omega, by omega⟩ | exact ⟨by omega, by omega⟩) rfl ⟨rfl, by repeat (first | exact Still.refl _ | refine Still.alloc ?_ _ | refine Still.drew ?_)⟩

set_option maxRecDepth 100000 in
set_option maxHeartbeats 1000000 in
theorem floatOf_top32 (bits : Nat) (w : World) (hb : bits / 2 ^ 23 % 256 = 255) (hU : bits < 4294967296) :
    Calls Tryd.prog 23 #[.int .u64 bits, .bool false] w fun e w' => e = .returned (.tuple #[.agg #[.bool false, .int .u64 0, .int .i64 0, .bool false], .bool false]) ∧ Still w w' := by
  obtain ⟨Q, hQ⟩ : ∃ Q, Q = bits / 2 ^ 23 := ⟨_, rfl⟩
  obtain ⟨L, hL⟩ : ∃ L, L = bits % 2 ^ 23 := ⟨_, rfl⟩
  have hU' : bits < 18446744073709551616 := by omega
  have hQ1 : Q < 8192 := by rw [hQ]; omega
  have e1 : (bits : Int) / 8388608 = (Q : Int) := by rw [hQ]; omega
  have e2 : IntKind.i64.wrap (Q : Int) = (Q : Int) := by rw [IntKind.wrap_i64]; omega
  have e3 : Go.bits .and .i64 (Q : Int) 255 = ((Q % 256 : Nat) : Int) := and_mask_i64 Q 8 (by omega) (by omega)
  have e4 : Go.bits .and .u64 (bits : Int) 8388607 = (L : Int) := by rw [hL]; exact and_mask_u64 bits 23 hU' (by omega)
  have hL1 : L < 8388608 := by rw [hL]; omega
  rw [show Q % 256 = 255 from by rw [hQ]; exact hb] at e3
  have HQ := Lib.hid hQ
  have HL := Lib.hid hL
  clear hQ hL hU hU' hb
  go_enter Tryd.func23, Tryd.ntmps23
  go_wp2_with fail
  exact bodyPost_ret (v := .tuple #[.agg #[.bool false, .int .u64 0, .int .i64 0, .bool false], .bool false]) (by simp [results, Tryd.results23, go_sem]) rfl ⟨rfl, by repeat (first | exact Still.refl _ | refine Still.alloc ?_ _)⟩

set_option maxRecDepth 100000 in
set_option maxHeartbeats 1000000 in
theorem floatOf_zero32 (bits : Nat) (w : World) (hb : bits / 2 ^ 23 % 256 = 0) (hU : bits < 4294967296) :
    Calls Tryd.prog 23 #[.int .u64 bits, .bool false] w fun e w' => e = .returned (.tuple #[.agg #[.bool (decide (0 < bits / 2 ^ 23 / 256)), .int .u64 ((bits % 2 ^ 23 : Nat) : Int), .int .i64 (-149), .bool false], .bool true]) ∧ Still w w' := by
  obtain ⟨Q, hQ⟩ : ∃ Q, Q = bits / 2 ^ 23 := ⟨_, rfl⟩
  obtain ⟨L, hL⟩ : ∃ L, L = bits % 2 ^ 23 := ⟨_, rfl⟩
  have hU' : bits < 18446744073709551616 := by omega
  have hQ1 : Q < 8192 := by rw [hQ]; omega
  have e1 : (bits : Int) / 8388608 = (Q : Int) := by rw [hQ]; omega
  have e2 : IntKind.i64.wrap (Q : Int) = (Q : Int) := by rw [IntKind.wrap_i64]; omega
  have e3 : Go.bits .and .i64 (Q : Int) 255 = ((Q % 256 : Nat) : Int) := and_mask_i64 Q 8 (by omega) (by omega)
  have e4 : Go.bits .and .u64 (bits : Int) 8388607 = (L : Int) := by rw [hL]; exact and_mask_u64 bits 23 hU' (by omega)
  have hL1 : L < 8388608 := by rw [hL]; omega
  rw [show Q % 256 = 0 from by rw [hQ]; exact hb] at e3
  rw [← hQ, ← hL]
  have HQ := Lib.hid hQ
  have HL := Lib.hid hL
  clear hQ hL hU hU' hb
  go_enter Tryd.func23, Tryd.ntmps23
  go_wp2_with fail
  all_goals exact bodyPost_ret (v := .tuple #[.agg #[.bool (decide (0 < Q / 256)), .int .u64 (L : Int), .int .i64 (-149), .bool false], .bool true]) (by simp [results, Tryd.results23, go_sem, *]; first | omega | exact ⟨by omega, by decide, by omega, by omega⟩ | exact ⟨by omega, by omega⟩) rfl ⟨rfl, by repeat (first | exact Still.refl _ | refine Still.alloc ?_ _ | refine Still.drew ?_)⟩

set_option maxRecDepth 100000 in
set_option maxHeartbeats 1000000 in
theorem floatOf_pos32 (bits : Nat) (w : World) (E : Nat) (hb : bits / 2 ^ 23 % 256 = E) (hE0 : 0 < E) (hE1 : E < 255) (hU : bits < 4294967296) :
    Calls Tryd.prog 23 #[.int .u64 bits, .bool false] w fun e w' => e = .returned (.tuple #[.agg #[.bool (decide (0 < bits / 2 ^ 23 / 256)), .int .u64 ((bits % 2 ^ 23 + 8388608 : Nat) : Int), .int .i64 (E - 150), .bool (decide (bits % 2 ^ 23 = 0) && decide (1 < E))], .bool true]) ∧ Still w w' := by
  obtain ⟨Q, hQ⟩ : ∃ Q, Q = bits / 2 ^ 23 := ⟨_, rfl⟩
  obtain ⟨L, hL⟩ : ∃ L, L = bits % 2 ^ 23 := ⟨_, rfl⟩
  have hU' : bits < 18446744073709551616 := by omega
  have hQ1 : Q < 8192 := by rw [hQ]; omega
  have e1 : (bits : Int) / 8388608 = (Q : Int) := by rw [hQ]; omega
  have e2 : IntKind.i64.wrap (Q : Int) = (Q : Int) := by rw [IntKind.wrap_i64]; omega
  have e3 : Go.bits .and .i64 (Q : Int) 255 = ((Q % 256 : Nat) : Int) := and_mask_i64 Q 8 (by omega) (by omega)
  have e4 : Go.bits .and .u64 (bits : Int) 8388607 = (L : Int) := by rw [hL]; exact and_mask_u64 bits 23 hU' (by omega)
  have hL1 : L < 8388608 := by rw [hL]; omega
  rw [show Q % 256 = E from by rw [hQ]; exact hb] at e3
  have e5 : Go.bits .or .u64 (L : Int) 8388608 = ((L + 8388608 : Nat) : Int) := or_pow_u64 L 23 hL1 (by omega)
  have hEi : (0 : Int) < E := by omega
  have hEt : ((E : Int) == 255) = false := by simp; omega
  rw [← hQ, ← hL]
  have HQ := Lib.hid hQ
  have HL := Lib.hid hL
  clear hQ hL hU hU' hb
  go_enter Tryd.func23, Tryd.ntmps23
  go_wp2_with fail
  all_goals
    go_region
    go_wp2_with fail
  all_goals exact bodyPost_ret (v := .tuple #[.agg #[.bool (decide (0 < Q / 256)), .int .u64 ((L + 8388608 : Nat) : Int), .int .i64 (E - 150), .bool (decide (L = 0) && decide (1 < E))], .bool true]) (by simp [results, Tryd.results23, go_sem, *]; first | omega | exact ⟨by omega, by decide, by omega, by omega⟩ | exact ⟨by omega, by omega⟩) rfl ⟨rfl, by repeat (first | exact Still.refl _ | refine Still.alloc ?_ _ | refine Still.drew ?_)⟩


/-- The exponent field, the fraction, the sign of a number of 64 bits or of 32. -/
def fExp (wide : Bool) (bits : Nat) : Nat := if wide then bits / 2 ^ 52 % 2048 else bits % 2 ^ 32 / 2 ^ 23 % 256
def fFrac (wide : Bool) (bits : Nat) : Nat := if wide then bits % 2 ^ 52 else bits % 2 ^ 32 % 2 ^ 23
def fNeg (wide : Bool) (bits : Nat) : Bool := if wide then decide (0 < bits / 2 ^ 52 / 2048) else decide (0 < bits % 2 ^ 32 / 2 ^ 23 / 256)
def fTop (wide : Bool) : Nat := if wide then 2047 else 255
/-- The number: low times 2 to the power pow; edge: the number below it is nearer than the one above it. -/
def fLow (wide : Bool) (bits : Nat) : Nat := if fExp wide bits = 0 then fFrac wide bits else fFrac wide bits + (if wide then 4503599627370496 else 8388608)
def fPow (wide : Bool) (bits : Nat) : Int := if fExp wide bits = 0 then (if wide then -1074 else -149) else (fExp wide bits : Int) - (if wide then 1075 else 150)
def fEdge (wide : Bool) (bits : Nat) : Bool := decide (fFrac wide bits = 0) && decide (1 < fExp wide bits)
def fAgg (wide : Bool) (bits : Nat) : Value := .agg #[.bool (fNeg wide bits), .int .u64 (fLow wide bits : Int), .int .i64 (fPow wide bits), .bool (fEdge wide bits)]
/-- The bits of the double that holds the number. -/
def fDbl (wide : Bool) (bits : Nat) : Nat := if wide then bits else up32 (bits % 2 ^ 32)

theorem floatOf64_any (bits : Nat) (w : World) (hU : U64 bits) (hf : fExp true bits ≠ 2047) :
    Calls Tryd.prog 23 #[.int .u64 bits, .bool true] w fun e w' => e = .returned (.tuple #[fAgg true bits, .bool true]) ∧ Still w w' := by
  have hE : fExp true bits = bits / 2 ^ 52 % 2048 := rfl
  by_cases h0 : bits / 2 ^ 52 % 2048 = 0
  · refine (floatOf_zero64 bits w h0 hU).mono fun e w' h => ⟨h.1.trans ?_, h.2⟩
    simp [fAgg, fNeg, fLow, fPow, fEdge, fFrac, hE, h0]
  · refine (floatOf_pos64 bits w (bits / 2 ^ 52 % 2048) rfl (by omega) (by omega) hU).mono fun e w' h => ⟨h.1.trans ?_, h.2⟩
    simp [fAgg, fNeg, fLow, fPow, fEdge, fFrac, hE, h0]
theorem floatOf32_any (bits : Nat) (w : World) (hf : fExp false bits ≠ 255) :
    Calls Tryd.prog 23 #[.int .u64 ((bits % 2 ^ 32 : Nat) : Int), .bool false] w fun e w' => e = .returned (.tuple #[fAgg false bits, .bool true]) ∧ Still w w' := by
  have hE : fExp false bits = bits % 2 ^ 32 / 2 ^ 23 % 256 := rfl
  by_cases h0 : bits % 2 ^ 32 / 2 ^ 23 % 256 = 0
  · refine (floatOf_zero32 (bits % 2 ^ 32) w h0 (by omega)).mono fun e w' h => ⟨h.1.trans ?_, h.2⟩
    simp [fAgg, fNeg, fLow, fPow, fEdge, fFrac, hE, h0]
  · refine (floatOf_pos32 (bits % 2 ^ 32) w (bits % 2 ^ 32 / 2 ^ 23 % 256) rfl (by omega) (by omega) (by omega)).mono fun e w' h => ⟨h.1.trans ?_, h.2⟩
    simp [fAgg, fNeg, fLow, fPow, fEdge, fFrac, hE, h0]

theorem ext25 (n : Nat) (w : World) : Sem.run Tryd.prog (callFunc 25 #[.int .u32 (n : Int)]) w = .ok (.value (.float .f32 n)) w := by
  have h := run_callFunc_extern (P := Tryd.prog) (e := Extern.MathFloatBits.float32frombits) Tryd.func25 (by kernel_rfl) (by kernel_rfl) (by kernel_rfl) (by kernel_rfl) #[.int .u32 (n : Int)] w
  rw [h]
  rfl
theorem ext24 (n : Nat) (w : World) : Sem.run Tryd.prog (callFunc 24 #[.float .f64 n]) w = .ok (.value (.int .u64 (n : Int))) w := by
  have h := run_callFunc_extern (P := Tryd.prog) (e := Extern.MathFloatBits.float64bits) Tryd.func24 (by kernel_rfl) (by kernel_rfl) (by kernel_rfl) (by kernel_rfl) #[.float .f64 n] w
  rw [h]
  rfl

theorem Still.cell4 {w w1 : World} {a b c d : Value} {t : TypeId} (h : Still (w.alloc (.cells #[a, b, c, d] t)) w1) (i : Nat) (hi : i < 4) : w1.cell? ⟨w.heap.size, i, none⟩ = some (#[a, b, c, d][i]'(by simpa using hi)) := by
  refine Still.cell h ?_
  rw [World.cell?_alloc_new]
  simp [hi]
theorem Still.free4 {w w1 : World} {a b c d : Value} {t : TypeId} (h : Still (w.alloc (.cells #[a, b, c, d] t)) w1) (i : Nat) : w1.frozen? ⟨w.heap.size, i, none⟩ = false := by
  rw [keptBut_frozen h (a := ⟨w.heap.size, i, none⟩) (by simp)]
  exact World.frozen?_alloc_new _ _ _ _
theorem Still.lt4 {w w1 : World} {o : Obj} (h : Still (w.alloc o) w1) : w.heap.size < w1.heap.size := by
  have := h.size
  simp at this
  omega

set_option maxRecDepth 100000 in
set_option maxHeartbeats 1000000 in
theorem number_wide (bits : Nat) (w : World) (hU : U64 bits) (hf : fExp true bits ≠ 2047) :
    Calls Tryd.prog 11 #[.int .u64 bits, .bool true] w fun e w' => e = .returned (.tuple #[fAgg true bits, .int .u64 bits, .int .i64 64, .bool true]) ∧ Still w w' := by
  have hfa : fAgg true bits = .agg #[.bool (fNeg true bits), .int .u64 (fLow true bits : Int), .int .i64 (fPow true bits), .bool (fEdge true bits)] := rfl
  go_enter Tryd.func11, Tryd.ntmps11
  go_wp2_with (go_at_call 23; refine (floatOf64_any bits _ hU hf).mono ?_; rintro e w1 ⟨rfl, hk1⟩; rw [hfa]; have c0 := hk1.cell4 0 (by omega); have c1 := hk1.cell4 1 (by omega); have c2 := hk1.cell4 2 (by omega); have c3 := hk1.cell4 3 (by omega); have z0 := hk1.free4 0; have z1 := hk1.free4 1; have z2 := hk1.free4 2; have z3 := hk1.free4 3; have hz := hk1.lt4)
  rw [hfa]
  refine bodyPost_ret (v := .tuple #[.agg #[.bool (fNeg true bits), .int .u64 (fLow true bits : Int), .int .i64 (fPow true bits), .bool (fEdge true bits)], .int .u64 bits, .int .i64 64, .bool true]) ?_ rfl ⟨rfl, ?_⟩
  · simp [results, Tryd.results11, go_sem, *]
  · repeat (first | (with_reducible refine Still.setCell ?_ (Nat.le_refl _) _) | (with_reducible refine Still.alloc ?_ _))
    exact ((Still.refl w).alloc _).trans hk1

set_option maxRecDepth 100000 in
set_option maxHeartbeats 1000000 in
theorem number_narrow (bits : Nat) (w : World) (hU : U64 bits) (hf : fExp false bits ≠ 255) :
    Calls Tryd.prog 11 #[.int .u64 bits, .bool false] w fun e w' => e = .returned (.tuple #[fAgg false bits, .int .u64 (up32 (bits % 2 ^ 32) : Nat), .int .i64 32, .bool true]) ∧ Still w w' := by
  have hfa : fAgg false bits = .agg #[.bool (fNeg false bits), .int .u64 (fLow false bits : Int), .int .i64 (fPow false bits), .bool (fEdge false bits)] := rfl
  have hw : IntKind.u32.wrap (bits : Int) = ((bits % 2 ^ 32 : Nat) : Int) := by rw [IntKind.wrap_u32]; omega
  have ha : Go.bits .and .u64 (bits : Int) 4294967295 = ((bits % 2 ^ 32 : Nat) : Int) := and_mask_u64 bits 32 hU (by omega)
  have hup := run_up32 (bits % 2 ^ 32) (by omega) hf
  have hfo := fun w => floatOf32_any bits w hf
  obtain ⟨n, hn⟩ : ∃ n, n = bits % 2 ^ 32 := ⟨_, rfl⟩
  rw [← hn] at hw ha hup hfo ⊢
  have h25 := ext25 n
  have h24 := ext24 (up32 n)
  have HN := Lib.hid hn
  clear hn
  go_enter Tryd.func11, Tryd.ntmps11
  go_wp2_with (go_at_call 23; refine (hfo _).mono ?_; rintro e w1 ⟨rfl, hk1⟩; rw [hfa]; have c0 := hk1.cell4 0 (by omega); have c1 := hk1.cell4 1 (by omega); have c2 := hk1.cell4 2 (by omega); have c3 := hk1.cell4 3 (by omega); have z0 := hk1.free4 0; have z1 := hk1.free4 1; have z2 := hk1.free4 2; have z3 := hk1.free4 3; have hz := hk1.lt4)
  go_region
  go_wp2_with fail
  rw [hfa]
  refine bodyPost_ret (v := .tuple #[.agg #[.bool (fNeg false bits), .int .u64 (fLow false bits : Int), .int .i64 (fPow false bits), .bool (fEdge false bits)], .int .u64 (up32 n : Nat), .int .i64 32, .bool true]) ?_ rfl ⟨rfl, ?_⟩
  · simp [results, Tryd.results11, go_sem, *]
  · repeat (first | (with_reducible refine Still.setCell ?_ (Nat.le_refl _) _) | (with_reducible refine Still.alloc ?_ _) | (with_reducible refine Still.drew ?_))
    exact ((Still.refl w).alloc _).trans hk1

set_option maxRecDepth 100000 in
set_option maxHeartbeats 1000000 in
theorem number_wide_no (bits : Nat) (w : World) (hU : U64 bits) (hf : fExp true bits = 2047) :
    Calls Tryd.prog 11 #[.int .u64 bits, .bool true] w fun e w' => (∃ b c, e = .returned (.tuple #[.agg #[.bool false, .int .u64 0, .int .i64 0, .bool false], b, c, .bool false])) ∧ Still w w' := by
  have hfo := fun w => floatOf_top64 bits w hf hU
  go_enter Tryd.func11, Tryd.ntmps11
  go_wp2_with (go_at_call 23; refine (hfo _).mono ?_; rintro e w1 ⟨rfl, hk1⟩; have c0 := hk1.cell4 0 (by omega); have c1 := hk1.cell4 1 (by omega); have c2 := hk1.cell4 2 (by omega); have c3 := hk1.cell4 3 (by omega); have z0 := hk1.free4 0; have z1 := hk1.free4 1; have z2 := hk1.free4 2; have z3 := hk1.free4 3; have hz := hk1.lt4)
  refine bodyPost_ret (v := .tuple #[.agg #[.bool false, .int .u64 0, .int .i64 0, .bool false], .int .u64 bits, .int .i64 64, .bool false]) ?_ rfl ⟨⟨_, _, rfl⟩, ?_⟩
  · simp [results, Tryd.results11, go_sem, *]
  · repeat (first | (with_reducible refine Still.setCell ?_ (Nat.le_refl _) _) | (with_reducible refine Still.alloc ?_ _))
    exact ((Still.refl w).alloc _).trans hk1

theorem run_inf32 (n : Nat) (s : Bool) (hd : FloatKind.f32.decode n = .infinity s) (w : World) : Sem.run Tryd.prog (convert 55 54 (.float .f32 n)) w = .ok (.float .f64 (FloatKind.f64.encode (.infinity s))) w := by
  simp [convert, run_underlying Tryd.underlying55, run_underlying Tryd.underlying54, Conv.floatToFloat, hd]
def nanBits (w : World) (n : Nat) : Nat := (Question.nanConv .f64 n).cut (w.tape w.drawn (Question.nanConv .f64 n))
theorem run_nan32 (n : Nat) (s : Bool) (f : Nat) (hd : FloatKind.f32.decode n = .nan s f) (w : World) : Sem.run Tryd.prog (convert 55 54 (.float .f32 n)) w = .ok (.float .f64 (nanBits w n)) w.drew := by
  simp [convert, run_underlying Tryd.underlying55, run_underlying Tryd.underlying54, Conv.floatToFloat, hd, nanBits, show (Question.nanConv .f64 n).forced = false from rfl]

theorem single_top (n : Nat) (hE : n / 2 ^ 23 % 256 = 255) : (∃ s, FloatKind.f32.decode n = .infinity s) ∨ (∃ s f, FloatKind.f32.decode n = .nan s f) := by
  have hs : Ieee.single.signWeight = 2 ^ 31 := by decide
  have hb : Ieee.single.binade = 2 ^ 23 := by decide
  have hi : Ieee.single.infRung = 255 * 2 ^ 23 := by decide
  show (∃ s, Ieee.single.read n = .infinity s) ∨ (∃ s f, Ieee.single.read n = .nan s f)
  unfold Ieee.Format.read
  dsimp only
  rw [hs, hb, hi, if_neg (by omega), if_neg (by omega)]
  by_cases h : n % 2 ^ 31 = 255 * 2 ^ 23
  · rw [if_pos h]; exact Or.inl ⟨_, rfl⟩
  · rw [if_neg h]; exact Or.inr ⟨_, _, rfl⟩

set_option maxRecDepth 100000 in
set_option maxHeartbeats 1000000 in
theorem number_narrow_no (bits : Nat) (w : World) (hU : U64 bits) (hf : fExp false bits = 255) :
    Calls Tryd.prog 11 #[.int .u64 bits, .bool false] w fun e w' => (∃ b c, e = .returned (.tuple #[.agg #[.bool false, .int .u64 0, .int .i64 0, .bool false], b, c, .bool false])) ∧ Still w w' := by
  have hw : IntKind.u32.wrap (bits : Int) = ((bits % 2 ^ 32 : Nat) : Int) := by rw [IntKind.wrap_u32]; omega
  have ha : Go.bits .and .u64 (bits : Int) 4294967295 = ((bits % 2 ^ 32 : Nat) : Int) := and_mask_u64 bits 32 hU (by omega)
  have htop := single_top (bits % 2 ^ 32) hf
  have hfo := fun w => floatOf_top32 (bits % 2 ^ 32) w hf (by omega)
  obtain ⟨n, hn⟩ : ∃ n, n = bits % 2 ^ 32 := ⟨_, rfl⟩
  rw [← hn] at hw ha hfo htop
  have h25 := ext25 n
  have HN := Lib.hid hn
  clear hn
  rcases htop with ⟨s, hd⟩ | ⟨s, f, hd⟩
  · have hup := run_inf32 n s hd
    obtain ⟨D, hD⟩ : ∃ D, D = FloatKind.f64.encode (.infinity s) := ⟨_, rfl⟩
    rw [← hD] at hup
    have h24 := ext24 D
    clear hd hD
    go_enter Tryd.func11, Tryd.ntmps11
    go_wp2_with (go_at_call 23; refine (hfo _).mono ?_; rintro e w1 ⟨rfl, hk1⟩; have c0 := hk1.cell4 0 (by omega); have c1 := hk1.cell4 1 (by omega); have c2 := hk1.cell4 2 (by omega); have c3 := hk1.cell4 3 (by omega); have z0 := hk1.free4 0; have z1 := hk1.free4 1; have z2 := hk1.free4 2; have z3 := hk1.free4 3; have hz := hk1.lt4)
    go_region
    go_wp2_with fail
    refine bodyPost_ret (v := .tuple #[.agg #[.bool false, .int .u64 0, .int .i64 0, .bool false], .int .u64 D, .int .i64 32, .bool false]) ?_ rfl ⟨⟨_, _, rfl⟩, ?_⟩
    · simp [results, Tryd.results11, go_sem, *]
    · repeat (first | (with_reducible refine Still.setCell ?_ (Nat.le_refl _) _) | (with_reducible refine Still.alloc ?_ _) | (with_reducible refine Still.drew ?_))
      exact ((Still.refl w).alloc _).trans hk1
  · have hup := run_nan32 n s f hd
    have h24 := ext24
    clear hd
    go_enter Tryd.func11, Tryd.ntmps11
    go_wp2_with (go_at_call 23; refine (hfo _).mono ?_; rintro e w1 ⟨rfl, hk1⟩; have c0 := hk1.cell4 0 (by omega); have c1 := hk1.cell4 1 (by omega); have c2 := hk1.cell4 2 (by omega); have c3 := hk1.cell4 3 (by omega); have z0 := hk1.free4 0; have z1 := hk1.free4 1; have z2 := hk1.free4 2; have z3 := hk1.free4 3; have hz := hk1.lt4)
    go_region
    go_wp2_with fail
    refine bodyPost_ret (v := .tuple #[.agg #[.bool false, .int .u64 0, .int .i64 0, .bool false], .int .u64 (nanBits (w1.alloc (.cells #[.bool false, .int .u64 0, .int .i64 0, .bool false] 24)).drew n : Nat), .int .i64 32, .bool false]) ?_ rfl ⟨⟨_, _, rfl⟩, ?_⟩
    · simp [results, Tryd.results11, go_sem, *]
    · repeat (first | (with_reducible refine Still.setCell ?_ (Nat.le_refl _) _) | (with_reducible refine Still.alloc ?_ _) | (with_reducible refine Still.drew ?_))
      exact ((Still.refl w).alloc _).trans hk1

/-- laws.number at a finite number. -/
theorem number_fin (wide : Bool) (bits : Nat) (w : World) (hU : U64 bits) (hf : fExp wide bits ≠ fTop wide) :
    Calls Tryd.prog 11 #[.int .u64 bits, .bool wide] w fun e w' => e = .returned (.tuple #[fAgg wide bits, .int .u64 (fDbl wide bits : Nat), .int .i64 (if wide then 64 else 32), .bool true]) ∧ Still w w' := by
  cases wide
  · exact number_narrow bits w hU hf
  · exact number_wide bits w hU hf
/-- At an infinity or a NaN. -/
theorem number_no (wide : Bool) (bits : Nat) (w : World) (hU : U64 bits) (hf : fExp wide bits = fTop wide) :
    Calls Tryd.prog 11 #[.int .u64 bits, .bool wide] w fun e w' => (∃ b c, e = .returned (.tuple #[.agg #[.bool false, .int .u64 0, .int .i64 0, .bool false], b, c, .bool false])) ∧ Still w w' := by
  cases wide
  · exact number_narrow_no bits w hU hf
  · exact number_wide_no bits w hU hf
end Go.Proofs.YthfjpofbaeeafaaDoor
