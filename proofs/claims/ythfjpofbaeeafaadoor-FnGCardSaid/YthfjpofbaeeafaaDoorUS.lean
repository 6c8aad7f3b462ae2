/-
  uscale, prescale and the division of an unrounded number: what they answer.
-/
import Derived.Test.YthfjpofbaeeafaaDoorTabs
import Derived.Test.YthfjpofbaeeafaaDoorDR
namespace Go.Proofs.YthfjpofbaeeafaaDoor
open Go.RowKit

theorem b2u_true (w : World) : Calls Tryd.prog 93 #[.bool true] w fun e w' => e = .returned (.int .u64 1) ∧ w' = w := (bool2u_any true w).mono fun _ _ h => ⟨h.1, h.2.symm⟩
theorem b2u_false (w : World) : Calls Tryd.prog 93 #[.bool false] w fun e w' => e = .returned (.int .u64 0) ∧ w' = w := (bool2u_any false w).mono fun _ _ h => ⟨h.1, h.2.symm⟩
theorem b2r_true (w : World) : Calls Tryd.prog 94 #[.bool true] w fun e w' => e = .returned (.int .u64 1) ∧ w' = w := (bool2r_any true w).mono fun _ _ h => ⟨h.1, h.2.symm⟩
theorem b2r_false (w : World) : Calls Tryd.prog 94 #[.bool false] w fun e w' => e = .returned (.int .u64 0) ∧ w' = w := (bool2r_any false w).mono fun _ _ h => ⟨h.1, h.2.symm⟩
theorem and63 (s : Nat) (hs : s < 64) : bits .and .i64 (s : Int) 63 = s := by
  have : ∀ s : Fin 64, bits .and .i64 (s.val : Int) 63 = s.val := by decide
  exact this ⟨s, hs⟩

/-- What mul64 answers, by names. -/
theorem mul64_named (x y H M : Nat) (hx : U64 x) (hy : U64 y) (hH : H = x * y / 18446744073709551616) (hM : M = x * y % 18446744073709551616) (w : World) :
    Calls Tryd.prog 92 #[.int .u64 x, .int .u64 y] w fun e w' => e = .returned (.tuple #[.int .u64 (H : Int), .int .u64 (M : Int)]) ∧ w = w' := by
  subst hH; subst hM
  exact (Tryd.bits_Mul64 x y hx hy w).mono fun _ _ h => ⟨h.1, h.2.symm⟩

theorem shr_back (H s : Nat) (hH : U64 H) : IntKind.u64.wrap ((H : Int) / 2 ^ s * 2 ^ s) = ((H / 2 ^ s * 2 ^ s : Nat) : Int) := by
  have h1 : H / 2 ^ s * 2 ^ s ≤ H := Nat.div_mul_le_self _ _
  have e : (H : Int) / 2 ^ s * 2 ^ s = ((H / 2 ^ s * 2 ^ s : Nat) : Int) := by simp
  rw [e, IntKind.wrap_u64]
  unfold U64 at hH
  generalize H / 2 ^ s * 2 ^ s = Y at *
  omega

def DrewInt (n : Nat) (w : World) (e : Ending) (w' : World) : Prop := e = .returned (.int .u64 (n : Int)) ∧ ∃ k, w' = w.drewN k

set_option maxRecDepth 100000 in
set_option maxHeartbeats 1000000 in
theorem uscale_walk (x hi lo s H M M2 L2 : Nat) (g : Nat) (w : World) (hx : U64 x) (hhi : U64 hi) (hlo : U64 lo) (hs : s < 64) (hh : 1 ≤ hi)
    (hH : H = x * hi / 18446744073709551616) (hM : M = x * hi % 18446744073709551616) (hM2 : M2 = x * lo / 18446744073709551616) (hL2 : L2 = x * lo % 18446744073709551616)
    (c0 : w.cell? ⟨g, 0, none⟩ = some (.int .u64 hi)) (c1 : w.cell? ⟨g, 1, none⟩ = some (.int .u64 lo)) (c2 : w.cell? ⟨g, 2, none⟩ = some (.int .i64 s)) :
    Calls Tryd.prog 75 #[.int .u64 x, .pointer (some ⟨g, 0, none⟩)] w (DrewInt (if H % 2 ^ s ≠ 0 then (H / 2 ^ s) ||| 1 else if M < M2 then ((H - 1) / 2 ^ s) ||| 1 else (H / 2 ^ s) ||| (if M - M2 > 1 then 1 else 0)) w) := by
  have hb := and63 s hs
  have mA := mul64_named x hi H M hx hhi hH hM
  have mB := mul64_named x lo M2 L2 hx hlo hM2 hL2
  have hHU : U64 H := by
    unfold U64 at *
    rw [hH]
    have := Nat.mul_le_mul (show x ≤ 18446744073709551615 by omega) (show hi ≤ 18446744073709551615 by omega)
    omega
  have hM2b : M2 + 2 ≤ 18446744073709551616 := by
    unfold U64 at *
    rw [hM2]
    have := Nat.mul_le_mul (show x ≤ 18446744073709551615 by omega) (show lo ≤ 18446744073709551615 by omega)
    omega
  have hMU : M < 18446744073709551616 := by rw [hM]; omega
  have hsb := shr_back H s hHU
  have hdm := Nat.div_add_mod H (2 ^ s)
  have hle : H / 2 ^ s ≤ H := Nat.div_le_self _ _
  have hcast : (H : Int) / 2 ^ s = ((H / 2 ^ s : Nat) : Int) := by simp
  have hH64 : H < 18446744073709551616 := hHU
  have hH0 : M < M2 → 1 ≤ H := by
    intro h
    rcases Nat.eq_zero_or_pos H with h0 | h0
    · exfalso
      have h1 := Nat.mul_le_mul_left x hh
      have h2 : M2 ≤ x := by
        rw [hM2]
        have := Nat.mul_le_mul_left x (show lo ≤ 18446744073709551616 by unfold U64 at hlo; omega)
        omega
      rw [Nat.mul_one] at h1
      omega
    · exact h0
  clear hH hM hM2 hL2
  by_cases h1 : H % 2 ^ s ≠ 0
  · rw [if_pos h1]
    have hne : (IntKind.u64.wrap ((H : Int) / 2 ^ s * 2 ^ s) != (H : Int)) = true := by
      rw [hsb]
      have : H / 2 ^ s * 2 ^ s ≠ H := by
        rw [Nat.mul_comm]; generalize 2 ^ s * (H / 2 ^ s) = Y at *; omega
      exact bne_iff_ne.2 (by exact_mod_cast this)
    have hor : bits .or .u64 ((H : Int) / 2 ^ s) 1 = (((H / 2 ^ s) ||| 1 : Nat) : Int) := by
      rw [hcast]; exact u64_or_nat _ 1 (by omega) (by decide)
    clear hsb hdm hle hcast h1 hH0
    go_enter Tryd.func75, Tryd.ntmps75
    go_wp2_with fail
    refine (mA _).mono ?_
    rintro e w' ⟨rfl, rfl⟩
    go_wp2_with fail
    go_ret
    exact ⟨rfl, 0, rfl⟩
  · rw [if_neg h1]
    have hne : (IntKind.u64.wrap ((H : Int) / 2 ^ s * 2 ^ s) != (H : Int)) = false := by
      rw [hsb]
      have : H / 2 ^ s * 2 ^ s = H := by
        rw [Nat.mul_comm]; generalize 2 ^ s * (H / 2 ^ s) = Y at *; omega
      rw [this]
      exact bne_self_eq_false _
    by_cases hlt : M < M2
    · rw [if_pos hlt]
      have hH1 := hH0 hlt
      have hdl : decide ((M : Int) < (M2 : Int)) = true := by simpa using hlt
      have hdl' : decide (M < M2) = true := by simpa using hlt
      have hwr : IntKind.u64.wrap ((M : Int) - (M2 : Int)) = ((M + 18446744073709551616 - M2 : Nat) : Int) := by rw [IntKind.wrap_u64]; omega
      have hgt : decide ((1 : Int) < ((M + 18446744073709551616 - M2 : Nat) : Int)) = true := decide_eq_true (by omega)
      have hwH : IntKind.u64.wrap ((H : Int) - 1) = ((H - 1 : Nat) : Int) := by rw [IntKind.wrap_u64]; omega
      have hle1 : (H - 1) / 2 ^ s ≤ H - 1 := Nat.div_le_self _ _
      have hor : bits .or .u64 (((H - 1 : Nat) : Int) / 2 ^ s) 1 = ((((H - 1) / 2 ^ s) ||| 1 : Nat) : Int) := by
        rw [show ((H - 1 : Nat) : Int) / 2 ^ s = (((H - 1) / 2 ^ s : Nat) : Int) by simp]; exact u64_or_nat _ 1 (by omega) (by decide)
      clear hsb hdm hle hcast h1 hH0 hle1
      go_enter Tryd.func75, Tryd.ntmps75
      go_wp2_with fail
      refine (mA _).mono ?_
      rintro e w' ⟨rfl, rfl⟩
      go_wp2_with fail
      refine (mB _).mono ?_
      rintro e w' ⟨rfl, rfl⟩
      go_wp2_with fail
      refine (b2u_true _).mono ?_
      rintro e w' ⟨rfl, rfl⟩
      go_wp2_with fail
      go_quiet ((go_at_call 93; exact Calls.quiet_of_same (b2u_true _)))
      go_wp2_with fail
      go_ret
      exact ⟨rfl, _, rfl⟩
    · rw [if_neg hlt]
      have hdl : decide ((M : Int) < (M2 : Int)) = false := by simpa using hlt
      have hdl' : decide (M < M2) = false := by simpa using hlt
      have hwr : IntKind.u64.wrap ((M : Int) - (M2 : Int)) = ((M - M2 : Nat) : Int) := by rw [IntKind.wrap_u64]; omega
      have hwH : IntKind.u64.wrap ((H : Int) - 0) = (H : Int) := by rw [IntKind.wrap_u64]; omega
      by_cases hgt : M - M2 > 1
      · rw [if_pos hgt]
        have hg1 : decide ((1 : Int) < ((M - M2 : Nat) : Int)) = true := decide_eq_true (by omega)
        have hor : bits .or .u64 ((H : Int) / 2 ^ s) 1 = (((H / 2 ^ s) ||| 1 : Nat) : Int) := by
          rw [hcast]; exact u64_or_nat _ 1 (by omega) (by decide)
        clear hsb hdm hle hcast h1 hH0
        go_enter Tryd.func75, Tryd.ntmps75
        go_wp2_with fail
        refine (mA _).mono ?_
        rintro e w' ⟨rfl, rfl⟩
        go_wp2_with fail
        refine (mB _).mono ?_
        rintro e w' ⟨rfl, rfl⟩
        go_wp2_with fail
        refine (b2u_false _).mono ?_
        rintro e w' ⟨rfl, rfl⟩
        go_wp2_with fail
        go_quiet ((go_at_call 93; exact Calls.quiet_of_same (b2u_true _)))
        go_wp2_with fail
        go_ret
        exact ⟨rfl, _, rfl⟩
      · rw [if_neg hgt]
        have hg1 : decide ((1 : Int) < ((M - M2 : Nat) : Int)) = false := decide_eq_false (by omega)
        have hor : bits .or .u64 ((H : Int) / 2 ^ s) 0 = (((H / 2 ^ s) ||| 0 : Nat) : Int) := by
          rw [hcast]; exact u64_or_nat _ 0 (by omega) (by decide)
        have HOR := Lib.hid hor
        clear hor
        clear hsb hdm hle hcast h1 hH0
        go_enter Tryd.func75, Tryd.ntmps75
        go_wp2_with fail
        refine (mA _).mono ?_
        rintro e w' ⟨rfl, rfl⟩
        go_wp2_with fail
        refine (mB _).mono ?_
        rintro e w' ⟨rfl, rfl⟩
        go_wp2_with fail
        refine (b2u_false _).mono ?_
        rintro e w' ⟨rfl, rfl⟩
        go_wp2_with fail
        go_quiet ((go_at_call 93; exact Calls.quiet_of_same (b2u_false _)))
        go_wp2_with fail
        go_ret
        exact ⟨show Ending.returned (.int .u64 (bits .or .u64 ((H : Int) / 2 ^ s) 0)) = _ from by rw [HOR.out], _, rfl⟩

/-- uscale: what the plain law says. -/
theorem uscale_any (x hi lo s : Nat) (g : Nat) (w : World) (hx : U64 x) (hhi : U64 hi) (hlo : U64 lo) (hs : s < 64) (hh : 1 ≤ hi)
    (c0 : w.cell? ⟨g, 0, none⟩ = some (.int .u64 hi)) (c1 : w.cell? ⟨g, 1, none⟩ = some (.int .u64 lo)) (c2 : w.cell? ⟨g, 2, none⟩ = some (.int .i64 s)) :
    Calls Tryd.prog 75 #[.int .u64 x, .pointer (some ⟨g, 0, none⟩)] w (DrewInt (uscN x hi lo s) w) :=
  uscale_walk x hi lo s _ _ _ _ g w hx hhi hlo hs hh rfl rfl rfl rfl c0 c1 c2

set_option maxRecDepth 100000 in
set_option maxHeartbeats 1000000 in
/-- An unrounded number is divided by ten. -/
theorem div_any (u : Nat) (w : World) (hu : U64 u) :
    Calls Tryd.prog 83 #[.int .u64 u, .int .u64 10] w (DrewInt (u / 10 ||| u % 2 ||| (if u % 10 = 0 then 0 else 1)) w) := by
  have hw : IntKind.u64.wrap ((u : Int) / 10) = ((u / 10 : Nat) : Int) := by unfold U64 at hu; rw [IntKind.wrap_u64]; omega
  have hand : bits .and .u64 (u : Int) 1 = (u : Int) % 2 := by
    have := u64_and_nat u 1 hu (by decide)
    rw [Nat.and_one_is_mod] at this
    exact this
  have hor : bits .or .u64 (IntKind.u64.wrap ((u : Int) / 10)) ((u : Int) % 2) = ((u / 10 ||| u % 2 : Nat) : Int) := by
    rw [hw]
    exact u64_or_nat (u / 10) (u % 2) (by unfold U64 at hu; omega) (by omega)
  have hb : u / 10 ||| u % 2 < 18446744073709551616 := by
    have : u / 10 ||| u % 2 < 2 ^ 64 := Nat.or_lt_two_pow (by unfold U64 at hu; omega) (by omega)
    exact this
  have HOR := Lib.hid hor
  clear hor hw
  by_cases h0 : u % 10 = 0
  · rw [if_pos h0]
    have hne : ((u : Int) % 10 != 0) = false := by
      rw [show (u : Int) % 10 = ((u % 10 : Nat) : Int) by simp, h0]; rfl
    have hor2 := u64_or_nat (u / 10 ||| u % 2) 0 hb (by decide)
    have HOR2 := Lib.hid hor2
    clear hor2 hb h0
    go_enter Tryd.func83, Tryd.ntmps83
    go_wp2_with fail
    go_quiet ((go_at_call 94; exact Calls.quiet_of_same (b2r_false _)))
    go_wp2_with fail
    go_ret
    exact ⟨show Ending.returned (.int .u64 (bits .or .u64 (bits .or .u64 (IntKind.u64.wrap ((u : Int) / 10)) ((u : Int) % 2)) 0)) = _ from by (rw [HOR.out]; exact congrArg (fun x => Ending.returned (Value.int .u64 x)) HOR2.out), _, rfl⟩
  · rw [if_neg h0]
    have hne : ((u : Int) % 10 != 0) = true := by
      rw [show (u : Int) % 10 = ((u % 10 : Nat) : Int) by simp]
      exact bne_iff_ne.2 (by omega)
    have hor2 := u64_or_nat (u / 10 ||| u % 2) 1 hb (by decide)
    have HOR2 := Lib.hid hor2
    clear hor2 hb h0
    go_enter Tryd.func83, Tryd.ntmps83
    go_wp2_with fail
    go_quiet ((go_at_call 94; exact Calls.quiet_of_same (b2r_true _)))
    go_wp2_with fail
    go_ret
    exact ⟨show Ending.returned (.int .u64 (bits .or .u64 (bits .or .u64 (IntKind.u64.wrap ((u : Int) / 10)) ((u : Int) % 2)) 1)) = _ from by (rw [HOR.out]; exact congrArg (fun x => Ending.returned (Value.int .u64 x)) HOR2.out), _, rfl⟩

end Go.Proofs.YthfjpofbaeeafaaDoor
