/-
  uscale, prescale and the division of an unrounded number: what they answer.
  prescale, fixedWidthFloat and setDigits: what they answer.
  setDigits: a number's digits are laid, the noughts at their end are not counted.
-/
import Derived.Test.YthfjpofbaeeafaaDoorTabs
import Derived.Test.YthfjpofbaeeafaaDoorDR
import Derived.Test.YthfjpofbaeeafaaDoorInts
import Derived.LoopTactic
import Derived.Deep.LoopGhost
import Derived.Deep.DeepCutAuto
import Derived.Test.YthfjpofbaeeafaaDoorGL
namespace Go.Proofs.YthfjpofbaeeafaaDoor
open Go.RowKit

theorem b2u_true (w : World) : Calls Tryd.prog 93 #[.bool true] w fun e w' => e = .returned (.int .u64 1) ∧ w' = w := (bool2u_any true w).mono fun _ _ h => ⟨h.1, h.2.symm⟩
theorem b2u_false (w : World) : Calls Tryd.prog 93 #[.bool false] w fun e w' => e = .returned (.int .u64 0) ∧ w' = w := (bool2u_any false w).mono fun _ _ h => ⟨h.1, h.2.symm⟩
theorem b2r_true (w : World) : Calls Tryd.prog 94 #[.bool true] w fun e w' => e = .returned (.int .u64 1) ∧ w' = w := (bool2r_any true w).mono fun _ _ h => ⟨h.1, h.2.symm⟩
theorem b2r_false (w : World) : Calls Tryd.prog 94 #[.bool false] w fun e w' => e = .returned (.int .u64 0) ∧ w' = w := (bool2r_any false w).mono fun _ _ h => ⟨h.1, h.2.symm⟩
theorem and63 (s : Nat) (hs : s < 64) : bits .and .i64 (s : Int) 63 = s := by
  have : ∀ s : Fin 64, bits .and .i64 (s.val : Int) 63 = s.val := by decide
  exact this ⟨s, hs⟩

/-- What mul64 answers, by names. -/
theorem mul64_named (x y H M : Nat) (hx : U64 x) (hy : U64 y) (hH : H = x * y / 18446744073709551616) (hM : M = x * y % 18446744073709551616) (w : World) :
    Calls Tryd.prog 92 #[.int .u64 x, .int .u64 y] w fun e w' => e = .returned (.tuple #[.int .u64 (H : Int), .int .u64 (M : Int)]) ∧ w = w' := by
  subst hH; subst hM
  exact (Tryd.bits_Mul64 x y hx hy w).mono fun _ _ h => ⟨h.1, h.2.symm⟩

theorem shr_back (H s : Nat) (hH : U64 H) : IntKind.u64.wrap ((H : Int) / 2 ^ s * 2 ^ s) = ((H / 2 ^ s * 2 ^ s : Nat) : Int) := by
  have h1 : H / 2 ^ s * 2 ^ s ≤ H := Nat.div_mul_le_self _ _
  have e : (H : Int) / 2 ^ s * 2 ^ s = ((H / 2 ^ s * 2 ^ s : Nat) : Int) := by simp
  rw [e, IntKind.wrap_u64]
  unfold U64 at hH
  generalize H / 2 ^ s * 2 ^ s = Y at *
  omega

def DrewInt (n : Nat) (w : World) (e : Ending) (w' : World) : Prop := e = .returned (.int .u64 (n : Int)) ∧ ∃ k, w' = w.drewN k

set_option maxRecDepth 100000 in
set_option maxHeartbeats 1000000 in
theorem uscale_walk (x hi lo s H M M2 L2 : Nat) (g : Nat) (w : World) (hx : U64 x) (hhi : U64 hi) (hlo : U64 lo) (hs : s < 64) (hh : 1 ≤ hi)
    (hH : H = x * hi / 18446744073709551616) (hM : M = x * hi % 18446744073709551616) (hM2 : M2 = x * lo / 18446744073709551616) (hL2 : L2 = x * lo % 18446744073709551616)
    (c0 : w.cell? ⟨g, 0, none⟩ = some (.int .u64 hi)) (c1 : w.cell? ⟨g, 1, none⟩ = some (.int .u64 lo)) (c2 : w.cell? ⟨g, 2, none⟩ = some (.int .i64 s)) :
    Calls Tryd.prog 75 #[.int .u64 x, .pointer (some ⟨g, 0, none⟩)] w (DrewInt (if H % 2 ^ s ≠ 0 then (H / 2 ^ s) ||| 1 else if M < M2 then ((H - 1) / 2 ^ s) ||| 1 else (H / 2 ^ s) ||| (if M - M2 > 1 then 1 else 0)) w) := by
  have hb := and63 s hs
  have mA := mul64_named x hi H M hx hhi hH hM
  have mB := mul64_named x lo M2 L2 hx hlo hM2 hL2
  have hHU : U64 H := by
    unfold U64 at *
    rw [hH]
    have := Nat.mul_le_mul (show x ≤ 18446744073709551615 by omega) (show hi ≤ 18446744073709551615 by omega)
    omega
  have hM2b : M2 + 2 ≤ 18446744073709551616 := by
    unfold U64 at *
    rw [hM2]
    have := Nat.mul_le_mul (show x ≤ 18446744073709551615 by omega) (show lo ≤ 18446744073709551615 by omega)
    omega
  have hMU : M < 18446744073709551616 := by rw [hM]; omega
  have hsb := shr_back H s hHU
  have hdm := Nat.div_add_mod H (2 ^ s)
  have hle : H / 2 ^ s ≤ H := Nat.div_le_self _ _
  have hcast : (H : Int) / 2 ^ s = ((H / 2 ^ s : Nat) : Int) := by simp
  have hH64 : H < 18446744073709551616 := hHU
  have hH0 : M < M2 → 1 ≤ H := by
    intro h
    rcases Nat.eq_zero_or_pos H with h0 | h0
    · exfalso
      have h1 := Nat.mul_le_mul_left x hh
      have h2 : M2 ≤ x := by
        rw [hM2]
        have := Nat.mul_le_mul_left x (show lo ≤ 18446744073709551616 by unfold U64 at hlo; omega)
        omega
      rw [Nat.mul_one] at h1
      omega
    · exact h0
  clear hH hM hM2 hL2
  by_cases h1 : H % 2 ^ s ≠ 0
  · rw [if_pos h1]
    have hne : (IntKind.u64.wrap ((H : Int) / 2 ^ s * 2 ^ s) != (H : Int)) = true := by
      rw [hsb]
      have : H / 2 ^ s * 2 ^ s ≠ H := by
        rw [Nat.mul_comm]; generalize 2 ^ s * (H / 2 ^ s) = Y at *; omega
      exact bne_iff_ne.2 (by exact_mod_cast this)
    have hor : bits .or .u64 ((H : Int) / 2 ^ s) 1 = (((H / 2 ^ s) ||| 1 : Nat) : Int) := by
      rw [hcast]; exact u64_or_nat _ 1 (by omega) (by decide)
    clear hsb hdm hle hcast h1 hH0
    go_enter Tryd.func75, Tryd.ntmps75
    go_wp2_with fail
    refine (mA _).mono ?_
    rintro e w' ⟨rfl, rfl⟩
    go_wp2_with fail
    go_ret
    exact ⟨rfl, 0, rfl⟩
  · rw [if_neg h1]
    have hne : (IntKind.u64.wrap ((H : Int) / 2 ^ s * 2 ^ s) != (H : Int)) = false := by
      rw [hsb]
      have : H / 2 ^ s * 2 ^ s = H := by
        rw [Nat.mul_comm]; generalize 2 ^ s * (H / 2 ^ s) = Y at *; omega
      rw [this]
      exact bne_self_eq_false _
    by_cases hlt : M < M2
    · rw [if_pos hlt]
      have hH1 := hH0 hlt
      have hdl : decide ((M : Int) < (M2 : Int)) = true := by simpa using hlt
      have hdl' : decide (M < M2) = true := by simpa using hlt
      have hwr : IntKind.u64.wrap ((M : Int) - (M2 : Int)) = ((M + 18446744073709551616 - M2 : Nat) : Int) := by rw [IntKind.wrap_u64]; omega
      have hgt : decide ((1 : Int) < ((M + 18446744073709551616 - M2 : Nat) : Int)) = true := decide_eq_true (by omega)
      have hwH : IntKind.u64.wrap ((H : Int) - 1) = ((H - 1 : Nat) : Int) := by rw [IntKind.wrap_u64]; omega
      have hle1 : (H - 1) / 2 ^ s ≤ H - 1 := Nat.div_le_self _ _
      have hor : bits .or .u64 (((H - 1 : Nat) : Int) / 2 ^ s) 1 = ((((H - 1) / 2 ^ s) ||| 1 : Nat) : Int) := by
        rw [show ((H - 1 : Nat) : Int) / 2 ^ s = (((H - 1) / 2 ^ s : Nat) : Int) by simp]; exact u64_or_nat _ 1 (by omega) (by decide)
      clear hsb hdm hle hcast h1 hH0 hle1
      go_enter Tryd.func75, Tryd.ntmps75
      go_wp2_with fail
      refine (mA _).mono ?_
      rintro e w' ⟨rfl, rfl⟩
      go_wp2_with fail
      refine (mB _).mono ?_
      rintro e w' ⟨rfl, rfl⟩
      go_wp2_with fail
      refine (b2u_true _).mono ?_
      rintro e w' ⟨rfl, rfl⟩
      go_wp2_with fail
      go_quiet ((go_at_call 93; exact Calls.quiet_of_same (b2u_true _)))
      go_wp2_with fail
      go_ret
      exact ⟨rfl, _, rfl⟩
    · rw [if_neg hlt]
      have hdl : decide ((M : Int) < (M2 : Int)) = false := by simpa using hlt
      have hdl' : decide (M < M2) = false := by simpa using hlt
      have hwr : IntKind.u64.wrap ((M : Int) - (M2 : Int)) = ((M - M2 : Nat) : Int) := by rw [IntKind.wrap_u64]; omega
      have hwH : IntKind.u64.wrap ((H : Int) - 0) = (H : Int) := by rw [IntKind.wrap_u64]; omega
      by_cases hgt : M - M2 > 1
      · rw [if_pos hgt]
        have hg1 : decide ((1 : Int) < ((M - M2 : Nat) : Int)) = true := decide_eq_true (by omega)
        have hor : bits .or .u64 ((H : Int) / 2 ^ s) 1 = (((H / 2 ^ s) ||| 1 : Nat) : Int) := by
          rw [hcast]; exact u64_or_nat _ 1 (by omega) (by decide)
        clear hsb hdm hle hcast h1 hH0
        go_enter Tryd.func75, Tryd.ntmps75
        go_wp2_with fail
        refine (mA _).mono ?_
        rintro e w' ⟨rfl, rfl⟩
        go_wp2_with fail
        refine (mB _).mono ?_
        rintro e w' ⟨rfl, rfl⟩
        go_wp2_with fail
        refine (b2u_false _).mono ?_
        rintro e w' ⟨rfl, rfl⟩
        go_wp2_with fail
        go_quiet ((go_at_call 93; exact Calls.quiet_of_same (b2u_true _)))
        go_wp2_with fail
        go_ret
        exact ⟨rfl, _, rfl⟩
      · rw [if_neg hgt]
        have hg1 : decide ((1 : Int) < ((M - M2 : Nat) : Int)) = false := decide_eq_false (by omega)
        have hor : bits .or .u64 ((H : Int) / 2 ^ s) 0 = (((H / 2 ^ s) ||| 0 : Nat) : Int) := by
          rw [hcast]; exact u64_or_nat _ 0 (by omega) (by decide)
        have HOR := Lib.hid hor
        clear hor
        clear hsb hdm hle hcast h1 hH0
        go_enter Tryd.func75, Tryd.ntmps75
        go_wp2_with fail
        refine (mA _).mono ?_
        rintro e w' ⟨rfl, rfl⟩
        go_wp2_with fail
        refine (mB _).mono ?_
        rintro e w' ⟨rfl, rfl⟩
        go_wp2_with fail
        refine (b2u_false _).mono ?_
        rintro e w' ⟨rfl, rfl⟩
        go_wp2_with fail
        go_quiet ((go_at_call 93; exact Calls.quiet_of_same (b2u_false _)))
        go_wp2_with fail
        go_ret
        exact ⟨show Ending.returned (.int .u64 (bits .or .u64 ((H : Int) / 2 ^ s) 0)) = _ from by rw [HOR.out], _, rfl⟩

/-- uscale: what the plain law says. -/
theorem uscale_any (x hi lo s : Nat) (g : Nat) (w : World) (hx : U64 x) (hhi : U64 hi) (hlo : U64 lo) (hs : s < 64) (hh : 1 ≤ hi)
    (c0 : w.cell? ⟨g, 0, none⟩ = some (.int .u64 hi)) (c1 : w.cell? ⟨g, 1, none⟩ = some (.int .u64 lo)) (c2 : w.cell? ⟨g, 2, none⟩ = some (.int .i64 s)) :
    Calls Tryd.prog 75 #[.int .u64 x, .pointer (some ⟨g, 0, none⟩)] w (DrewInt (uscN x hi lo s) w) :=
  uscale_walk x hi lo s _ _ _ _ g w hx hhi hlo hs hh rfl rfl rfl rfl c0 c1 c2

set_option maxRecDepth 100000 in
set_option maxHeartbeats 1000000 in
/-- An unrounded number is divided by ten. -/
theorem div_any (u : Nat) (w : World) (hu : U64 u) :
    Calls Tryd.prog 83 #[.int .u64 u, .int .u64 10] w (DrewInt (u / 10 ||| u % 2 ||| (if u % 10 = 0 then 0 else 1)) w) := by
  have hw : IntKind.u64.wrap ((u : Int) / 10) = ((u / 10 : Nat) : Int) := by unfold U64 at hu; rw [IntKind.wrap_u64]; omega
  have hand : bits .and .u64 (u : Int) 1 = (u : Int) % 2 := by
    have := u64_and_nat u 1 hu (by decide)
    rw [Nat.and_one_is_mod] at this
    exact this
  have hor : bits .or .u64 (IntKind.u64.wrap ((u : Int) / 10)) ((u : Int) % 2) = ((u / 10 ||| u % 2 : Nat) : Int) := by
    rw [hw]
    exact u64_or_nat (u / 10) (u % 2) (by unfold U64 at hu; omega) (by omega)
  have hb : u / 10 ||| u % 2 < 18446744073709551616 := by
    have : u / 10 ||| u % 2 < 2 ^ 64 := Nat.or_lt_two_pow (by unfold U64 at hu; omega) (by omega)
    exact this
  have HOR := Lib.hid hor
  clear hor hw
  by_cases h0 : u % 10 = 0
  · rw [if_pos h0]
    have hne : ((u : Int) % 10 != 0) = false := by
      rw [show (u : Int) % 10 = ((u % 10 : Nat) : Int) by simp, h0]; rfl
    have hor2 := u64_or_nat (u / 10 ||| u % 2) 0 hb (by decide)
    have HOR2 := Lib.hid hor2
    clear hor2 hb h0
    go_enter Tryd.func83, Tryd.ntmps83
    go_wp2_with fail
    go_quiet ((go_at_call 94; exact Calls.quiet_of_same (b2r_false _)))
    go_wp2_with fail
    go_ret
    exact ⟨show Ending.returned (.int .u64 (bits .or .u64 (bits .or .u64 (IntKind.u64.wrap ((u : Int) / 10)) ((u : Int) % 2)) 0)) = _ from by (rw [HOR.out]; exact congrArg (fun x => Ending.returned (Value.int .u64 x)) HOR2.out), _, rfl⟩
  · rw [if_neg h0]
    have hne : ((u : Int) % 10 != 0) = true := by
      rw [show (u : Int) % 10 = ((u % 10 : Nat) : Int) by simp]
      exact bne_iff_ne.2 (by omega)
    have hor2 := u64_or_nat (u / 10 ||| u % 2) 1 hb (by decide)
    have HOR2 := Lib.hid hor2
    clear hor2 hb h0
    go_enter Tryd.func83, Tryd.ntmps83
    go_wp2_with fail
    go_quiet ((go_at_call 94; exact Calls.quiet_of_same (b2r_true _)))
    go_wp2_with fail
    go_ret
    exact ⟨show Ending.returned (.int .u64 (bits .or .u64 (bits .or .u64 (IntKind.u64.wrap ((u : Int) / 10)) ((u : Int) % 2)) 1)) = _ from by (rw [HOR.out]; exact congrArg (fun x => Ending.returned (Value.int .u64 x)) HOR2.out), _, rfl⟩


/-- The scaler in block g. -/
structure Scl (w : World) (g hi lo s : Nat) : Prop where
  c0 : w.cell? ⟨g, 0, none⟩ = some (.int .u64 hi)
  c1 : w.cell? ⟨g, 1, none⟩ = some (.int .u64 lo)
  c2 : w.cell? ⟨g, 2, none⟩ = some (.int .i64 s)

theorem Scl.drewN {w : World} {g hi lo s : Nat} (h : Scl w g hi lo s) (n : Nat) : Scl (w.drewN n) g hi lo s := ⟨h.c0, h.c1, h.c2⟩

def PreRes (W : World) (g hi lo s : Nat) (e : Ending) (w' : World) : Prop := e = .returned (.tuple #[]) ∧ Scl w' g hi lo s ∧ Still W w' ∧ W.heap.size < w'.heap.size

theorem scl_three {w : World} {g hi lo s : Nat} {a b c : Value} (h0 : w.cell? ⟨g, 0, none⟩ = some a) (h1 : w.cell? ⟨g, 1, none⟩ = some b) (h2 : w.cell? ⟨g, 2, none⟩ = some c) :
    Scl (((w.setCell ⟨g, 0, none⟩ (.int .u64 hi)).setCell ⟨g, 1, none⟩ (.int .u64 lo)).setCell ⟨g, 2, none⟩ (.int .i64 s)) g hi lo s := by
  have e01 : (⟨g, 0, none⟩ : Addr) ≠ ⟨g, 1, none⟩ := fun q => by have := congrArg Addr.off q; simp at this
  have e02 : (⟨g, 0, none⟩ : Addr) ≠ ⟨g, 2, none⟩ := fun q => by have := congrArg Addr.off q; simp at this
  have e12 : (⟨g, 1, none⟩ : Addr) ≠ ⟨g, 2, none⟩ := fun q => by have := congrArg Addr.off q; simp at this
  refine ⟨?_, ?_, ?_⟩
  · rw [World.cell?_setCell_other _ _ _ _ e02.symm, World.cell?_setCell_other _ _ _ _ e01.symm, World.cell?_setCell_same _ _ _ h0]
  · rw [World.cell?_setCell_other _ _ _ _ e12.symm, World.cell?_setCell_same _ _ _ (by rw [World.cell?_setCell_other _ _ _ _ e01]; exact h1)]
  · rw [World.cell?_setCell_same _ _ _ (by rw [World.cell?_setCell_other _ _ _ _ e12, World.cell?_setCell_other _ _ _ _ e02]; exact h2)]

set_option maxRecDepth 100000 in
set_option maxHeartbeats 1000000 in
theorem prescale_any {B : Nat} (W : World) (hT : Tabs B W) (e p lp : Int) (i s : Nat) (hi : i < 696) (hp : p = (i : Int) - 348) (hs : (s : Int) = -(e + lp + 3)) (he : -2000 < e) (he2 : e < 2000) (hl : -2000 < lp) (hl2 : lp < 2000) (a b c : Value) :
    Calls Tryd.prog 73 #[.pointer (some ⟨W.heap.size, 0, none⟩), .int .i64 e, .int .i64 p, .int .i64 lp] (W.alloc (.cells #[a, b, c] 119)) (PreRes W W.heap.size (rowHi i) (rowLo i) s) := by
  have hS0 : Still W (W.alloc (.cells #[a, b, c] 119)) := (Still.refl W).alloc _
  have hT1 := hS0.tabs hT
  obtain ⟨t0, t1⟩ := hT1.tab i hi
  have hsz : (W.alloc (.cells #[a, b, c] 119)).heap.size = W.heap.size + 1 := by simp
  have n0 : (W.alloc (.cells #[a, b, c] 119)).cell? ⟨W.heap.size, 0, none⟩ = some a := (World.cell?_alloc_new W _ _ 0).trans (by simp)
  have n1 : (W.alloc (.cells #[a, b, c] 119)).cell? ⟨W.heap.size, 1, none⟩ = some b := (World.cell?_alloc_new W _ _ 1).trans (by simp)
  have n2 : (W.alloc (.cells #[a, b, c] 119)).cell? ⟨W.heap.size, 2, none⟩ = some c := (World.cell?_alloc_new W _ _ 2).trans (by simp)
  have f0 : ∀ o, (W.alloc (.cells #[a, b, c] 119)).frozen? ⟨W.heap.size, o, none⟩ = false := fun o => by
    have h := heap_alloc_new W (.cells #[a, b, c] 119)
    unfold World.frozen?
    rw [h]
    simp
  have h3 : 3 < W.heap.size := by have := hT.le; have := hT.lo; omega
  obtain ⟨w, hw⟩ : ∃ w, w = W.alloc (.cells #[a, b, c] 119) := ⟨_, rfl⟩
  rw [← hw] at hS0 hT1 t0 t1 hsz n0 n1 n2 f0 ⊢
  have f00 := f0 0
  have f01 := f0 1
  have f02 := f0 2
  obtain ⟨g, hg⟩ : ∃ g, g = W.heap.size := ⟨_, rfl⟩
  rw [← hg] at hsz n0 n1 n2 f00 f01 f02 h3 ⊢
  have hgs : g < w.heap.size := by omega
  have hS0' : ∀ x (v : Value), Still W (w.setCell ⟨g, x, none⟩ v) := fun x v => hS0.setCell (by rw [hg]; exact Nat.le_refl _) v
  have hidx : p + 348 = (i : Int) := by omega
  have hp0 : (0 : Int) ≤ p + 348 := by omega
  have hp1 : p + 348 < 696 := by omega
  have hneg : IntKind.i64.wrap (-(e + lp + 3)) = (s : Int) := by rw [IntKind.wrap_i64]; omega
  have ne3 : ∀ x y (v : Value), (w.setCell ⟨g, x, none⟩ v).cell? ⟨3, y, none⟩ = w.cell? ⟨3, y, none⟩ := fun x y v => World.cell?_setCell_other w _ _ v (by intro q; have := congrArg Addr.block q; simp at this; omega)
  have hb0 : i * 2 = 2 * i := Nat.mul_comm _ _
  rw [← hb0] at t0 t1
  rw [show rowHi i = p10hi i from rfl, show rowLo i = p10lo i from rfl]
  subst hp
  have hfin : ∀ v0 v1 v2 : Value, Still W (((w.setCell ⟨g, 0, none⟩ v0).setCell ⟨g, 1, none⟩ v1).setCell ⟨g, 2, none⟩ v2) := fun v0 v1 v2 =>
    ((hS0.setCell (by rw [hg]; exact Nat.le_refl _) v0).setCell (p := ⟨g, 1, none⟩) (by rw [hg]; exact Nat.le_refl _) v1).setCell (p := ⟨g, 2, none⟩) (by rw [hg]; exact Nat.le_refl _) v2
  have HF := Lib.hid hfin
  have HW := Lib.hid hg
  clear hfin hS0 hS0' hT1 hb0 hw hg f0 hidx
  go_enter Tryd.func73, Tryd.ntmps73
  go_wp2_with fail
  go_end0
  refine ⟨rfl, ?_, HF.out _ _ _, ?_⟩
  · rw [show -(e + lp + 3) = (s : Int) by omega]
    exact scl_three n0 n1 n2
  · simp only [World.size_setCell]
    have := HW.out
    omega

theorem Tabs.pow {B : Nat} {w : World} (h : Tabs B w) (n : Nat) (hn : n < 20) : w.cell? ⟨2, n, none⟩ = some (.int .u64 ((10 ^ n : Nat) : Int)) := by
  have hg : Tryd.prog.globalNamed "internal/strconv.uint64pow10" = some 2 := by kernel_rfl
  have hc := World.var?_cell hg h.u10 n
  rw [hc, List.getElem?_toArray, List.getElem?_map]
  unfold Lib.pow10Tab
  rw [List.getElem?_map, List.getElem?_range hn]
  rfl

/-- The unrounded number at q digits behind the point. -/
def UU (M : Nat) (E q : Int) : Nat := unr (4 * VN M E q) VC
theorem UU_div (M : Nat) (E q : Int) (hq : -999 ≤ q) : UU M E q / 10 ||| UU M E q % 2 ||| (if UU M E q % 10 = 0 then 0 else 1) = UU M E (q - 1) := by
  unfold UU
  rw [unr_div _ _ VC_pos]
  refine unr_cross ?_ (Nat.mul_pos VC_pos (by decide)) VC_pos
  have e := VN_ten M E (q - 1) 1 (by omega)
  rw [show q - 1 + ((1 : Nat) : Int) = q by omega, Nat.pow_one] at e
  rw [e]
  generalize VC = C
  generalize VN M E (q - 1) = V
  ac_rfl
theorem unr_le {N D a : Nat} (hD : 0 < D) (h : N < a * D) : unr (4 * N) D ≤ 4 * a := by
  obtain ⟨F, R, e, hR⟩ := frac_form (4 * N) D hD
  rw [unr_form e hR]
  have : F < 4 * a := by
    rcases Nat.lt_or_ge F (4 * a) with g | g
    · exact g
    · have := Nat.mul_le_mul_right D g
      rw [Nat.mul_assoc] at this
      omega
  split <;> omega
theorem VN_mono (M : Nat) (E : Int) {q p : Int} (hq : -1000 ≤ q) (h : q ≤ p) : VN M E q ≤ VN M E p := by
  have e := VN_ten M E q (p - q).toNat hq
  rw [show q + ((p - q).toNat : Int) = p by omega] at e
  rw [e]
  exact Nat.le_mul_of_pos_right _ (Nat.pow_pos (by decide))

theorem div_UU (M : Nat) (E q : Int) (w : World) (hq : -999 ≤ q) (hu : UU M E q < 18446744073709551616) : Calls Tryd.prog 83 #[.int .u64 (UU M E q), .int .u64 10] w (DrewInt (UU M E (q - 1)) w) := by
  have := div_any (UU M E q) w hu
  rwa [UU_div M E q hq] at this
theorem round_UU (M : Nat) (E q : Int) (w : World) (hu : UU M E q < 18446744073709551000) : Calls Tryd.prog 79 #[.int .u64 (UU M E q)] w fun e w' => e = .returned (.int .u64 (rh (VN M E q) VC : Nat)) ∧ w = w' := by
  refine (round_any (UU M E q) w (by omega) (by omega)).mono fun e w' ⟨h1, h2⟩ => ⟨?_, h2⟩
  rw [h1, ← rh_unr _ _ VC_pos]
  exact ret_int (by simp [UU])

def FixRes (W : World) (d : Nat) (p : Int) (e : Ending) (w' : World) : Prop := e = .returned (.tuple #[.int .u64 (d : Int), .int .i64 p]) ∧ Still W w'

set_option maxRecDepth 100000 in
set_option maxHeartbeats 2000000 in
theorem fixed_any {B : Nat} (W : World) (hT : Tabs B W) (M z y m : Nat) (E e k : Int) (n : Nat) (prec : Int) (f : Int) (isf : Bool) (hf : ((f == 102) : Bool) = isf) (hn1 : 1 ≤ n) (hn2 : n ≤ 18)
    (hm : m = M * 2 ^ z) (hy : m = y * 2 ^ 11) (hy1 : 0 < y) (hy2 : y < 9007199254740992) (hm1 : 2 ^ 63 ≤ m) (he : e = E - z) (hk : k = e + 63) (hk0 : -1090 ≤ k) (hk1 : k ≤ 1100) (hE : -1200 ≤ e)
    (hp0 : -2000 ≤ prec) (hp1 : prec ≤ 2000) (hpq : isf = true → prec ≤ fixQ M E k n ∧ -900 ≤ prec) :
    Calls Tryd.prog 64 #[.int .u64 m, .int .i64 e, .int .i64 n, .int .i64 prec, .int .u8 f] W (FixRes W (rh (VN M E (if isf then prec else fixQ M E k n)) VC) (-(if isf then prec else fixQ M E k n))) := by
  obtain ⟨L, hL⟩ : ∃ L, L = l2 k := ⟨_, rfl⟩
  obtain ⟨P, hP⟩ : ∃ P, P = fixP k n := ⟨_, rfl⟩
  obtain ⟨LP, hLP⟩ : ∃ LP, LP = lp10 P := ⟨_, rfl⟩
  have hPL : P = (n : Int) - 1 - L := by rw [hP, hL]; rfl
  have hL1 : L = k * 78913 / 262144 := hL
  have hLP1 : LP = P * 108853 / 32768 := hLP
  have hPr : -348 ≤ P ∧ P ≤ 347 := by omega
  have hLr : -400 ≤ L ∧ L ≤ 400 := by omega
  have hLPr : -1900 < LP ∧ LP < 1900 := by omega
  obtain ⟨s, hs⟩ : ∃ s : Nat, (s : Int) = -(e + LP + 3) := ⟨(-(e + LP + 3)).toNat, by omega⟩
  have hs1 : 1 ≤ s ∧ s < 64 := by omega
  obtain ⟨i, hi⟩ : ∃ i : Nat, P = (i : Int) - 348 := ⟨(P + 348).toNat, by omega⟩
  have hi2 : i < 696 := by omega
  have hmU : m < 2 ^ 64 := by omega
  have cL : ∀ w, Calls Tryd.prog 63 #[.int .i64 (e + 63)] w fun e' w' => e' = .returned (.int .i64 L) ∧ w = w' := fun w => by
    have := log10Pow2_any (e + 63) w (by omega) (by omega)
    rw [hL1, hk]
    exact this
  have cP : ∀ w, Calls Tryd.prog 74 #[.int .i64 P] w fun e' w' => e' = .returned (.int .i64 LP) ∧ w = w' := fun w => by
    have := log2Pow10_any P w (by omega) (by omega)
    rw [hLP1]
    exact this
  have cS := prescale_any W hT e P LP i s hi2 hi hs (by omega) (by omega) (by omega) (by omega) (.int .u64 0) (.int .u64 0) (.int .i64 0)
  obtain ⟨r1, r2, r3, _, _⟩ := row_at i hi2
  have hUU : uscN m (rowHi i) (rowLo i) s = UU M E P := by
    have := usc_a y e P s (by omega) (by omega) (by omega) hy1 hy2 (by rw [hs, hLP]) hs1.1
    rw [show (P + 348).toNat = i by omega, ← hy] at this
    rw [this]
    unfold UU
    rw [hm, VN_two M z e P (by omega), show e + (z : Int) = E by omega]
  have cU : ∀ (w : World) (g : Nat), Scl w g (rowHi i) (rowLo i) s → Calls Tryd.prog 75 #[.int .u64 m, .pointer (some ⟨g, 0, none⟩)] w (DrewInt (UU M E P) w) := fun w g h => by
    rw [← hUU]
    exact uscale_any m _ _ s g w (by unfold U64; omega) (by unfold U64; omega) (by unfold U64; omega) hs1.2 (by omega) h.c0 h.c1 h.c2
  -- how great the unrounded number is
  have hVP : VN M E P < 2 * 10 ^ n * VC := by
    have h1 : VN m e P = VN M E P := by rw [hm, VN_two M z e P (by omega), show e + (z : Int) = E by omega]
    have h2 : VN m e (-L - 1) < 2 * VN 1 k (-L - 1) := by
      have := VN_lt (x := m) (y := 2 ^ 64) (by omega) e (-L - 1)
      rw [VN_one (k + 1) _ (2 ^ 64) 64 rfl e (by omega) (by omega)] at this
      have h3 := VN_half 1 k (-L - 1) 1 (by omega)
      rw [Nat.pow_one] at h3
      rw [show k + ((1 : Nat) : Int) = k + 1 by omega] at h3
      omega
    have h3 := size_hi m e k n 2 (by rw [← hL]; exact h2) (by omega) (by omega)
    rw [← hL, show -L - 1 + (n : Int) = P by omega, h1] at h3
    rw [Nat.mul_right_comm]
    exact h3
  have h10n : 10 ^ n ≤ 1000000000000000000 := Nat.le_trans (Nat.pow_le_pow_right (by decide) hn2) (by decide)
  have hbig : ∀ q, -1000 ≤ q → q ≤ P → UU M E q < 18446744073709551000 := fun q h0 h1 => by
    have h2 := Nat.lt_of_le_of_lt (VN_mono M E h0 h1) hVP
    have h3 := unr_le VC_pos h2
    unfold UU
    omega
  have hpow := hT.pow n (by omega)
  obtain ⟨T, hTh⟩ : ∃ T : Nat, T = 10 ^ n * 4 - 2 := ⟨_, rfl⟩
  have h10p : 1 ≤ 10 ^ n := Nat.pow_pos (by decide)
  have cM : ∀ w, Calls Tryd.prog 82 #[.int .u64 ((10 ^ n : Nat) : Int)] w fun e' w' => e' = .returned (.int .u64 (T : Int)) ∧ w = w' := fun w => by
    have := unmin_any ((10 ^ n : Nat) : Int) w (by omega) (by omega)
    rw [show (T : Int) = ((10 ^ n : Nat) : Int) * 4 - 2 by omega]
    exact this
  obtain ⟨T10, hT10⟩ : ∃ T10 : Nat, T10 = 10 ^ n := ⟨_, rfl⟩
  rw [← hT10] at cM hpow
  have hfq : fixQ M E k n = if T ≤ UU M E P then P - 1 else P := by
    unfold fixQ fixU
    rw [← hP, hTh]
    unfold UU
    by_cases h : 10 ^ n * 4 - 2 ≤ unr (4 * VN M E P) VC
    · rw [if_pos (decide_eq_true h), if_pos h]
    · rw [if_neg (by simpa using h), if_neg h]
  obtain ⟨q, hq⟩ : ∃ q, q = fixQ M E k n := ⟨_, rfl⟩
  rw [← hq] at hfq hpq ⊢
  have hqr : -1000 ≤ q ∧ q ≤ P := by rw [hfq]; split <;> omega
  obtain ⟨gg, hgg⟩ : ∃ gg, gg = W.heap.size := ⟨_, rfl⟩
  rw [← hgg] at cS
  have HFQ := Lib.hid hfq
  have hn0 : n < 20 := by omega
  have hnI : (n : Int) < 20 := by omega
  have hWg : gg < W.heap.size + 1 := by omega
  have HGG := Lib.hid hgg
  have hPn : (n : Int) - 1 - L = P := by omega
  have hP1 : -1000 ≤ P - 1 := by omega
  obtain ⟨D, hD⟩ : ∃ D, D = rh (VN M E (if isf then prec else q)) VC := ⟨_, rfl⟩
  obtain ⟨QQ, hQQ⟩ : ∃ QQ, QQ = -(if isf then prec else q) := ⟨_, rfl⟩
  rw [← hD, ← hQQ]
  have HD := Lib.hid hD
  have HQQ := Lib.hid hQQ
  have HF := Lib.hid hf
  have HPQ := Lib.hid hpq
  clear hD hQQ hf hpq
  clear hL hP hLP hPL hL1 hLP1 hUU hVP h10n hTh hT10 hfq hq hgg hm hy hy1 hy2 hm1 hmU he hi hi2 hs r1 r2 r3 h10p
  go_enter Tryd.func64, Tryd.ntmps64
  go_wp2_with fail
  refine (cL _).mono ?_
  rintro e' w' ⟨rfl, rfl⟩
  go_wp2_with fail
  refine (cP _).mono ?_
  rintro e' w' ⟨rfl, rfl⟩
  go_wp2_with fail
  rw [← HGG.out]
  refine cS.mono ?_
  rintro e' w1 ⟨rfl, hscl, hst1, hsz1⟩
  go_wp2_with fail
  refine (cU _ _ hscl).mono ?_
  rintro e' w2 ⟨rfl, nd, rfl⟩
  have hst2 : Still W (w1.drewN nd) := hst1.drewN nd
  have hpow2 := hst2.cell hpow
  go_upto_if 32 with (go_at_call 82; refine (cM _).mono ?_; rintro e' w' ⟨rfl, rfl⟩)
  go_cut [13, 11] (fun u p wx => u = .int .u64 (UU M E q : Nat) ∧ p = .int .i64 q ∧ Still W wx)
  case first =>
    by_cases hu : T ≤ UU M E P
    · have hqe : q = P - 1 := by rw [HFQ.out, if_pos hu]
      have hb1 : UU M E P < 18446744073709551616 := Nat.lt_trans (hbig P (by omega) (Int.le_refl _)) (by decide)
      go_wp2_with fail
      refine (div_UU M E P _ (by omega) hb1).mono ?_
      rintro e' w3 ⟨rfl, nd2, rfl⟩
      rw [← hqe]
      go_wp2_with fail
      go_meet
      exact ⟨by rw [hqe], by rw [hqe], (hst2.drewN nd2)⟩
    · have hqe : P = q := by rw [HFQ.out, if_neg hu]
      go_wp2_with fail
      go_meet
      exact ⟨by rw [hqe], by rw [hqe], hst2⟩
  case rest =>
    obtain ⟨rfl, rfl, hst3⟩ := hcut
    have hbq := hbig q hqr.1 hqr.2
    cases isf
    · have hf' : ((f == 102) : Bool) = false := HF.out
      have hDD : D = rh (VN M E q) VC := HD.out
      have hQ2 : QQ = -q := HQQ.out
      have hrd : ∀ w, Calls Tryd.prog 79 #[.int .u64 (UU M E q)] w fun e' w' => e' = .returned (.int .u64 (D : Int)) ∧ w = w' := fun w => by
        rw [hDD]; exact round_UU M E q w hbq
      subst hQ2
      clear HD HQQ HPQ HF hDD
      have hneg : IntKind.i64.wrap (-q) = -q := by rw [IntKind.wrap_i64]; omega
      go_wp2_with (go_at_call 79; refine (hrd _).mono ?_; rintro e' w' ⟨rfl, rfl⟩)
      exact bodyPost_ret (v := .tuple #[.int .u64 (D : Int), .int .i64 (-q)]) (by simp [results, Tryd.results64, go_sem]) rfl ⟨rfl, hst3⟩
    · have hf' : ((f == 102) : Bool) = true := HF.out
      have hDD : D = rh (VN M E prec) VC := HD.out
      have hQ2 : QQ = -prec := HQQ.out
      have hpq2 := HPQ.out rfl
      have hrd : ∀ w, UU M E prec < 18446744073709551000 → Calls Tryd.prog 79 #[.int .u64 (UU M E prec)] w fun e' w' => e' = .returned (.int .u64 (D : Int)) ∧ w = w' := fun w h => by
        rw [hDD]; exact round_UU M E prec w h
      subst hQ2
      clear HD HQQ HPQ HF hDD
      go_wp2_with fail
      go_loopg [13, 11] ((q - prec).toNat) (fun r u p wr => ∃ j : Int, u = .int .u64 (UU M E j : Nat) ∧ p = .int .i64 j ∧ prec ≤ j ∧ j ≤ q ∧ (r : Int) = j - prec ∧ Still W wr)
      case atStart => exact ⟨q, rfl, rfl, by omega, by omega, by omega, hst3⟩
      case round =>
        obtain ⟨j, rfl, rfl, hj1, hj2, hj3, hst4⟩ := hrel
        have hbj := hbig j (by omega) (by omega)
        have hbj' : UU M E j < 18446744073709551616 := Nat.lt_trans hbj (by decide)
        by_cases hgt : prec < j
        · go_wp2_with fail
          refine (div_UU M E j _ (by omega) hbj').mono ?_
          rintro e' w3 ⟨rfl, nd2, rfl⟩
          go_wp2_with fail
          go_roundg (gk - 1)
          case measure => omega
          case rel => exact ⟨j - 1, rfl, rfl, by omega, by omega, by omega, hst4.drewN nd2⟩
        · obtain rfl : j = prec := by omega
          have hneg : IntKind.i64.wrap (-j) = -j := by rw [IntKind.wrap_i64]; omega
          go_wp2_with (go_at_call 79; refine (hrd _ hbj).mono ?_; rintro e' w' ⟨rfl, rfl⟩)
          exact bodyPost_ret (v := .tuple #[.int .u64 (D : Int), .int .i64 (-j)]) (by simp [results, Tryd.results64, go_sem]) rfl ⟨rfl, hst4⟩


theorem strip_take_zero (l : List UInt8) (j : Nat) (hj : j < l.length) (h : l[j] = 48) : strip (l.take (j + 1)) = strip (l.take j) := by
  rw [List.take_succ_eq_append_getElem hj, h, strip_snoc_zero]
theorem strip_take_end (l : List UInt8) (j : Nat) (hj : j < l.length) (h : l[j] ≠ 48) : strip (l.take (j + 1)) = l.take (j + 1) := by
  rw [List.take_succ_eq_append_getElem hj, strip_snoc _ _ h]

def SetRes (W : World) (g N : Nat) (d : Nat) (p : Int) (e : Ending) (w' : World) : Prop :=
  e = .returned (.tuple #[.int .i64 ((Lib.nDigits d : Int) + p), .int .i64 ((cutD d).length : Nat)]) ∧ W.keptBut w' (fun q => q.block = g) ∧
    ∃ ys, ys.length = N ∧ Row w' (.slice (some ⟨g, 0, none⟩) N N) ys g 0 N ∧ ys.take (cutD d).length = cutD d

set_option maxRecDepth 100000 in
set_option maxHeartbeats 1000000 in
theorem setDigits_any (g N : Nat) (xs : List UInt8) (W : World) (hr : Row W (.slice (some ⟨g, 0, none⟩) N N) xs g 0 N) (hN : xs.length = N) (hN32 : N ≤ 32) (d : Nat) (hd : U64 d) (nd : Nat) (hnd : Lib.nDigits d = nd) (hndN : nd ≤ N) (p : Int) (hp0 : -2000 < p) (hp1 : p < 2000) :
    Calls Tryd.prog 61 #[.slice (some ⟨g, 0, none⟩) N N, .int .u64 d, .int .i64 p, .int .i64 nd] W (SetRes W g N d p) := by
  have hsub := hr.sub 0 nd (by omega) (by omega)
  rw [Nat.sub_zero, Nat.sub_zero, Nat.add_zero] at hsub
  have hfb := formatBase10_any g 0 N d nd _ W hsub (by simp; omega) (by rw [← hnd]; exact Lib.lt_pow_nDigits d) hd (by omega)
  obtain ⟨l, hl⟩ : ∃ l, l = Lib.decDigits d := ⟨_, rfl⟩
  have hdg : digs d nd = l := by rw [hl, ← hnd, decDigits_digs]
  rw [hdg] at hfb
  have hll : l.length = nd := by rw [hl, Lib.decDigits_length, hnd]
  have hcut : cutD d = strip l := by rw [hl]; rfl
  have HC := Lib.hid hcut
  have HND := Lib.hid hnd
  have hNi : (nd : Int) ≤ N := by omega
  have hN2 : (N : Int) ≤ 32 := by omega
  clear hcut hl hdg hnd
  have hgl : g < W.heap.size ∨ N = 0 := by
    rcases Nat.eq_zero_or_pos N with h | h
    · exact Or.inr h
    · exact Or.inl (hr.lt h)
  go_enter Tryd.func61, Tryd.ntmps61
  go_wp2_with fail
  refine hfb.mono ?_
  rintro e w1 ⟨rfl, hrow, hk⟩
  have hfull : Row w1 (.slice (some ⟨g, 0, none⟩) N N) (l ++ xs.drop nd) g 0 N := by
    have hlen : (l ++ xs.drop nd).length = N := by rw [List.length_append, List.length_drop]; omega
    refine ⟨by rw [hlen], by omega, hr.max, fun i hi => ?_, fun j hj => ?_⟩
    · rw [bc_append]
      rcases Nat.lt_or_ge i nd with h | h
      · rw [hrow.get i (by omega), List.getElem?_append_left (by rw [bc_length]; omega)]
      · rw [List.getElem?_append_right (by rw [bc_length]; omega), bc_length]
        have hgl' : g < W.heap.size := by
          rcases hgl with h1 | h1
          · exact h1
          · rw [hlen] at hi; omega
        rw [hk.cell hgl' (fun ⟨j, h1, h2⟩ => by simp only [MemPlace.cell.injEq] at h2; omega), hr.get i (by omega)]
        unfold bc
        rw [List.map_drop, List.getElem?_drop]
        congr 1
        omega
    · exact hrow.there j hj
  have hkk : W.keptBut w1 (fun q => q.block = g) := World.keptBut_mono (fun q ⟨j, _, hq⟩ => by rw [hq]; rfl) hk
  have hcell : ∀ j (hj : j < l.length), w1.cell? ⟨g, j, none⟩ = some (.int .u8 (l[j].toNat : Int)) := fun j hj => by
    have h1 := hrow.at j (by omega)
    rwa [Nat.zero_add] at h1
  have HKK := Lib.hid hkk
  have HFULL := Lib.hid hfull
  clear hr hsub hrow hk hfull hkk
  go_wp2_with fail
  go_loopg [3] nd (fun r v wr => ∃ j : Nat, v = .int .i64 j ∧ j ≤ nd ∧ j ≤ r ∧ strip (l.take j) = strip l ∧ w1 = wr)
  case atStart => exact ⟨nd, rfl, Nat.le_refl _, Nat.le_refl _, by rw [← hll, List.take_length], rfl⟩
  case round =>
    obtain ⟨j, rfl, hj1, hj2, hst, rfl⟩ := hrel
    have HST := Lib.hid hst
    clear hst
    have fin : ∀ j, strip (l.take j) = strip l → l.take j = strip (l.take j) → j ≤ nd → SetRes W g N d p (.returned (.tuple #[.int .i64 ((nd : Int) + p), .int .i64 (j : Nat)])) w1 := by
      intro j h1 h2 h3
      have e1 : cutD d = l.take j := by rw [HC.out, ← h1, ← h2]
      have e2 : (cutD d).length = j := by rw [e1, List.length_take]; omega
      refine ⟨by rw [e2, HND.out], HKK.out, _, ?_, HFULL.out, ?_⟩
      · have := HFULL.out.val
        simp only [Value.slice.injEq] at this
        exact this.2.1.symm
      · rw [e2, e1, List.take_append_of_le_length (by omega)]
    rcases Nat.eq_zero_or_pos j with h0 | h0
    · subst h0
      go_wp2_with fail
      have hf := fin 0 HST.out (by simp [strip_nil]) (by omega)
      exact bodyPost_ret (v := .tuple #[.int .i64 ((nd : Int) + p), .int .i64 ((0 : Nat) : Int)]) (by simp [results, Tryd.results61, go_sem]) rfl hf
    · obtain ⟨t, rfl⟩ : ∃ t, j = t + 1 := ⟨j - 1, by omega⟩
      have hc1 := hcell t (by omega)
      have ht1 : ((t + 1 : Nat) : Int) - 1 = (t : Int) := by omega
      have ht2 : (t : Int) < N := by omega
      have ht3 : t < N := by omega
      have ht4 : t < l.length := by omega
      obtain ⟨b, hb⟩ : ∃ b, b = l[t]'ht4 := ⟨_, rfl⟩
      rw [← hb] at hc1
      have HB := Lib.hid hb
      clear hb
      by_cases h48 : b = 48
      · have h48' : (((b.toNat : Int)) == 48) = true := by rw [h48]; rfl
        go_wp2_with fail
        go_roundg (gk - 1)
        case measure => omega
        case rel => exact ⟨t, by go_num, by omega, by omega, by rw [← strip_take_zero l t ht4 (by rw [← HB.out, h48])]; exact HST.out, rfl⟩
      · have h48' : (((b.toNat : Int)) == 48) = false := by
          have : b.toNat ≠ 48 := fun q => h48 (UInt8.toNat_inj.1 q)
          simp; omega
        go_wp2_with fail
        have hf := fin (t + 1) HST.out (by rw [strip_take_end l t ht4 (by rw [← HB.out]; exact h48)]) (by omega)
        exact bodyPost_ret (v := .tuple #[.int .i64 ((nd : Int) + p), .int .i64 ((t + 1 : Nat) : Int)]) (by simp [results, Tryd.results61, go_sem]) rfl hf

end Go.Proofs.YthfjpofbaeeafaaDoor
