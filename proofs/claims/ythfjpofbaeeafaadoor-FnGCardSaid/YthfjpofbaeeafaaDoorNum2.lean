/-
  laws.number: the binary number of some bits, as data.
-/
import Derived.Test.YthfjpofbaeeafaaDoorNum
import Derived.Test.YthfjpofbaeeafaaDoorConv
import Derived.Laws.FloatBits
namespace Go.Proofs.YthfjpofbaeeafaaDoor
open Go.RowKit

/-- The exponent field, the fraction, the sign of a number of 64 bits or of 32. -/
def fExp (wide : Bool) (bits : Nat) : Nat := if wide then bits / 2 ^ 52 % 2048 else bits % 2 ^ 32 / 2 ^ 23 % 256
def fFrac (wide : Bool) (bits : Nat) : Nat := if wide then bits % 2 ^ 52 else bits % 2 ^ 32 % 2 ^ 23
def fNeg (wide : Bool) (bits : Nat) : Bool := if wide then decide (0 < bits / 2 ^ 52 / 2048) else decide (0 < bits % 2 ^ 32 / 2 ^ 23 / 256)
def fTop (wide : Bool) : Nat := if wide then 2047 else 255
/-- The number: low times 2 to the power pow; edge: the number below it is nearer than the one above it. -/
def fLow (wide : Bool) (bits : Nat) : Nat := if fExp wide bits = 0 then fFrac wide bits else fFrac wide bits + (if wide then 4503599627370496 else 8388608)
def fPow (wide : Bool) (bits : Nat) : Int := if fExp wide bits = 0 then (if wide then -1074 else -149) else (fExp wide bits : Int) - (if wide then 1075 else 150)
def fEdge (wide : Bool) (bits : Nat) : Bool := decide (fFrac wide bits = 0) && decide (1 < fExp wide bits)
def fAgg (wide : Bool) (bits : Nat) : Value := .agg #[.bool (fNeg wide bits), .int .u64 (fLow wide bits : Int), .int .i64 (fPow wide bits), .bool (fEdge wide bits)]
/-- The bits of the double that holds the number. -/
def fDbl (wide : Bool) (bits : Nat) : Nat := if wide then bits else up32 (bits % 2 ^ 32)

theorem floatOf64_any (bits : Nat) (w : World) (hU : U64 bits) (hf : fExp true bits ≠ 2047) :
    Calls Tryd.prog 23 #[.int .u64 bits, .bool true] w fun e w' => e = .returned (.tuple #[fAgg true bits, .bool true]) ∧ Still w w' := by
  have hE : fExp true bits = bits / 2 ^ 52 % 2048 := rfl
  by_cases h0 : bits / 2 ^ 52 % 2048 = 0
  · refine (floatOf_zero64 bits w h0 hU).mono fun e w' h => ⟨h.1.trans ?_, h.2⟩
    simp [fAgg, fNeg, fLow, fPow, fEdge, fFrac, hE, h0]
  · refine (floatOf_pos64 bits w (bits / 2 ^ 52 % 2048) rfl (by omega) (by omega) hU).mono fun e w' h => ⟨h.1.trans ?_, h.2⟩
    simp [fAgg, fNeg, fLow, fPow, fEdge, fFrac, hE, h0]
theorem floatOf32_any (bits : Nat) (w : World) (hf : fExp false bits ≠ 255) :
    Calls Tryd.prog 23 #[.int .u64 ((bits % 2 ^ 32 : Nat) : Int), .bool false] w fun e w' => e = .returned (.tuple #[fAgg false bits, .bool true]) ∧ Still w w' := by
  have hE : fExp false bits = bits % 2 ^ 32 / 2 ^ 23 % 256 := rfl
  by_cases h0 : bits % 2 ^ 32 / 2 ^ 23 % 256 = 0
  · refine (floatOf_zero32 (bits % 2 ^ 32) w h0 (by omega)).mono fun e w' h => ⟨h.1.trans ?_, h.2⟩
    simp [fAgg, fNeg, fLow, fPow, fEdge, fFrac, hE, h0]
  · refine (floatOf_pos32 (bits % 2 ^ 32) w (bits % 2 ^ 32 / 2 ^ 23 % 256) rfl (by omega) (by omega) (by omega)).mono fun e w' h => ⟨h.1.trans ?_, h.2⟩
    simp [fAgg, fNeg, fLow, fPow, fEdge, fFrac, hE, h0]

theorem ext25 (n : Nat) (w : World) : Sem.run Tryd.prog (callFunc 25 #[.int .u32 (n : Int)]) w = .ok (.value (.float .f32 n)) w := by
  have h := run_callFunc_extern (P := Tryd.prog) (e := Extern.MathFloatBits.float32frombits) Tryd.func25 (by kernel_rfl) (by kernel_rfl) (by kernel_rfl) (by kernel_rfl) #[.int .u32 (n : Int)] w
  rw [h]
  rfl
theorem ext24 (n : Nat) (w : World) : Sem.run Tryd.prog (callFunc 24 #[.float .f64 n]) w = .ok (.value (.int .u64 (n : Int))) w := by
  have h := run_callFunc_extern (P := Tryd.prog) (e := Extern.MathFloatBits.float64bits) Tryd.func24 (by kernel_rfl) (by kernel_rfl) (by kernel_rfl) (by kernel_rfl) #[.float .f64 n] w
  rw [h]
  rfl

theorem Still.cell4 {w w1 : World} {a b c d : Value} {t : TypeId} (h : Still (w.alloc (.cells #[a, b, c, d] t)) w1) (i : Nat) (hi : i < 4) : w1.cell? ⟨w.heap.size, i, none⟩ = some (#[a, b, c, d][i]'(by simpa using hi)) := by
  refine Still.cell h ?_
  rw [World.cell?_alloc_new]
  simp [hi]
theorem Still.free4 {w w1 : World} {a b c d : Value} {t : TypeId} (h : Still (w.alloc (.cells #[a, b, c, d] t)) w1) (i : Nat) : w1.frozen? ⟨w.heap.size, i, none⟩ = false := by
  rw [keptBut_frozen h (a := ⟨w.heap.size, i, none⟩) (by simp)]
  exact World.frozen?_alloc_new _ _ _ _
theorem Still.lt4 {w w1 : World} {o : Obj} (h : Still (w.alloc o) w1) : w.heap.size < w1.heap.size := by
  have := h.size
  simp at this
  omega

set_option maxRecDepth 100000 in
set_option maxHeartbeats 1000000 in
theorem number_wide (bits : Nat) (w : World) (hU : U64 bits) (hf : fExp true bits ≠ 2047) :
    Calls Tryd.prog 11 #[.int .u64 bits, .bool true] w fun e w' => e = .returned (.tuple #[fAgg true bits, .int .u64 bits, .int .i64 64, .bool true]) ∧ Still w w' := by
  have hfa : fAgg true bits = .agg #[.bool (fNeg true bits), .int .u64 (fLow true bits : Int), .int .i64 (fPow true bits), .bool (fEdge true bits)] := rfl
  go_enter Tryd.func11, Tryd.ntmps11
  go_wp2_with (go_at_call 23; refine (floatOf64_any bits _ hU hf).mono ?_; rintro e w1 ⟨rfl, hk1⟩; rw [hfa]; have c0 := hk1.cell4 0 (by omega); have c1 := hk1.cell4 1 (by omega); have c2 := hk1.cell4 2 (by omega); have c3 := hk1.cell4 3 (by omega); have z0 := hk1.free4 0; have z1 := hk1.free4 1; have z2 := hk1.free4 2; have z3 := hk1.free4 3; have hz := hk1.lt4)
  rw [hfa]
  refine bodyPost_ret (v := .tuple #[.agg #[.bool (fNeg true bits), .int .u64 (fLow true bits : Int), .int .i64 (fPow true bits), .bool (fEdge true bits)], .int .u64 bits, .int .i64 64, .bool true]) ?_ rfl ⟨rfl, ?_⟩
  · simp [results, Tryd.results11, go_sem, *]
  · repeat (first | (with_reducible refine Still.setCell ?_ (Nat.le_refl _) _) | (with_reducible refine Still.alloc ?_ _))
    exact ((Still.refl w).alloc _).trans hk1

set_option maxRecDepth 100000 in
set_option maxHeartbeats 1000000 in
theorem number_narrow (bits : Nat) (w : World) (hU : U64 bits) (hf : fExp false bits ≠ 255) :
    Calls Tryd.prog 11 #[.int .u64 bits, .bool false] w fun e w' => e = .returned (.tuple #[fAgg false bits, .int .u64 (up32 (bits % 2 ^ 32) : Nat), .int .i64 32, .bool true]) ∧ Still w w' := by
  have hfa : fAgg false bits = .agg #[.bool (fNeg false bits), .int .u64 (fLow false bits : Int), .int .i64 (fPow false bits), .bool (fEdge false bits)] := rfl
  have hw : IntKind.u32.wrap (bits : Int) = ((bits % 2 ^ 32 : Nat) : Int) := by rw [IntKind.wrap_u32]; omega
  have ha : Go.bits .and .u64 (bits : Int) 4294967295 = ((bits % 2 ^ 32 : Nat) : Int) := and_mask_u64 bits 32 hU (by omega)
  have hup := run_up32 (bits % 2 ^ 32) (by omega) hf
  have hfo := fun w => floatOf32_any bits w hf
  obtain ⟨n, hn⟩ : ∃ n, n = bits % 2 ^ 32 := ⟨_, rfl⟩
  rw [← hn] at hw ha hup hfo ⊢
  have h25 := ext25 n
  have h24 := ext24 (up32 n)
  have HN := Lib.hid hn
  clear hn
  go_enter Tryd.func11, Tryd.ntmps11
  go_wp2_with (go_at_call 23; refine (hfo _).mono ?_; rintro e w1 ⟨rfl, hk1⟩; rw [hfa]; have c0 := hk1.cell4 0 (by omega); have c1 := hk1.cell4 1 (by omega); have c2 := hk1.cell4 2 (by omega); have c3 := hk1.cell4 3 (by omega); have z0 := hk1.free4 0; have z1 := hk1.free4 1; have z2 := hk1.free4 2; have z3 := hk1.free4 3; have hz := hk1.lt4)
  go_region
  go_wp2_with fail
  rw [hfa]
  refine bodyPost_ret (v := .tuple #[.agg #[.bool (fNeg false bits), .int .u64 (fLow false bits : Int), .int .i64 (fPow false bits), .bool (fEdge false bits)], .int .u64 (up32 n : Nat), .int .i64 32, .bool true]) ?_ rfl ⟨rfl, ?_⟩
  · simp [results, Tryd.results11, go_sem, *]
  · repeat (first | (with_reducible refine Still.setCell ?_ (Nat.le_refl _) _) | (with_reducible refine Still.alloc ?_ _) | (with_reducible refine Still.drew ?_))
    exact ((Still.refl w).alloc _).trans hk1

set_option maxRecDepth 100000 in
set_option maxHeartbeats 1000000 in
theorem number_wide_no (bits : Nat) (w : World) (hU : U64 bits) (hf : fExp true bits = 2047) :
    Calls Tryd.prog 11 #[.int .u64 bits, .bool true] w fun e w' => (∃ b c, e = .returned (.tuple #[.agg #[.bool false, .int .u64 0, .int .i64 0, .bool false], b, c, .bool false])) ∧ Still w w' := by
  have hfo := fun w => floatOf_top64 bits w hf hU
  go_enter Tryd.func11, Tryd.ntmps11
  go_wp2_with (go_at_call 23; refine (hfo _).mono ?_; rintro e w1 ⟨rfl, hk1⟩; have c0 := hk1.cell4 0 (by omega); have c1 := hk1.cell4 1 (by omega); have c2 := hk1.cell4 2 (by omega); have c3 := hk1.cell4 3 (by omega); have z0 := hk1.free4 0; have z1 := hk1.free4 1; have z2 := hk1.free4 2; have z3 := hk1.free4 3; have hz := hk1.lt4)
  refine bodyPost_ret (v := .tuple #[.agg #[.bool false, .int .u64 0, .int .i64 0, .bool false], .int .u64 bits, .int .i64 64, .bool false]) ?_ rfl ⟨⟨_, _, rfl⟩, ?_⟩
  · simp [results, Tryd.results11, go_sem, *]
  · repeat (first | (with_reducible refine Still.setCell ?_ (Nat.le_refl _) _) | (with_reducible refine Still.alloc ?_ _))
    exact ((Still.refl w).alloc _).trans hk1

theorem run_inf32 (n : Nat) (s : Bool) (hd : FloatKind.f32.decode n = .infinity s) (w : World) : Sem.run Tryd.prog (convert 55 54 (.float .f32 n)) w = .ok (.float .f64 (FloatKind.f64.encode (.infinity s))) w := by
  simp [convert, run_underlying Tryd.underlying55, run_underlying Tryd.underlying54, Conv.floatToFloat, hd]
def nanBits (w : World) (n : Nat) : Nat := (Question.nanConv .f64 n).cut (w.tape w.drawn (Question.nanConv .f64 n))
theorem run_nan32 (n : Nat) (s : Bool) (f : Nat) (hd : FloatKind.f32.decode n = .nan s f) (w : World) : Sem.run Tryd.prog (convert 55 54 (.float .f32 n)) w = .ok (.float .f64 (nanBits w n)) w.drew := by
  simp [convert, run_underlying Tryd.underlying55, run_underlying Tryd.underlying54, Conv.floatToFloat, hd, nanBits, show (Question.nanConv .f64 n).forced = false from rfl]

theorem single_top (n : Nat) (hE : n / 2 ^ 23 % 256 = 255) : (∃ s, FloatKind.f32.decode n = .infinity s) ∨ (∃ s f, FloatKind.f32.decode n = .nan s f) := by
  have hs : Ieee.single.signWeight = 2 ^ 31 := by decide
  have hb : Ieee.single.binade = 2 ^ 23 := by decide
  have hi : Ieee.single.infRung = 255 * 2 ^ 23 := by decide
  show (∃ s, Ieee.single.read n = .infinity s) ∨ (∃ s f, Ieee.single.read n = .nan s f)
  unfold Ieee.Format.read
  dsimp only
  rw [hs, hb, hi, if_neg (by omega), if_neg (by omega)]
  by_cases h : n % 2 ^ 31 = 255 * 2 ^ 23
  · rw [if_pos h]; exact Or.inl ⟨_, rfl⟩
  · rw [if_neg h]; exact Or.inr ⟨_, _, rfl⟩

set_option maxRecDepth 100000 in
set_option maxHeartbeats 1000000 in
theorem number_narrow_no (bits : Nat) (w : World) (hU : U64 bits) (hf : fExp false bits = 255) :
    Calls Tryd.prog 11 #[.int .u64 bits, .bool false] w fun e w' => (∃ b c, e = .returned (.tuple #[.agg #[.bool false, .int .u64 0, .int .i64 0, .bool false], b, c, .bool false])) ∧ Still w w' := by
  have hw : IntKind.u32.wrap (bits : Int) = ((bits % 2 ^ 32 : Nat) : Int) := by rw [IntKind.wrap_u32]; omega
  have ha : Go.bits .and .u64 (bits : Int) 4294967295 = ((bits % 2 ^ 32 : Nat) : Int) := and_mask_u64 bits 32 hU (by omega)
  have htop := single_top (bits % 2 ^ 32) hf
  have hfo := fun w => floatOf_top32 (bits % 2 ^ 32) w hf (by omega)
  obtain ⟨n, hn⟩ : ∃ n, n = bits % 2 ^ 32 := ⟨_, rfl⟩
  rw [← hn] at hw ha hfo htop
  have h25 := ext25 n
  have HN := Lib.hid hn
  clear hn
  rcases htop with ⟨s, hd⟩ | ⟨s, f, hd⟩
  · have hup := run_inf32 n s hd
    obtain ⟨D, hD⟩ : ∃ D, D = FloatKind.f64.encode (.infinity s) := ⟨_, rfl⟩
    rw [← hD] at hup
    have h24 := ext24 D
    clear hd hD
    go_enter Tryd.func11, Tryd.ntmps11
    go_wp2_with (go_at_call 23; refine (hfo _).mono ?_; rintro e w1 ⟨rfl, hk1⟩; have c0 := hk1.cell4 0 (by omega); have c1 := hk1.cell4 1 (by omega); have c2 := hk1.cell4 2 (by omega); have c3 := hk1.cell4 3 (by omega); have z0 := hk1.free4 0; have z1 := hk1.free4 1; have z2 := hk1.free4 2; have z3 := hk1.free4 3; have hz := hk1.lt4)
    go_region
    go_wp2_with fail
    refine bodyPost_ret (v := .tuple #[.agg #[.bool false, .int .u64 0, .int .i64 0, .bool false], .int .u64 D, .int .i64 32, .bool false]) ?_ rfl ⟨⟨_, _, rfl⟩, ?_⟩
    · simp [results, Tryd.results11, go_sem, *]
    · repeat (first | (with_reducible refine Still.setCell ?_ (Nat.le_refl _) _) | (with_reducible refine Still.alloc ?_ _) | (with_reducible refine Still.drew ?_))
      exact ((Still.refl w).alloc _).trans hk1
  · have hup := run_nan32 n s f hd
    have h24 := ext24
    clear hd
    go_enter Tryd.func11, Tryd.ntmps11
    go_wp2_with (go_at_call 23; refine (hfo _).mono ?_; rintro e w1 ⟨rfl, hk1⟩; have c0 := hk1.cell4 0 (by omega); have c1 := hk1.cell4 1 (by omega); have c2 := hk1.cell4 2 (by omega); have c3 := hk1.cell4 3 (by omega); have z0 := hk1.free4 0; have z1 := hk1.free4 1; have z2 := hk1.free4 2; have z3 := hk1.free4 3; have hz := hk1.lt4)
    go_region
    go_wp2_with fail
    refine bodyPost_ret (v := .tuple #[.agg #[.bool false, .int .u64 0, .int .i64 0, .bool false], .int .u64 (nanBits (w1.alloc (.cells #[.bool false, .int .u64 0, .int .i64 0, .bool false] 24)).drew n : Nat), .int .i64 32, .bool false]) ?_ rfl ⟨⟨_, _, rfl⟩, ?_⟩
    · simp [results, Tryd.results11, go_sem, *]
    · repeat (first | (with_reducible refine Still.setCell ?_ (Nat.le_refl _) _) | (with_reducible refine Still.alloc ?_ _) | (with_reducible refine Still.drew ?_))
      exact ((Still.refl w).alloc _).trans hk1

/-- laws.number at a finite number. -/
theorem number_fin (wide : Bool) (bits : Nat) (w : World) (hU : U64 bits) (hf : fExp wide bits ≠ fTop wide) :
    Calls Tryd.prog 11 #[.int .u64 bits, .bool wide] w fun e w' => e = .returned (.tuple #[fAgg wide bits, .int .u64 (fDbl wide bits : Nat), .int .i64 (if wide then 64 else 32), .bool true]) ∧ Still w w' := by
  cases wide
  · exact number_narrow bits w hU hf
  · exact number_wide bits w hU hf
/-- At an infinity or a NaN. -/
theorem number_no (wide : Bool) (bits : Nat) (w : World) (hU : U64 bits) (hf : fExp wide bits = fTop wide) :
    Calls Tryd.prog 11 #[.int .u64 bits, .bool wide] w fun e w' => (∃ b c, e = .returned (.tuple #[.agg #[.bool false, .int .u64 0, .int .i64 0, .bool false], b, c, .bool false])) ∧ Still w w' := by
  cases wide
  · exact number_narrow_no bits w hU hf
  · exact number_wide_no bits w hU hf
end Go.Proofs.YthfjpofbaeeafaaDoor
