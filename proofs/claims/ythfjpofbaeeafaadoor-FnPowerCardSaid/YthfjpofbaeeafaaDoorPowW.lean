/-
  The law FnPower: the walk of the law itself.
-/
import Derived.Test.YthfjpofbaeeafaaDoorPow
namespace Go.Proofs.YthfjpofbaeeafaaDoor
open Go.RowKit

set_option maxRecDepth 100000 in
set_option maxHeartbeats 2000000 in
theorem power_walk_no (wide hex upper : Bool) (bits : Nat) (w : World) (hU : U64 bits) (hf : fExp wide bits = fTop wide) :
    Calls Tryd.prog 7 #[.int .u64 (bits : Int), .bool wide, .bool hex, .bool upper] w fun e w' => e = .returned (.bool true) ∧ Still w w' := by
  have hno := fun w => number_no wide bits w hU hf
  go_enter Tryd.func7, Tryd.ntmps7
  go_wp2_with fail
  refine (hno _).mono ?_
  rintro e w1 ⟨⟨b, c, rfl⟩, hk⟩
  go_wp2_with fail
  go_ret
  exact ⟨rfl, by repeat (first | exact hk | (with_reducible refine Still.setCell ?_ (Nat.le_refl _) _) | (with_reducible refine Still.alloc ?_ _))⟩

set_option maxRecDepth 100000 in
set_option maxHeartbeats 4000000 in
theorem power_walk_fin (wide hex upper : Bool) (bits : Nat) (B : Nat) (w : World) (hT : Tabs B w) (hU : U64 bits) (hf : fExp wide bits ≠ fTop wide)
    (sz : Int) (hsz : sz = if wide then 64 else 32) (dbl : Nat) (hdbl : dbl = fDbl wide bits) (str : List UInt8) (verb : Nat) (hverb : verb = pVerb hex upper)
    (hAF : AFspec dbl sz verb (-1) str) (hNT : NumText str) (hlen : str.length ≤ 1000) (n : Nat) (pk : Int)
    (hRP : ∀ w, Calls Tryd.prog 19 #[.string ⟨str.toArray⟩, .int .u8 (verb : Nat)] w fun e w' => e = .returned (.tuple #[.bool (fNeg wide bits), .int .u64 (n : Int), .int .i64 pk, .bool true]) ∧ Still w w')
    (hSP : ∀ w, Calls Tryd.prog 20 #[.int .u64 (n : Int), .int .i64 pk, fAgg wide bits] w fun e w' => e = .returned (.bool true) ∧ Still w w') :
    Calls Tryd.prog 7 #[.int .u64 (bits : Int), .bool wide, .bool hex, .bool upper] w fun e w' => e = .returned (.bool true) ∧ Still w w' := by
  have hyes := fun w => number_fin wide bits w hU hf
  obtain ⟨NEG, hNEG⟩ : ∃ NEG, NEG = fNeg wide bits := ⟨_, rfl⟩
  obtain ⟨LOW, hLOW⟩ : ∃ LOW, LOW = fLow wide bits := ⟨_, rfl⟩
  obtain ⟨POW, hPOW⟩ : ∃ POW, POW = fPow wide bits := ⟨_, rfl⟩
  obtain ⟨EDGE, hEDGE⟩ : ∃ EDGE, EDGE = fEdge wide bits := ⟨_, rfl⟩
  unfold fAgg at hyes hSP
  rw [← hsz, ← hdbl, ← hNEG, ← hLOW, ← hPOW, ← hEDGE] at hyes
  rw [← hNEG] at hRP
  rw [← hNEG, ← hLOW, ← hPOW, ← hEDGE] at hSP
  clear hsz hdbl hNEG hLOW hPOW hEDGE hf
  have hFL := fun w (hT : Tabs B w) => implFloat_plain dbl sz verb (-1) false 0 str B w hT (by omega) (by rw [hverb]; cases hex <;> cases upper <;> decide) hAF hNT (by omega)
  clear hAF hNT hlen
  cases hex
  · have hv : verb = 98 := by rw [hverb]; rfl
    subst hv
    go_enter Tryd.func7, Tryd.ntmps7
    go_wp2_with fail
    refine (hyes _).mono ?_
    rintro e w1 ⟨rfl, hk⟩
    go_wp2_with fail
    refine (hFL _ (Still.tabs (Still.alloc hk _) hT)).mono ?_
    rintro e w2 ⟨rfl, hk2⟩
    go_wp2_with fail
    refine (hRP _).mono ?_
    rintro e w3 ⟨rfl, hk3⟩
    have hk4 := hk2.trans hk3
    have c0 := hk4.cell4 0 (by omega); have c1 := hk4.cell4 1 (by omega); have c2 := hk4.cell4 2 (by omega); have c3 := hk4.cell4 3 (by omega); have z0 := hk4.free4 0; have z1 := hk4.free4 1; have z2 := hk4.free4 2; have z3 := hk4.free4 3; have hz := hk4.lt4
    simp only [List.getElem_toArray, List.getElem_cons_zero, List.getElem_cons_succ] at c0 c1 c2 c3
    have e0 : (NEG == NEG) = true := by simp
    have HH := Lib.hid hk4
    clear hk4 hk3 hk2
    go_wp2_with fail
    refine (hSP _).mono ?_
    rintro e w4 ⟨rfl, hk5⟩
    go_wp2_with fail
    go_ret
    exact ⟨rfl, ((Still.alloc hk _).trans HH.out).trans hk5⟩
  · cases upper
    · have hv : verb = 120 := by rw [hverb]; rfl
      subst hv
      go_enter Tryd.func7, Tryd.ntmps7
      go_wp2_with fail
      refine (hyes _).mono ?_
      rintro e w1 ⟨rfl, hk⟩
      go_wp2_with fail
      refine (hFL _ (Still.tabs (Still.alloc hk _) hT)).mono ?_
      rintro e w2 ⟨rfl, hk2⟩
      go_wp2_with fail
      refine (hRP _).mono ?_
      rintro e w3 ⟨rfl, hk3⟩
      have hk4 := hk2.trans hk3
      have c0 := hk4.cell4 0 (by omega); have c1 := hk4.cell4 1 (by omega); have c2 := hk4.cell4 2 (by omega); have c3 := hk4.cell4 3 (by omega); have z0 := hk4.free4 0; have z1 := hk4.free4 1; have z2 := hk4.free4 2; have z3 := hk4.free4 3; have hz := hk4.lt4
      simp only [List.getElem_toArray, List.getElem_cons_zero, List.getElem_cons_succ] at c0 c1 c2 c3
      have e0 : (NEG == NEG) = true := by simp
      have HH := Lib.hid hk4
      clear hk4 hk3 hk2
      go_wp2_with fail
      refine (hSP _).mono ?_
      rintro e w4 ⟨rfl, hk5⟩
      go_wp2_with fail
      go_ret
      exact ⟨rfl, ((Still.alloc hk _).trans HH.out).trans hk5⟩
    · have hv : verb = 88 := by rw [hverb]; rfl
      subst hv
      go_enter Tryd.func7, Tryd.ntmps7
      go_wp2_with fail
      refine (hyes _).mono ?_
      rintro e w1 ⟨rfl, hk⟩
      go_wp2_with fail
      refine (hFL _ (Still.tabs (Still.alloc hk _) hT)).mono ?_
      rintro e w2 ⟨rfl, hk2⟩
      go_wp2_with fail
      refine (hRP _).mono ?_
      rintro e w3 ⟨rfl, hk3⟩
      have hk4 := hk2.trans hk3
      have c0 := hk4.cell4 0 (by omega); have c1 := hk4.cell4 1 (by omega); have c2 := hk4.cell4 2 (by omega); have c3 := hk4.cell4 3 (by omega); have z0 := hk4.free4 0; have z1 := hk4.free4 1; have z2 := hk4.free4 2; have z3 := hk4.free4 3; have hz := hk4.lt4
      simp only [List.getElem_toArray, List.getElem_cons_zero, List.getElem_cons_succ] at c0 c1 c2 c3
      have e0 : (NEG == NEG) = true := by simp
      have HH := Lib.hid hk4
      clear hk4 hk3 hk2
      go_wp2_with fail
      refine (hSP _).mono ?_
      rintro e w4 ⟨rfl, hk5⟩
      go_wp2_with fail
      go_ret
      exact ⟨rfl, ((Still.alloc hk _).trans HH.out).trans hk5⟩

/-- THE LAW's WALK. -/
theorem power_walk (wide hex upper : Bool) (bits : Nat) (B : Nat) (w : World) (hT : Tabs B w) (hU : U64 bits) :
    Calls Tryd.prog 7 #[.int .u64 (bits : Int), .bool wide, .bool hex, .bool upper] w fun e w' => e = .returned (.bool true) ∧ Still w w' := by
  by_cases hf : fExp wide bits = fTop wide
  · exact power_walk_no wide hex upper bits w hU hf
  · obtain ⟨hNT, hlen, n, pk, hRP, hSP⟩ := power_all wide hex upper bits
    obtain ⟨str, hstr⟩ : ∃ str, str = pText wide hex upper bits := ⟨_, rfl⟩
    rw [← hstr] at hNT hlen hRP
    refine power_walk_fin wide hex upper bits B w hT hU hf _ rfl _ rfl str _ rfl ?_ hNT hlen n pk hRP hSP
    rw [hstr]
    cases wide
    · simp only [fDbl, Bool.false_eq_true, if_false]
      exact pText_af32 hex upper bits hf
    · simp only [fDbl, if_true]
      exact pText_af64 hex upper bits hU hf

end Go.Proofs.YthfjpofbaeeafaaDoor
