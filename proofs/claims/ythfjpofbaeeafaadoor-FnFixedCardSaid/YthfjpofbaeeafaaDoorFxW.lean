/-
  The law FnFixed: the walk of the law itself.
-/
import Derived.Test.YthfjpofbaeeafaaDoorFxL
namespace Go.Proofs.YthfjpofbaeeafaaDoor
open Go.RowKit

set_option maxRecDepth 100000 in
set_option maxHeartbeats 1000000 in
theorem below_any (p m : Int) (hm0 : 0 < m) (hm1 : m ≤ 1000) (w : World) :
    Calls Tryd.prog 12 #[.int .i64 p, .int .i64 m] w fun e w' => (∃ v : Nat, e = .returned (.int .i64 v) ∧ (v : Int) < m) ∧ w = w' := by
  have h1 : p.tmod m < m := Int.tmod_lt_of_pos p hm0
  have h2 : -m < p.tmod m := by
    have := Int.lt_tmod_of_pos p hm0
    exact this
  have hmz : ¬ m = 0 := by omega
  obtain ⟨t, ht⟩ : ∃ t, p.tmod m = t := ⟨_, rfl⟩
  rw [ht] at h1 h2
  by_cases h0 : t < 0
  · go_enter Tryd.func12, Tryd.ntmps12
    go_wp2_with fail
    refine bodyPost_ret (v := .int .i64 (t + m)) (by simp [results, Tryd.results12, go_sem]) rfl ⟨⟨(t + m).toNat, ?_, ?_⟩, rfl⟩
    · rw [Int.toNat_of_nonneg (by omega)]
    · omega
  · go_enter Tryd.func12, Tryd.ntmps12
    go_wp2_with fail
    refine bodyPost_ret (v := .int .i64 t) (by simp [results, Tryd.results12, go_sem]) rfl ⟨⟨t.toNat, ?_, ?_⟩, rfl⟩
    · rw [Int.toNat_of_nonneg (by omega)]
    · omega

set_option maxRecDepth 100000 in
set_option maxHeartbeats 2000000 in
theorem fixed_walk_no (wide has : Bool) (pr : Int) (bits : Nat) (w : World) (hU : U64 bits) (hf : fExp wide bits = fTop wide) :
    Calls Tryd.prog 4 #[.int .u64 (bits : Int), .bool wide, .int .i64 pr, .bool has] w fun e w' => e = .returned (.bool true) ∧ Still w w' := by
  have hno := fun w => number_no wide bits w hU hf
  have hbe := fun w => below_any pr 40 (by decide) (by decide) w
  go_enter Tryd.func4, Tryd.ntmps4
  go_wp2_with fail
  refine (hno _).mono ?_
  rintro e w1 ⟨⟨b, c, rfl⟩, hk⟩
  go_wp2_with fail
  refine (hbe _).mono ?_
  rintro e w2 ⟨⟨v, rfl, hv⟩, rfl⟩
  go_wp2_with fail
  go_ret
  exact ⟨rfl, by repeat (first | exact hk | (with_reducible refine Still.setCell ?_ (Nat.le_refl _) _) | (with_reducible refine Still.alloc ?_ _))⟩

set_option maxRecDepth 100000 in
set_option maxHeartbeats 4000000 in
theorem fixed_walk_fin (wide has : Bool) (pr : Int) (bits : Nat) (B : Nat) (w : World) (hT : Tabs B w) (hU : U64 bits) (hf : fExp wide bits ≠ fTop wide)
    (sz : Int) (hsz : sz = if wide then 64 else 32) (dbl : Nat) (hdbl : dbl = fDbl wide bits) (str : Nat → List UInt8) (dg : Nat → List UInt8)
    (hAF : ∀ P : Nat, P ≤ 40 → AFspec dbl sz 102 P (str P)) (hNT : ∀ P : Nat, P ≤ 40 → NumText (str P)) (hlen : ∀ P : Nat, P ≤ 40 → (str P).length ≤ 1000)
    (hRD : ∀ P : Nat, P ≤ 40 → ∀ w, Calls Tryd.prog 14 #[.string ⟨(str P).toArray⟩] w (RdRes w (fNeg wide bits) (dg P) (-(P : Int)) (if P = 0 then -1 else (P : Int)) 0))
    (hNE : ∀ P : Nat, P ≤ 40 → ∀ w (ba : ByteArray), ba.data.toList = dg P → Calls Tryd.prog 15 #[.agg #[.bool (fNeg wide bits), .string ba, .int .i64 (-(P : Int)), .int .i64 (if P = 0 then -1 else (P : Int)), .int .i64 0], fAgg wide bits] w (NeaRes w true)) :
    Calls Tryd.prog 4 #[.int .u64 (bits : Int), .bool wide, .int .i64 pr, .bool has] w fun e w' => e = .returned (.bool true) ∧ Still w w' := by
  have hyes := fun w => number_fin wide bits w hU hf
  have hbe := fun w => below_any pr 40 (by decide) (by decide) w
  obtain ⟨NEG, hNEG⟩ : ∃ NEG, NEG = fNeg wide bits := ⟨_, rfl⟩
  obtain ⟨LOW, hLOW⟩ : ∃ LOW, LOW = fLow wide bits := ⟨_, rfl⟩
  obtain ⟨POW, hPOW⟩ : ∃ POW, POW = fPow wide bits := ⟨_, rfl⟩
  obtain ⟨EDGE, hEDGE⟩ : ∃ EDGE, EDGE = fEdge wide bits := ⟨_, rfl⟩
  unfold fAgg at hyes hNE
  rw [← hsz, ← hdbl, ← hNEG, ← hLOW, ← hPOW, ← hEDGE] at hyes
  rw [← hNEG] at hRD
  rw [← hNEG, ← hLOW, ← hPOW, ← hEDGE] at hNE
  clear hsz hdbl hNEG hLOW hPOW hEDGE hf
  have hFL : ∀ (P v : Nat) w, P ≤ 40 → P = (if has then v else 6) → Tabs B w → Calls Tryd.prog 13 #[.agg #[.int .i64 0, .int .i64 v, .bool false, .bool has, .bool false, .bool false, .bool false, .bool false, .bool false], .int .u64 dbl, .int .i64 sz, .int .u8 102, .int .i64 6] w fun e w' => e = .returned (.string ⟨(str P).toArray⟩) ∧ Still w w' := fun P v w hP hPe hT =>
    implFloat_plain dbl sz 102 6 has v (str P) B w hT (by decide) (by decide) (by
      have := hAF P hP
      rw [hPe] at this ⊢
      cases has <;> exact this) (hNT P hP) (by have := hlen P hP; omega)
  have HFL := Lib.hid hFL
  have HRD := Lib.hid hRD
  have HNE := Lib.hid hNE
  clear hAF hNT hlen hFL hRD hNE
  go_enter Tryd.func4, Tryd.ntmps4
  go_wp2_with fail
  refine (hyes _).mono ?_
  rintro e w1 ⟨rfl, hk⟩
  go_wp2_with fail
  refine (hbe _).mono ?_
  rintro e w2 ⟨⟨v, rfl, hv⟩, rfl⟩
  obtain ⟨P, hP⟩ : ∃ P : Nat, P = if has then v else 6 := ⟨_, rfl⟩
  have hP40 : P ≤ 40 := by rw [hP]; split <;> omega
  have hFL := fun w hT => HFL.out P v w hP40 hP hT
  have hRD := fun w => HRD.out P hP40 w
  have hNE := fun w ba h => HNE.out P hP40 w ba h
  obtain ⟨PT, hPT⟩ : ∃ PT : Int, PT = if P = 0 then -1 else (P : Int) := ⟨_, rfl⟩
  rw [← hPT] at hRD
  simp only [← hPT] at hNE
  cases has
  · obtain rfl : P = 6 := by simpa using hP
    obtain rfl : PT = 6 := by rw [hPT]; rfl
    clear hP hPT HFL HRD HNE
    go_wp2_with fail
    refine (hFL _ ?_).mono ?_
    · exact Still.tabs (Still.alloc (Still.alloc hk _) _) hT
    rintro e w3 ⟨rfl, hk3⟩
    go_wp2_with fail
    refine (hRD _).mono ?_
    rintro e w4 ⟨ba, hba, rfl, hk4⟩
    have hNE' := fun w => hNE w ba hba
    have hk5 := ((Still.refl _).alloc _ |>.trans hk3).trans hk4
    have c0 := hk5.cell4 0 (by omega); have c1 := hk5.cell4 1 (by omega); have c2 := hk5.cell4 2 (by omega); have c3 := hk5.cell4 3 (by omega); have hz := hk5.lt4
    simp only [List.getElem_toArray, List.getElem_cons_zero, List.getElem_cons_succ] at c0 c1 c2 c3
    have HH := Lib.hid hk5
    clear hk5 hk4 hk3 hba hNE hRD hFL
    go_wp2_with fail
    refine (hNE' _).mono ?_
    rintro e w5 ⟨rfl, hk6⟩
    go_wp2_with fail
    go_ret
    refine ⟨rfl, ?_⟩
    exact ((Still.alloc hk _).trans HH.out).trans (((Still.refl _).alloc _).trans hk6)
  · obtain rfl : P = v := by simpa using hP
    rcases Nat.eq_zero_or_pos P with h0 | h0
    · subst h0
      obtain rfl : PT = -1 := by rw [hPT]; rfl
      clear hP hPT HFL HRD HNE
      go_wp2_with fail
      refine (hFL _ ?_).mono ?_
      · exact Still.tabs (Still.alloc (Still.alloc hk _) _) hT
      rintro e w3 ⟨rfl, hk3⟩
      go_wp2_with fail
      refine (hRD _).mono ?_
      rintro e w4 ⟨ba, hba, rfl, hk4⟩
      have hNE' := fun w => hNE w ba hba
      have hk5 := ((Still.refl _).alloc _ |>.trans hk3).trans hk4
      have c0 := hk5.cell4 0 (by omega); have c1 := hk5.cell4 1 (by omega); have c2 := hk5.cell4 2 (by omega); have c3 := hk5.cell4 3 (by omega); have hz := hk5.lt4
      simp only [List.getElem_toArray, List.getElem_cons_zero, List.getElem_cons_succ] at c0 c1 c2 c3
      have HH := Lib.hid hk5
      clear hk5 hk4 hk3 hba hNE hRD hFL
      go_wp2_with fail
      refine (hNE' _).mono ?_
      rintro e w5 ⟨rfl, hk6⟩
      go_wp2_with fail
      go_ret
      refine ⟨rfl, ?_⟩
      exact ((Still.alloc hk _).trans HH.out).trans (((Still.refl _).alloc _).trans hk6)
    · obtain rfl : PT = (P : Int) := by rw [hPT, if_neg (by omega)]
      have p1 : ((P : Int) == 0) = false := by simp; omega
      have p2 : decide ((P : Int) < 0) = false := by simp
      have p3 : ¬ (P : Int) < 0 := by omega
      have p4 : ¬ (P : Int) = 0 := by omega
      clear hP hPT HFL HRD HNE
      go_wp2_with fail
      refine (hFL _ ?_).mono ?_
      · exact Still.tabs (Still.alloc (Still.alloc hk _) _) hT
      rintro e w3 ⟨rfl, hk3⟩
      go_wp2_with fail
      refine (hRD _).mono ?_
      rintro e w4 ⟨ba, hba, rfl, hk4⟩
      have hNE' := fun w => hNE w ba hba
      have hk5 := ((Still.refl _).alloc _ |>.trans hk3).trans hk4
      have c0 := hk5.cell4 0 (by omega); have c1 := hk5.cell4 1 (by omega); have c2 := hk5.cell4 2 (by omega); have c3 := hk5.cell4 3 (by omega); have hz := hk5.lt4
      simp only [List.getElem_toArray, List.getElem_cons_zero, List.getElem_cons_succ] at c0 c1 c2 c3
      have HH := Lib.hid hk5
      clear hk5 hk4 hk3 hba hNE hRD hFL
      go_wp2_with fail
      refine (hNE' _).mono ?_
      rintro e w5 ⟨rfl, hk6⟩
      go_wp2_with fail
      go_ret
      refine ⟨rfl, ?_⟩
      exact ((Still.alloc hk _).trans HH.out).trans (((Still.refl _).alloc _).trans hk6)

/-- THE LAW's WALK. -/
theorem fixed_walk (wide has : Bool) (pr : Int) (bits : Nat) (B : Nat) (w : World) (hT : Tabs B w) (hU : U64 bits) :
    Calls Tryd.prog 4 #[.int .u64 (bits : Int), .bool wide, .int .i64 pr, .bool has] w fun e w' => e = .returned (.bool true) ∧ Still w w' := by
  by_cases hf : fExp wide bits = fTop wide
  · exact fixed_walk_no wide has pr bits w hU hf
  · have hall := fun (P : Nat) (hP : P ≤ 40) => fix_all wide bits P hP
    have hdg : ∃ dg : Nat → List UInt8, ∀ P, P ≤ 40 → (∀ w, Calls Tryd.prog 14 #[.string ⟨(fixText wide bits P).toArray⟩] w (RdRes w (fNeg wide bits) (dg P) (-(P : Int)) (if P = 0 then -1 else (P : Int)) 0)) ∧
        (∀ w (ba : ByteArray), ba.data.toList = dg P → Calls Tryd.prog 15 #[.agg #[.bool (fNeg wide bits), .string ba, .int .i64 (-(P : Int)), .int .i64 (if P = 0 then -1 else (P : Int)), .int .i64 0], fAgg wide bits] w (NeaRes w true)) := by
      refine ⟨fun P => if h : P ≤ 40 then Classical.choose (hall P h).2.2 else [], fun P hP => ?_⟩
      simp only [dif_pos hP]
      exact Classical.choose_spec (hall P hP).2.2
    obtain ⟨dg, hdg⟩ := hdg
    exact fixed_walk_fin wide has pr bits B w hT hU hf _ rfl _ rfl (fixText wide bits) dg (fun P hP => fix_af wide bits P hP hU hf) (fun P hP => (hall P hP).1) (fun P hP => (hall P hP).2.1) (fun P hP => (hdg P hP).1) (fun P hP => (hdg P hP).2)

end Go.Proofs.YthfjpofbaeeafaaDoor
