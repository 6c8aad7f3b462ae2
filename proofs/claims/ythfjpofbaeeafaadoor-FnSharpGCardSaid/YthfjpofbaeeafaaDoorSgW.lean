/-
  The law FnSharpG: the walk of the law itself.
-/
import Derived.Test.YthfjpofbaeeafaaDoorSgL
import Derived.IntWalk
namespace Go.Proofs.YthfjpofbaeeafaaDoor
open Go.RowKit

set_option maxRecDepth 100000 in
set_option maxHeartbeats 1000000 in
theorem plain_any (p : Int) (w : World) :
    Calls Tryd.prog 18 #[.int .i64 p] w fun e w' => e = .returned (.agg #[.int .i64 0, .int .i64 p, .bool false, .bool true, .bool false, .bool false, .bool false, .bool false, .bool false]) ∧ Still w w' := by
  go_enter Tryd.func18, Tryd.ntmps18
  go_wp2_with fail
  refine bodyPost_ret (v := .agg #[.int .i64 0, .int .i64 p, .bool false, .bool true, .bool false, .bool false, .bool false, .bool false, .bool false]) (by simp [results, Tryd.results18, go_sem]) rfl ⟨rfl, ?_⟩
  repeat (first | exact Still.refl _ | (with_reducible refine Still.setCell ?_ (Nat.le_refl _) _) | (with_reducible refine Still.alloc ?_ _))

theorem flTxt_sp (a fr ex : List UInt8) (p : Bool) (ha : isD a) (hf : isD fr) (h0 : 0 < a.length) (hl : a.length ≤ 1000) (hfl : fr.length ≤ 1000)
    (hex : ex = [] ∨ ∃ (V g : UInt8) (l : List UInt8), ex = V :: g :: l ∧ (V = 101 ∨ V = 69) ∧ (g = 45 ∨ g = 43) ∧ isD l ∧ l.length ≤ 10) : FlTxt (mantOf a p fr) ex := by
  have hd : ∀ l, isD l → ∀ c ∈ l, c = 46 ∨ 48 ≤ c.toNat ∧ c.toNat < 58 := fun l h c hc => by
    have := h c hc
    exact Or.inr ⟨this.1, by omega⟩
  have hexl : ex.length ≤ 12 := by
    rcases hex with h | ⟨V, g, l, h, _, _, _, h4⟩
    · rw [h]; decide
    · rw [h, List.length_cons, List.length_cons]; omega
  refine ⟨?_, fun c hc => ?_, ?_, fun c hc => ?_, ?_⟩
  · cases a with
    | nil => simp at h0
    | cons d l =>
      have h1 := ha d (by simp)
      cases p
      · exact ⟨d, l, rfl, h1.1, by omega⟩
      · exact ⟨d, l ++ 46 :: fr, rfl, h1.1, by omega⟩
  · unfold mantOf at hc
    split at hc
    · rcases List.mem_append.1 hc with hc | hc
      · exact hd a ha c hc
      · rcases List.mem_cons.1 hc with hc | hc
        · exact Or.inl hc
        · exact hd fr hf c hc
    · exact hd a ha c hc
  · rcases hex with h | ⟨V, g, l, h, h1, _⟩
    · exact Or.inl h
    · exact Or.inr ⟨V, g :: l, h, h1⟩
  · rcases hex with h | ⟨V, g, l, h, h1, h2, h3, _⟩
    · rw [h] at hc; simp at hc
    · rw [h, List.mem_cons, List.mem_cons] at hc
      rcases hc with rfl | rfl | hc
      · rcases h1 with rfl | rfl <;> decide
      · rcases h2 with rfl | rfl <;> decide
      · have := h3 c hc; omega
  · unfold mantOf
    split
    · rw [List.length_append, List.length_cons]; omega
    · omega

theorem out_plain (neg : Bool) (b : List UInt8) : outTxt false false false false 0 (sgB neg false false) b = sgn neg ++ b := by
  cases neg <;> rfl

set_option maxRecDepth 100000 in
set_option maxHeartbeats 2000000 in
theorem sg_walk_no (wide : Bool) (pr : Int) (bits : Nat) (w : World) (hU : U64 bits) (hf : fExp wide bits = fTop wide) :
    Calls Tryd.prog 8 #[.int .u64 (bits : Int), .bool wide, .int .i64 pr] w fun e w' => e = .returned (.bool true) ∧ Still w w' := by
  have hno := fun w => number_no wide bits w hU hf
  have hbe := fun w => below_any pr 20 (by decide) (by decide) w
  go_enter Tryd.func8, Tryd.ntmps8
  go_wp2_with fail
  refine (hno _).mono ?_
  rintro e w1 ⟨⟨b, c, rfl⟩, hk⟩
  go_wp2_with fail
  refine (hbe _).mono ?_
  rintro e w2 ⟨⟨v, rfl, hv⟩, rfl⟩
  go_wp2_with fail
  go_ret
  exact ⟨rfl, by repeat (first | exact hk | (with_reducible refine Still.setCell ?_ (Nat.le_refl _) _) | (with_reducible refine Still.alloc ?_ _))⟩

set_option maxRecDepth 100000 in
set_option maxHeartbeats 2000000 in
theorem sg_walk_zero (wide : Bool) (pr : Int) (bits : Nat) (w : World) (hU : U64 bits) (hf : fExp wide bits ≠ fTop wide) (h0 : fLow wide bits = 0) :
    Calls Tryd.prog 8 #[.int .u64 (bits : Int), .bool wide, .int .i64 pr] w fun e w' => e = .returned (.bool true) ∧ Still w w' := by
  have hyes := fun w => number_fin wide bits w hU hf
  unfold fAgg at hyes
  rw [h0] at hyes
  obtain ⟨sz, hsz⟩ : ∃ sz : Int, sz = if wide then 64 else 32 := ⟨_, rfl⟩
  obtain ⟨dbl, hdbl⟩ : ∃ dbl, dbl = fDbl wide bits := ⟨_, rfl⟩
  rw [← hsz, ← hdbl] at hyes
  clear hsz hdbl h0
  have hbe := fun w => below_any pr 20 (by decide) (by decide) w
  go_enter Tryd.func8, Tryd.ntmps8
  go_wp2_with fail
  refine (hyes _).mono ?_
  rintro e w1 ⟨rfl, hk⟩
  go_wp2_with fail
  refine (hbe _).mono ?_
  rintro e w2 ⟨⟨v, rfl, hv⟩, rfl⟩
  go_wp2_with fail
  go_ret
  exact ⟨rfl, by repeat (first | exact hk | (with_reducible refine Still.setCell ?_ (Nat.le_refl _) _) | (with_reducible refine Still.alloc ?_ _))⟩

set_option maxRecDepth 100000 in
set_option maxHeartbeats 8000000 in
theorem sg_walk_fin (wide : Bool) (pr : Int) (bits : Nat) (B : Nat) (w : World) (hT : Tabs B w) (hU : U64 bits) (hf : fExp wide bits ≠ fTop wide) (hM : fLow wide bits ≠ 0)
    (sz : Int) (hsz : sz = if wide then 64 else 32) (dbl : Nat) (hdbl : dbl = fDbl wide bits)
    (hAll : ∀ (P : Nat), 1 ≤ P → P ≤ 20 → ∃ (T ds : List UInt8) (pw pt xe : Int) (z : Nat), ds.length = z + P ∧ z ≤ 500 ∧ (∀ j, j < z → ds[j]? = some 48) ∧ (∃ c, ds[z]? = some c ∧ c ≠ 48) ∧ 0 ≤ pt ∧
      (∀ w, Tabs B w → Calls Tryd.prog 13 #[.agg #[.int .i64 0, .int .i64 P, .bool false, .bool true, .bool false, .bool false, .bool true, .bool false, .bool false], .int .u64 dbl, .int .i64 sz, .int .u8 103, .int .i64 (-1)] w fun e w' => e = .returned (.string ⟨T.toArray⟩) ∧ Still w w') ∧
      (∀ w, Calls Tryd.prog 14 #[.string ⟨T.toArray⟩] w (RdRes w (fNeg wide bits) ds pw pt xe)) ∧
      (∀ w (ba : ByteArray), ba.data.toList = ds.drop z → Calls Tryd.prog 15 #[.agg #[.bool (fNeg wide bits), .string ba, .int .i64 pw, .int .i64 pt, .int .i64 xe], fAgg wide bits] w (NeaRes w true))) :
    Calls Tryd.prog 8 #[.int .u64 (bits : Int), .bool wide, .int .i64 pr] w fun e w' => e = .returned (.bool true) ∧ Still w w' := by
  have hyes := fun w => number_fin wide bits w hU hf
  obtain ⟨NEG, hNEG⟩ : ∃ NEG, NEG = fNeg wide bits := ⟨_, rfl⟩
  obtain ⟨LOW, hLOW⟩ : ∃ LOW, LOW = fLow wide bits := ⟨_, rfl⟩
  obtain ⟨POW, hPOW⟩ : ∃ POW, POW = fPow wide bits := ⟨_, rfl⟩
  obtain ⟨EDGE, hEDGE⟩ : ∃ EDGE, EDGE = fEdge wide bits := ⟨_, rfl⟩
  unfold fAgg at hyes hAll
  rw [← hsz, ← hdbl, ← hNEG, ← hLOW, ← hPOW, ← hEDGE] at hyes
  rw [← hNEG, ← hLOW, ← hPOW, ← hEDGE] at hAll
  rw [← hLOW] at hM
  have hMI : ((LOW : Int) == 0) = false := by rw [beq_eq_false_iff_ne]; omega
  clear hsz hdbl hNEG hLOW hPOW hEDGE hf
  have hbe := fun w => below_any pr 20 (by decide) (by decide) w
  have HALL := Lib.hid hAll
  clear hAll
  go_enter Tryd.func8, Tryd.ntmps8
  go_wp2_with fail
  refine (hyes _).mono ?_
  rintro e w1 ⟨rfl, hk⟩
  go_wp2_with fail
  refine (hbe _).mono ?_
  rintro e w2 ⟨⟨v, rfl, hv⟩, rfl⟩
  obtain ⟨P, hP⟩ : ∃ P : Nat, P = v + 1 := ⟨_, rfl⟩
  have hvP : (1 : Int) + v = P := by omega
  have hP1 : 1 ≤ P := by omega
  have hP20 : P ≤ 20 := by omega
  obtain ⟨T, ds, pw, pt, xe, z, hdl, hz5, hlead, hstop, hpt, hFL, hRD, hNE⟩ := HALL.out P hP1 hP20
  obtain ⟨S, hS⟩ : ∃ S : ByteArray, S = ⟨T.toArray⟩ := ⟨_, rfl⟩
  rw [← hS] at hRD hFL
  have hpl := fun w => plain_any (P : Int) w
  have HPL := Lib.hid hpl
  have HFL := Lib.hid hFL
  have HRD := Lib.hid hRD
  have HNE := Lib.hid hNE
  have HLEAD := Lib.hid hlead
  have HSTOP := Lib.hid hstop
  clear hS HALL hFL hRD hNE hP hpl hlead hstop hbe
  go_wp2_with fail
  clear hvP
  refine (HPL.out _).mono ?_
  rintro e w2 ⟨rfl, hk2⟩
  go_wp2_with fail
  refine (HFL.out _ ?_).mono ?_
  · exact Still.tabs (Still.alloc hk2 _) (Still.tabs (Still.alloc hk _) hT)
  rintro e w3 ⟨rfl, hk3⟩
  have HK3 := Lib.hid ((hk2.alloc _).trans hk3)
  clear hk2 hk3
  go_wp2_with fail
  refine (HRD.out _).mono ?_
  rintro e w4 ⟨ba, hba, rfl, hk4⟩
  have hk5 := HK3.out.trans hk4
  have c0 := hk5.cell4 0 (by omega); have c1 := hk5.cell4 1 (by omega); have c2 := hk5.cell4 2 (by omega); have c3 := hk5.cell4 3 (by omega); have hz4 := hk5.lt4
  simp only [List.getElem_toArray, List.getElem_cons_zero, List.getElem_cons_succ] at c0 c1 c2 c3
  have HH := Lib.hid hk5
  have hptn : ¬ pt < 0 := by omega
  have hptI : decide (pt < 0) = false := decide_eq_false hptn
  have HBA := Lib.hid hba
  clear hk5 hk4 hba HRD HK3
  go_wp2_with fail
  generalize hw6 : World.alloc w4 _ = w6
  have R5 : Rd5 w4 w6 w4.heap.size NEG ba pw pt xe := by rw [← hw6]; exact Rd5.alloc _ _ _ _ _ rfl rfl rfl rfl rfl
  have hH6 : w1.heap.size < w4.heap.size := by have := HH.out.size; simp only [World.size_alloc] at this; omega
  obtain ⟨H, hH⟩ : ∃ H, H = w4.heap.size := ⟨_, rfl⟩
  rw [← hH] at R5 hH6 ⊢
  clear hw6 hH
  have HC := Lib.hid (And.intro c0 (And.intro c1 (And.intro c2 c3)))
  have HR5 := Lib.hid R5
  clear R5 c0 c1 c2 c3
  go_loopg [] z (fun q wr => ∃ (k : Nat) (r : ByteArray), k + q = z ∧ Hid (r.data.toList = ds.drop k) ∧ Rd5 w4 wr H NEG r pw pt xe)
  case atStart => exact ⟨0, ba, by omega, Lib.hid (by rw [List.drop_zero]; exact HBA.out), HR5.out⟩
  case round =>
    obtain ⟨k, r, hkq, hr, hR⟩ := hrel
    have hsz : r.size = ds.length - k := by rw [list_size hr.out, List.length_drop]
    have h0 : 0 < r.size := by omega
    have hne := str_ne h0
    have hne2 : r.toList.isEmpty = false := by simpa using hne
    have h1I : (1 : Int) ≤ r.size := by omega
    have hx := list_idx hr.out h0
    rw [List.getElem?_drop, Nat.add_zero] at hx
    have d0 := hR.c0; have d1 := hR.c1; have d2 := hR.c2; have d3 := hR.c3; have d4 := hR.c4
    have z1 := hR.fz 1
    by_cases hkz : k < z
    · have hx0 : r[0] = 48 := by
        rw [HLEAD.out k hkz] at hx
        exact (Option.some.inj hx).symm
      have hR' := hR.set1 (r.extract 1 r.size)
      have HR' := Lib.hid hR'
      have hd := Lib.hid (drop_extract hr.out 1)
      clear hR hR' hx hr hsz
      go_wp2_with fail
      go_roundg (gk - 1)
      case measure => omega
      case rel => exact ⟨k + 1, r.extract 1 r.size, by omega, Lib.hid (by rw [hd.out, List.drop_drop, Nat.add_comm]), HR'.out⟩
    · obtain rfl : k = z := by omega
      obtain ⟨c, hc, hc48⟩ := HSTOP.out
      have hx0 : r[0] = c := by
        rw [hc] at hx
        exact (Option.some.inj hx).symm
      have t1 : ((c.toNat : Int) == 48) = false := by
        have : c.toNat ≠ 48 := fun e => hc48 (UInt8.toNat_inj.1 e)
        rw [beq_eq_false_iff_ne]; omega
      have hrP : r.size = P := by omega
      obtain ⟨x0, x1, x2, x3⟩ := HC.out
      have k0 := hR.st.cell x0; have k1 := hR.st.cell x1; have k2 := hR.st.cell x2; have k3 := hR.st.cell x3
      have hNE' := fun w => HNE.out w r hr.out
      have HST := Lib.hid hR.st
      clear hx hc hc48 hsz x0 x1 x2 x3 hR hr
      go_wp2_with fail
      refine (hNE' _).mono ?_
      rintro e w7 ⟨rfl, hk7⟩
      go_wp2_with fail
      go_ret
      exact ⟨rfl, (((Still.alloc hk _).trans HH.out).trans HST.out).trans hk7⟩

/-- THE LAW's WALK. -/
theorem sg_walk (wide : Bool) (pr : Int) (bits : Nat) (B : Nat) (w : World) (hT : Tabs B w) (hU : U64 bits) :
    Calls Tryd.prog 8 #[.int .u64 (bits : Int), .bool wide, .int .i64 pr] w fun e w' => e = .returned (.bool true) ∧ Still w w' := by
  by_cases hf : fExp wide bits = fTop wide
  · exact sg_walk_no wide pr bits w hU hf
  · by_cases hM : fLow wide bits = 0
    · exact sg_walk_zero wide pr bits w hU hf hM
    · obtain ⟨K, hK, h0, h1⟩ := dec_any wide bits
      refine sg_walk_fin wide pr bits B w hT hU hf hM _ rfl _ rfl (fun P hP1 hP => ?_)
      obtain ⟨a, fr, ex, p, T, ds, pw, pt, xe, z, ht, ha, hf2, ha0, ha1, hfr, hex, hTe, hdl, hz5, hlead, hstop, hpt, hRD, hNE⟩ := sg_law wide bits P hP1 (by omega) K hK h0 h1 hM
      refine ⟨T, ds, pw, pt, xe, z, hdl, hz5, hlead, hstop, hpt, fun w hT => ?_, hRD, hNE⟩
      have hA := g_af false wide bits P hP1 (by omega) hU hf K hK h0 h1
      rw [ht] at hA
      exact implFloat_full (fDbl wide bits) (if wide then 64 else 32) 103 (-1) false false false true false false 0 P B w hT (by decide) (by decide) (by omega) (fNeg wide bits) _ ex (flTxt_sp a fr ex p ha hf2 ha0 (by omega) (by omega) hex) hA _ (by
        rw [out_plain, hTe]
        unfold bodyOf
        rw [if_pos rfl, if_pos (Or.inl rfl)])

end Go.Proofs.YthfjpofbaeeafaaDoor
