/-
  The law FnExponent: the walk of the law itself.
-/
import Derived.Test.YthfjpofbaeeafaaDoorExL
import Derived.StillTailTactics
import Derived.IntWalk
namespace Go.Proofs.YthfjpofbaeeafaaDoor
open Go.RowKit

set_option maxRecDepth 100000 in
set_option maxHeartbeats 2000000 in
theorem exp_walk_no (wide has upper : Bool) (pr : Int) (bits : Nat) (w : World) (hU : U64 bits) (hf : fExp wide bits = fTop wide) :
    Calls Tryd.prog 3 #[.int .u64 (bits : Int), .bool wide, .int .i64 pr, .bool has, .bool upper] w fun e w' => e = .returned (.bool true) ∧ Still w w' := by
  have hno := fun w => number_no wide bits w hU hf
  have hbe := fun w => below_any pr 40 (by decide) (by decide) w
  go_enter Tryd.func3, Tryd.ntmps3
  go_wp2_with fail
  refine (hno _).mono ?_
  rintro e w1 ⟨⟨b, c, rfl⟩, hk⟩
  go_wp2_with fail
  refine (hbe _).mono ?_
  rintro e w2 ⟨⟨v, rfl, hv⟩, rfl⟩
  go_wp2_with fail
  go_ret
  exact ⟨rfl, by repeat (first | exact hk | (with_reducible refine Still.setCell ?_ (Nat.le_refl _) _) | (with_reducible refine Still.alloc ?_ _))⟩

theorem exp_idx (l : List UInt8) (S : ByteArray) (hS : S = ⟨l.toArray⟩) (OT : UInt8) (h : ∀ c ∈ l, c ≠ OT) : S.size = l.length ∧ ∀ j (hj : j < S.size), ((S[j].toNat : Int) == (OT.toNat : Int)) = false := by
  subst hS
  refine ⟨size_list l, fun j hj => ?_⟩
  rw [size_list] at hj
  have e : (⟨l.toArray⟩ : ByteArray)[j]'(by rw [size_list]; exact hj) = l[j] := rfl
  have := h l[j] (List.getElem_mem hj)
  rw [e]
  have h2 : l[j].toNat ≠ OT.toNat := fun e => this (UInt8.toNat_inj.1 e)
  simp
  omega

set_option maxRecDepth 100000 in
set_option maxHeartbeats 4000000 in
theorem exp_walk_fin (wide has upper : Bool) (pr : Int) (bits : Nat) (B : Nat) (w : World) (hT : Tabs B w) (hU : U64 bits) (hf : fExp wide bits ≠ fTop wide)
    (sz : Int) (hsz : sz = if wide then 64 else 32) (dbl : Nat) (hdbl : dbl = fDbl wide bits) (str : Nat → List UInt8)
    (hAF : ∀ P : Nat, P ≤ 40 → AFspec dbl sz (if upper then 69 else 101) P (str P))
    (hAll : ∀ P : Nat, P ≤ 40 → NumText (str P) ∧ (str P).length ≤ 1000 ∧ (∀ c ∈ str P, c ≠ exV (!upper)) ∧ ∃ (a : UInt8) (fr : List UInt8) (pw : Int) (xe : Int), fr.length = P ∧ (a = 48 ↔ fLow wide bits = 0) ∧ 2 ≤ xe ∧ xe ≤ 3 ∧
      (∀ w, Calls Tryd.prog 14 #[.string ⟨(str P).toArray⟩] w (RdRes w (fNeg wide bits) (a :: fr) pw (if P = 0 then -1 else (P : Int)) xe)) ∧
      (∀ w (ba : ByteArray), ba.data.toList = a :: fr → Calls Tryd.prog 15 #[.agg #[.bool (fNeg wide bits), .string ba, .int .i64 pw, .int .i64 (if P = 0 then -1 else (P : Int)), .int .i64 xe], fAgg wide bits] w (NeaRes w true))) :
    Calls Tryd.prog 3 #[.int .u64 (bits : Int), .bool wide, .int .i64 pr, .bool has, .bool upper] w fun e w' => e = .returned (.bool true) ∧ Still w w' := by
  have hyes := fun w => number_fin wide bits w hU hf
  have hbe := fun w => below_any pr 40 (by decide) (by decide) w
  obtain ⟨NEG, hNEG⟩ : ∃ NEG, NEG = fNeg wide bits := ⟨_, rfl⟩
  obtain ⟨LOW, hLOW⟩ : ∃ LOW, LOW = fLow wide bits := ⟨_, rfl⟩
  obtain ⟨POW, hPOW⟩ : ∃ POW, POW = fPow wide bits := ⟨_, rfl⟩
  obtain ⟨EDGE, hEDGE⟩ : ∃ EDGE, EDGE = fEdge wide bits := ⟨_, rfl⟩
  unfold fAgg at hyes hAll
  rw [← hsz, ← hdbl, ← hNEG, ← hLOW, ← hPOW, ← hEDGE] at hyes
  rw [← hNEG, ← hLOW, ← hPOW, ← hEDGE] at hAll
  clear hsz hdbl hNEG hLOW hPOW hEDGE hf
  obtain ⟨V, hV⟩ : ∃ V : Int, V = if upper then 69 else 101 := ⟨_, rfl⟩
  obtain ⟨OT, hOT⟩ : ∃ OT : Int, OT = if upper then 101 else 69 := ⟨_, rfl⟩
  have hOV : ((exV (!upper)).toNat : Int) = OT := by rw [hOT]; cases upper <;> rfl
  rw [← hV] at hAF
  have hV0 : 0 ≤ V ∧ V < 256 := by rw [hV]; cases upper <;> decide
  have hFL : ∀ (P v : Nat) w, P ≤ 40 → P = (if has then v else 6) → Tabs B w → Calls Tryd.prog 13 #[.agg #[.int .i64 0, .int .i64 v, .bool false, .bool has, .bool false, .bool false, .bool false, .bool false, .bool false], .int .u64 dbl, .int .i64 sz, .int .u8 V, .int .i64 6] w fun e w' => e = .returned (.string ⟨(str P).toArray⟩) ∧ Still w w' := fun P v w hP hPe hT =>
    implFloat_plain dbl sz V 6 has v (str P) B w hT hV0.1 hV0.2 (by
      have := hAF P hP
      rw [hPe] at this ⊢
      cases has <;> exact this) (hAll P hP).1 (by have := (hAll P hP).2.1; omega)
  have HFL := Lib.hid hFL
  have HALL := Lib.hid hAll
  have HOV := Lib.hid hOV
  clear hAF hFL hAll hV0 hOV
  go_enter Tryd.func3, Tryd.ntmps3
  go_wp2_with fail
  refine (hyes _).mono ?_
  rintro e w1 ⟨rfl, hk⟩
  go_wp2_with fail
  refine (hbe _).mono ?_
  rintro e w2 ⟨⟨v, rfl, hv⟩, rfl⟩
  obtain ⟨P, hP⟩ : ∃ P : Nat, P = if has then v else 6 := ⟨_, rfl⟩
  have hP40 : P ≤ 40 := by rw [hP]; split <;> omega
  have hFL := fun w hT => HFL.out P v w hP40 hP hT
  obtain ⟨_, hlen, hno, a, fr, pw, xe, hfr, ha, hx2, hx3, hRD, hNE⟩ := HALL.out P hP40
  obtain ⟨PT, hPT⟩ : ∃ PT : Int, PT = if P = 0 then -1 else (P : Int) := ⟨_, rfl⟩
  rw [← hPT] at hRD
  simp only [← hPT] at hNE
  obtain ⟨S, hS⟩ : ∃ S : ByteArray, S = ⟨(str P).toArray⟩ := ⟨_, rfl⟩
  obtain ⟨s1, s2⟩ := exp_idx (str P) S hS _ hno
  rw [HOV.out] at s2
  rw [← hS] at hRD hFL
  have hSz : S.size ≤ 1000 := by omega
  obtain ⟨N, hN⟩ : ∃ N, N = S.size := ⟨_, rfl⟩
  rw [← hN] at hSz
  have hz : ((a.toNat : Int) == 48) = ((LOW : Int) == 0) := by
    by_cases h : LOW = 0
    · rw [ha.2 h, h]; rfl
    · have h3 : a ≠ 48 := fun e => h (ha.1 e)
      have h4 : a.toNat ≠ 48 := fun e => h3 (UInt8.toNat_inj.1 e)
      have e1 : ((a.toNat : Int) == 48) = false := by simp; omega
      have e2 : ((LOW : Int) == 0) = false := by simp; omega
      rw [e1, e2]
  clear hS hno HALL HFL HOV s1 hlen ha
  have hcase : (has = false ∧ P = 6 ∧ PT = 6) ∨ (has = true ∧ P = 0 ∧ v = 0 ∧ PT = -1) ∨ (has = true ∧ v = P ∧ PT = (P : Int) ∧ 0 < P) := by
    rw [hPT]
    cases has
    · left
      have : P = 6 := by simpa using hP
      exact ⟨rfl, this, by rw [this]; rfl⟩
    · right
      have : P = v := by simpa using hP
      rcases Nat.eq_zero_or_pos P with h | h
      · exact Or.inl ⟨rfl, h, by omega, if_pos h⟩
      · exact Or.inr ⟨rfl, this.symm, by rw [if_neg (by omega)], h⟩
  clear hP hPT
  have hFRL := Lib.hid hfr
  clear hfr
  rcases hcase with ⟨rfl, rfl, rfl⟩ | ⟨rfl, rfl, rfl, rfl⟩ | ⟨rfl, rfl, rfl, h0⟩
  case' inr.inr =>
    have p1 : ((v : Int) == 0) = false := by simp; omega
    have p2 : decide ((v : Int) < 0) = false := by simp
    have p3 : ¬ (v : Int) < 0 := by omega
    have p4 : ¬ (v : Int) = 0 := by omega
    have p5 : IntKind.i64.wrap ((v : Int) + 1) = (v : Int) + 1 := IntWalk.i64_in _ (by omega)
  all_goals
    cases upper
    all_goals
      first | (obtain rfl : V = 101 := hV; obtain rfl : OT = 69 := hOT) | (obtain rfl : V = 69 := hV; obtain rfl : OT = 101 := hOT)
      go_wp2_with fail
      refine (hFL _ ?_).mono ?_
      · exact Still.tabs (Still.alloc (Still.alloc hk _) _) hT
      rintro e w3 ⟨rfl, hk3⟩
      have hk3' := ((Still.refl _).alloc _ |>.trans hk3)
      have HK3 := Lib.hid hk3'
      have HRD := Lib.hid hRD
      have HNE := Lib.hid hNE
      have hN' := hN.symm
      clear hRD hNE hFL hk3 hk3' hN
      go_wp2_with fail
      go_loopg [49] N (fun q i wr => ∃ (k : Nat), i = .int .i64 k ∧ k + q = N ∧ w3 = wr)
      case atStart => exact ⟨0, rfl, by omega, rfl⟩
      case round =>
        obtain ⟨k, rfl, hkq, rfl⟩ := hrel
        by_cases hkN : k < N
        · have hks : k < S.size := by omega
          have hne := s2 k hks
          go_wp2_with fail
          go_roundg (gk - 1)
          case measure => omega
          case rel => exact ⟨k + 1, by go_num, by omega, rfl⟩
        · obtain rfl : k = N := by omega
          have hRD := HRD.out
          go_wp2_with fail
          refine (hRD _).mono ?_
          rintro e w4 ⟨ba, hba, rfl, hk4⟩
          have hNE' := fun w => HNE.out w ba hba
          have hk5 := HK3.out.trans hk4
          have hbz : ba.size = fr.length + 1 := by rw [list_size hba]; rfl
          rw [hFRL.out] at hbz
          have hb0 : 0 < ba.size := by omega
          have hbx : ba[0] = a := by
            have := list_idx hba hb0
            simpa using this.symm
          have c0 := hk5.cell4 0 (by omega); have c1 := hk5.cell4 1 (by omega); have c2 := hk5.cell4 2 (by omega); have c3 := hk5.cell4 3 (by omega); have hz4 := hk5.lt4
          simp only [List.getElem_toArray, List.getElem_cons_zero, List.getElem_cons_succ] at c0 c1 c2 c3
          have HH := Lib.hid hk5
          have HBA := Lib.hid hba
          clear hk5 hk4 hba hRD s2
          go_wp2_with fail
          generalize hw6 : World.alloc w4 _ = w6
          first
            | have R5 : Rd5 w4 w6 w4.heap.size NEG ba pw 6 xe := by rw [← hw6]; exact Rd5.alloc _ _ _ _ _ rfl rfl rfl rfl rfl
            | have R5 : Rd5 w4 w6 w4.heap.size NEG ba pw (-1) xe := by rw [← hw6]; exact Rd5.alloc _ _ _ _ _ rfl rfl rfl rfl rfl
            | have R5 : Rd5 w4 w6 w4.heap.size NEG ba pw (v : Int) xe := by rw [← hw6]; exact Rd5.alloc _ _ _ _ _ rfl rfl rfl rfl rfl
          have d0 := R5.c0; have d1 := R5.c1; have d2 := R5.c2; have d3 := R5.c3; have d4 := R5.c4
          have k0 := R5.st.cell c0; have k1 := R5.st.cell c1; have k2 := R5.st.cell c2; have k3 := R5.st.cell c3
          have H6 := Lib.hid R5.st
          clear hw6 R5 c0 c1 c2 c3
          go_still_tail 42, (by kernel_rfl)
          change wpList _ _ _ _ _ w6.drew
          go_wp2_with fail
          refine (hNE' _).mono ?_
          rintro e w5 ⟨rfl, hk6⟩
          go_wp2_with fail
          go_ret
          refine ⟨rfl, ?_⟩
          exact ((Still.alloc hk _).trans HH.out).trans (H6.out.drew.trans hk6)

/-- THE LAW's WALK. -/
theorem exp_walk (wide has upper : Bool) (pr : Int) (bits : Nat) (B : Nat) (w : World) (hT : Tabs B w) (hU : U64 bits) :
    Calls Tryd.prog 3 #[.int .u64 (bits : Int), .bool wide, .int .i64 pr, .bool has, .bool upper] w fun e w' => e = .returned (.bool true) ∧ Still w w' := by
  by_cases hf : fExp wide bits = fTop wide
  · exact exp_walk_no wide has upper pr bits w hU hf
  · obtain ⟨K, hK, h0, h1⟩ := dec_any wide bits
    exact exp_walk_fin wide has upper pr bits B w hT hU hf _ rfl _ rfl (fun P => expText upper wide bits P K) (fun P hP => exp_af upper wide bits P hP hU hf K hK h0 h1) (fun P hP => exp_all upper wide bits P hP K hK h0 h1)

end Go.Proofs.YthfjpofbaeeafaaDoor
