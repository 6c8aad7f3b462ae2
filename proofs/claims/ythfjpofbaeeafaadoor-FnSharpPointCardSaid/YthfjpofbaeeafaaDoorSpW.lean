/-
  The law FnSharpPoint: the walk of the law itself.
-/
import Derived.Test.YthfjpofbaeeafaaDoorSpL
namespace Go.Proofs.YthfjpofbaeeafaaDoor
open Go.RowKit

set_option maxRecDepth 100000 in
set_option maxHeartbeats 1000000 in
theorem plain_any (p : Int) (w : World) :
    Calls Tryd.prog 18 #[.int .i64 p] w fun e w' => e = .returned (.agg #[.int .i64 0, .int .i64 p, .bool false, .bool true, .bool false, .bool false, .bool false, .bool false, .bool false]) ∧ Still w w' := by
  go_enter Tryd.func18, Tryd.ntmps18
  go_wp2_with fail
  refine bodyPost_ret (v := .agg #[.int .i64 0, .int .i64 p, .bool false, .bool true, .bool false, .bool false, .bool false, .bool false, .bool false]) (by simp [results, Tryd.results18, go_sem]) rfl ⟨rfl, ?_⟩
  repeat (first | exact Still.refl _ | (with_reducible refine Still.setCell ?_ (Nat.le_refl _) _) | (with_reducible refine Still.alloc ?_ _))

theorem flTxt_sp (a fr ex : List UInt8) (p : Bool) (ha : isD a) (hf : isD fr) (h0 : 0 < a.length) (hl : a.length ≤ 1000) (hfl : fr.length ≤ 1000)
    (hex : ex = [] ∨ ∃ (V g : UInt8) (l : List UInt8), ex = V :: g :: l ∧ (V = 101 ∨ V = 69) ∧ (g = 45 ∨ g = 43) ∧ isD l ∧ l.length ≤ 10) : FlTxt (mantOf a p fr) ex := by
  have hd : ∀ l, isD l → ∀ c ∈ l, c = 46 ∨ 48 ≤ c.toNat ∧ c.toNat < 58 := fun l h c hc => by
    have := h c hc
    exact Or.inr ⟨this.1, by omega⟩
  have hexl : ex.length ≤ 12 := by
    rcases hex with h | ⟨V, g, l, h, _, _, _, h4⟩
    · rw [h]; decide
    · rw [h, List.length_cons, List.length_cons]; omega
  refine ⟨?_, fun c hc => ?_, ?_, fun c hc => ?_, ?_⟩
  · cases a with
    | nil => simp at h0
    | cons d l =>
      have h1 := ha d (by simp)
      cases p
      · exact ⟨d, l, rfl, h1.1, by omega⟩
      · exact ⟨d, l ++ 46 :: fr, rfl, h1.1, by omega⟩
  · unfold mantOf at hc
    split at hc
    · rcases List.mem_append.1 hc with hc | hc
      · exact hd a ha c hc
      · rcases List.mem_cons.1 hc with hc | hc
        · exact Or.inl hc
        · exact hd fr hf c hc
    · exact hd a ha c hc
  · rcases hex with h | ⟨V, g, l, h, h1, _⟩
    · exact Or.inl h
    · exact Or.inr ⟨V, g :: l, h, h1⟩
  · rcases hex with h | ⟨V, g, l, h, h1, h2, h3, _⟩
    · rw [h] at hc; simp at hc
    · rw [h, List.mem_cons, List.mem_cons] at hc
      rcases hc with rfl | rfl | hc
      · rcases h1 with rfl | rfl <;> decide
      · rcases h2 with rfl | rfl <;> decide
      · have := h3 c hc; omega
  · unfold mantOf
    split
    · rw [List.length_append, List.length_cons]; omega
    · omega

theorem out_plain (neg : Bool) (b : List UInt8) : outTxt false false false false 0 (sgB neg false false) b = sgn neg ++ b := by
  cases neg <;> rfl
theorem ba_of_list' {r : ByteArray} {l : List UInt8} (h : r.data.toList = l) : r = ⟨l.toArray⟩ := by
  rw [← h]
theorem ba_ext {a b : ByteArray} (h : a.data.toList = b.data.toList) : a = b := (ba_of_list' h).trans (ba_of_list' rfl).symm
theorem str_append' (a b : ByteArray) : (a ++ b).data.toList = a.data.toList ++ b.data.toList := by simp
theorem take_extract {s : ByteArray} {l : List UInt8} (hs : s.data.toList = l) (k : Nat) : (s.extract 0 k).data.toList = l.take k := by
  rw [← hs, Lib.extract_data]
  simp

set_option maxRecDepth 100000 in
set_option maxHeartbeats 2000000 in
theorem sp_walk_no (wide : Bool) (pr k : Int) (bits : Nat) (w : World) (hU : U64 bits) (hf : fExp wide bits = fTop wide) :
    Calls Tryd.prog 9 #[.int .u64 (bits : Int), .bool wide, .int .i64 pr, .int .i64 k] w fun e w' => e = .returned (.bool true) ∧ Still w w' := by
  have hno := fun w => number_no wide bits w hU hf
  have hbe := fun w => below_any pr 20 (by decide) (by decide) w
  go_enter Tryd.func9, Tryd.ntmps9
  go_wp2_with fail
  refine (hno _).mono ?_
  rintro e w1 ⟨⟨b, c, rfl⟩, hk⟩
  go_wp2_with fail
  refine (hbe _).mono ?_
  rintro e w2 ⟨⟨v, rfl, hv⟩, rfl⟩
  go_wp2_with fail
  go_ret
  exact ⟨rfl, by repeat (first | exact hk | (with_reducible refine Still.setCell ?_ (Nat.le_refl _) _) | (with_reducible refine Still.alloc ?_ _))⟩

set_option maxRecDepth 100000 in
set_option maxHeartbeats 8000000 in
theorem sp_walk_fin (wide : Bool) (pr k : Int) (bits : Nat) (B : Nat) (w : World) (hT : Tabs B w) (hU : U64 bits) (hf : fExp wide bits ≠ fTop wide)
    (sz : Int) (hsz : sz = if wide then 64 else 32) (dbl : Nat) (hdbl : dbl = fDbl wide bits)
    (hAll : ∀ (V : Int) (P : Nat), (V = 101 ∨ V = 69 ∨ V = 102) → P < 20 → ∃ a fr ex, isD a ∧ isD fr ∧ 0 < a.length ∧ a.length ≤ 400 ∧ fr.length = P ∧ (ex = [] ∨ ∃ (V' g : UInt8) (l : List UInt8), ex = V' :: g :: l ∧ (V' = 101 ∨ V' = 69) ∧ (g = 45 ∨ g = 43) ∧ isD l ∧ l.length ≤ 10) ∧
      (∀ w, Tabs B w → Calls Tryd.prog 13 #[.agg #[.int .i64 0, .int .i64 P, .bool false, .bool true, .bool false, .bool false, .bool false, .bool false, .bool false], .int .u64 dbl, .int .i64 sz, .int .u8 V, .int .i64 6] w fun e w' => e = .returned (.string ⟨(sgn (fNeg wide bits) ++ (mantOf a (decide (P ≠ 0)) fr ++ ex)).toArray⟩) ∧ Still w w') ∧
      (∀ w, Tabs B w → Calls Tryd.prog 13 #[.agg #[.int .i64 0, .int .i64 P, .bool false, .bool true, .bool false, .bool false, .bool true, .bool false, .bool false], .int .u64 dbl, .int .i64 sz, .int .u8 V, .int .i64 6] w fun e w' => e = .returned (.string ⟨(sgn (fNeg wide bits) ++ shp 0 (mantOf a (decide (P ≠ 0)) fr) ex).toArray⟩) ∧ Still w w')) :
    Calls Tryd.prog 9 #[.int .u64 (bits : Int), .bool wide, .int .i64 pr, .int .i64 k] w fun e w' => e = .returned (.bool true) ∧ Still w w' := by
  have hyes := fun w => number_fin wide bits w hU hf
  obtain ⟨NEG, hNEG⟩ : ∃ NEG, NEG = fNeg wide bits := ⟨_, rfl⟩
  unfold fAgg at hyes
  rw [← hsz, ← hdbl] at hyes
  rw [← hNEG] at hAll
  have hbe := fun w => below_any pr 20 (by decide) (by decide) w
  have hbk := fun w => below_any k 3 (by decide) (by decide) w
  have HALL := Lib.hid hAll
  clear hAll hsz hdbl hNEG hf
  go_enter Tryd.func9, Tryd.ntmps9
  go_wp2_with fail
  refine (hyes _).mono ?_
  rintro e w1 ⟨rfl, hk⟩
  go_wp2_with fail
  refine (hbe _).mono ?_
  rintro e w2 ⟨⟨P, rfl, hP⟩, rfl⟩
  go_upto_region 5 with fail
  generalize hw3 : World.alloc w1 _ = w3
  have hs3 : Still w w3 := by rw [← hw3]; exact hk.alloc _
  clear hw3 hk hyes hbe
  go_cut [13] (fun v wx => ∃ V : Int, v = .int .u8 V ∧ (V = 101 ∨ V = 69 ∨ V = 102) ∧ w3 = wx)
  case first =>
    go_wp2_with fail
    refine (hbk _).mono ?_
    rintro e _ ⟨⟨KK, rfl, hKK⟩, rfl⟩
    have hkk : KK = 0 ∨ KK = 1 ∨ KK = 2 := by omega
    rcases hkk with rfl | rfl | rfl
    all_goals
      go_wp2_with fail
      go_meet
      exact ⟨_, rfl, by decide, rfl⟩
  case rest =>
    obtain ⟨V, rfl, hV, rfl⟩ := hcut
    clear hbk
    obtain ⟨a, fr, ex, ha, hf, ha0, ha1, hfr, hex, hc1, hc2⟩ := HALL.out V P hV (by omega)
    have hpl := fun w => plain_any (P : Int) w
    obtain ⟨T, hTx⟩ : ∃ T : ByteArray, T = ⟨(sgn NEG ++ (mantOf a (decide (P ≠ 0)) fr ++ ex)).toArray⟩ := ⟨_, rfl⟩
    obtain ⟨OUTS, hO⟩ : ∃ O : ByteArray, O = ⟨(sgn NEG ++ shp 0 (mantOf a (decide (P ≠ 0)) fr) ex).toArray⟩ := ⟨_, rfl⟩
    have hTl : T.data.toList = sgn NEG ++ (mantOf a (decide (P ≠ 0)) fr ++ ex) := by rw [hTx]
    rw [← hTx] at hc1
    rw [← hO] at hc2
    have HPL := Lib.hid hpl
    have HC1 := Lib.hid hc1
    have HC2 := Lib.hid hc2
    have HTL := Lib.hid hTl
    have HO := Lib.hid hO
    have HA := Lib.hid ha
    have HEX := Lib.hid hex
    have HFR := Lib.hid hfr
    clear hpl hc1 hc2 hTl hTx hO ha hf hex HALL hfr
    go_wp2_with fail
    refine (HPL.out _).mono ?_
    rintro e w4 ⟨rfl, hk4⟩
    go_wp2_with fail
    refine (HC1.out _ (Still.tabs (hs3.trans hk4) hT)).mono ?_
    rintro e w5 ⟨rfl, hk5⟩
    have HS5 := Lib.hid ((hs3.trans hk4).trans hk5)
    clear hk4 hk5 hs3
    by_cases hP0 : P = 0
    · subst hP0
      have hfr0 : fr = [] := List.length_eq_zero_iff.1 HFR.out
      have hm0 : mantOf a (decide ((0 : Nat) ≠ 0)) fr = a := by simp [mantOf]
      have hT1 := HTL.out
      rw [hm0, ← List.append_assoc] at hT1
      obtain ⟨pre, hpre⟩ : ∃ pre, pre = sgn NEG ++ a := ⟨_, rfl⟩
      rw [← hpre] at hT1
      obtain ⟨m, hm⟩ : ∃ m, m = pre.length := ⟨_, rfl⟩
      have hsl := sgn_len NEG
      have hmb : m ≤ 500 := by rw [hm, hpre, List.length_append]; omega
      have hTz : T.size = m + ex.length := by rw [list_size hT1, List.length_append, hm]
      have hexb : ex.length ≤ 12 := by
        rcases HEX.out with h | ⟨V', g, l, h, _, _, _, h4⟩
        · rw [h]; decide
        · rw [h, List.length_cons, List.length_cons]; omega
      have hpc : ∀ c ∈ pre, c ≠ 101 ∧ c ≠ 69 := fun c hc => by
        rw [hpre, List.mem_append] at hc
        rcases hc with hc | hc
        · revert hc
          cases NEG
          · intro hc; simp [sgn] at hc
          · intro hc
            have : c = 45 := by simpa [sgn] using hc
            subst this; decide
        · have := HA.out c hc
          exact ⟨fun e => by rw [e] at this; exact absurd this.2 (by decide), fun e => by rw [e] at this; exact absurd this.2 (by decide)⟩
      have hcell : ∀ j (h : j < T.size), j < m → ((T[j].toNat : Int) != 101) = true ∧ ((T[j].toNat : Int) != 69) = true := fun j h hj => by
        have h1 := list_idx hT1 h
        rw [List.getElem?_append_left (by omega), List.getElem?_eq_getElem (by omega)] at h1
        have h2 := Option.some.inj h1
        have h3 := hpc _ (List.getElem_mem (show j < pre.length by omega))
        rw [h2] at h3
        have n1 : T[j].toNat ≠ 101 := fun e => h3.1 (UInt8.toNat_inj.1 e)
        have n2 : T[j].toNat ≠ 69 := fun e => h3.2 (UInt8.toNat_inj.1 e)
        exact ⟨by rw [bne_iff_ne]; omega, by rw [bne_iff_ne]; omega⟩
      have hend : T.size = m ∨ ∃ (h : m < T.size), T[m] = 101 ∨ T[m] = 69 := by
        rcases HEX.out with h | ⟨V', g, l, h, h2, _⟩
        · left; rw [hTz, h]; rfl
        · right
          have hlt : m < T.size := by rw [hTz, h, List.length_cons]; omega
          refine ⟨hlt, ?_⟩
          have h1 := list_idx hT1 hlt
          rw [List.getElem?_append_right (by omega), ← hm, Nat.sub_self, h] at h1
          simp at h1
          rw [← h1]
          exact h2
      have hX1 := take_extract hT1 m
      have hX2 := drop_extract hT1 m
      rw [List.take_append_of_le_length (by omega), List.take_of_length_le (by omega)] at hX1
      rw [List.drop_append_of_le_length (by omega), List.drop_of_length_le (by omega), List.nil_append] at hX2
      obtain ⟨X1, hX1e⟩ : ∃ X1, T.extract 0 m = X1 := ⟨_, rfl⟩
      obtain ⟨X2, hX2e⟩ : ∃ X2, T.extract m T.size = X2 := ⟨_, rfl⟩
      rw [hX1e] at hX1
      rw [hX2e] at hX2
      have hz1 : X1.size = m := by rw [list_size hX1, hm]
      have hz2 : X2.size = ex.length := list_size hX2
      have hOU : X1 ++ { data := #[46] } ++ X2 = OUTS := by
        rw [HO.out, hm0]
        have : shp 0 a ex = a ++ ([46] ++ ex) := shp_none a ex HA.out
        rw [this]
        refine ba_of_list' ?_
        rw [str_append', str_append', hX1, hX2, hpre]
        simp
      have hOU2 : T.size = m → X1 ++ { data := #[46] } = OUTS := fun h => by
        rw [← hOU]
        refine ba_ext ?_
        have he : ex = [] := List.length_eq_zero_iff.1 (by omega)
        rw [str_append' (X1 ++ { data := #[46] }) X2, hX2, he, List.append_nil]
      have HOU2 := Lib.hid hOU2
      have hcc1 : ¬ ((X1.size + ({ data := #[46] } : ByteArray).size : Nat) : Int) > IntKind.i64.max := by rw [show IntKind.i64.max = 9223372036854775807 from rfl]; show ¬ ((X1.size + 1 : Nat) : Int) > _; omega
      have hcc2 : ¬ (((X1 ++ { data := #[46] }).size + X2.size : Nat) : Int) > IntKind.i64.max := by
        rw [show IntKind.i64.max = 9223372036854775807 from rfl, ByteArray.size_append]
        show ¬ ((X1.size + 1 + X2.size : Nat) : Int) > _
        omega
      have hzI : (X1.size : Int) ≤ 500 := by omega
      have hzI2 : (X2.size : Int) ≤ 12 := by omega
      have hTI : (m : Int) ≤ T.size := by omega
      have HCELL := Lib.hid hcell
      have HEND := Lib.hid hend
      have HOU := Lib.hid hOU
      clear hcell hend hpc hT1 hX1 hX2 hOU hOU2 hm hpre hfr0 hm0 hTz hsl hz2
      go_wp2_with fail
      go_loopg [15] m (fun q v wr => ∃ j : Nat, v = .int .i64 j ∧ j + q = m ∧ w5 = wr)
      case atStart => exact ⟨0, rfl, by omega, rfl⟩
      case round =>
        obtain ⟨j, rfl, hjq, rfl⟩ := hrel
        by_cases hj : j < m
        · have hjs : j < T.size := by omega
          obtain ⟨t1, t2⟩ := HCELL.out j hjs hj
          go_wp2_with fail
          go_roundg (gk - 1)
          case measure => omega
          case rel => exact ⟨j + 1, by go_num, by omega, rfl⟩
        · obtain rfl : j = m := by omega
          rcases HEND.out with h | ⟨hlt, h | h⟩
          all_goals
            go_wp2_with fail
            go_quiet (fail)
            obtain ⟨w5b, hw5b⟩ : ∃ w5b, w5b = w5.drewN nq := ⟨_, rfl⟩
            have hs5 : Still w w5b := by rw [hw5b]; exact HS5.out.drewN nq
            rw [← hw5b]
            first
              | rw [HOU.out]
              | rw [HOU2.out h]
            clear hw5b
            go_wp2_with fail
            refine (HPL.out _).mono ?_
            rintro e w6 ⟨rfl, hk6⟩
            go_wp2_with fail
            refine (HC2.out _ ?_).mono ?_
            · exact Still.tabs (Still.alloc (hs5.trans hk6) _) hT
            rintro e w7 ⟨rfl, hk7⟩
            go_wp2_with fail
            go_ret
            exact ⟨rfl, ((hs5.trans hk6).alloc _).trans hk7⟩
    · have hPI : ((P : Int) == 0) = false := by rw [beq_eq_false_iff_ne]; omega
      have hTO : T = OUTS := by
        rw [HO.out, decide_eq_true hP0, shp_point]
        have := HTL.out
        rw [decide_eq_true hP0] at this
        exact ba_of_list' this
      subst hTO
      go_wp2_with fail
      refine (HPL.out _).mono ?_
      rintro e w6 ⟨rfl, hk6⟩
      go_wp2_with fail
      refine (HC2.out _ ?_).mono ?_
      · exact Still.tabs (Still.alloc (HS5.out.trans hk6) _) hT
      rintro e w7 ⟨rfl, hk7⟩
      go_wp2_with fail
      go_ret
      exact ⟨rfl, ((HS5.out.trans hk6).alloc _).trans hk7⟩

/-- THE LAW's WALK. -/
theorem sp_walk (wide : Bool) (pr k : Int) (bits : Nat) (B : Nat) (w : World) (hT : Tabs B w) (hU : U64 bits) :
    Calls Tryd.prog 9 #[.int .u64 (bits : Int), .bool wide, .int .i64 pr, .int .i64 k] w fun e w' => e = .returned (.bool true) ∧ Still w w' := by
  by_cases hf : fExp wide bits = fTop wide
  · exact sp_walk_no wide pr k bits w hU hf
  · refine sp_walk_fin wide pr k bits B w hT hU hf _ rfl _ rfl (fun V P hV hP => ?_)
    obtain ⟨a, fr, ex, ha, hf2, ha0, ha1, hfr, hex, hA⟩ := sp_text wide bits hU hf V hV P (by omega)
    have hV5 : V = 101 ∨ V = 69 ∨ V = 102 ∨ V = 103 ∨ V = 71 := by omega
    have hX : FlTxt (mantOf a (decide (P ≠ 0)) fr) ex := flTxt_sp a fr ex _ ha hf2 ha0 (by omega) (by omega) hex
    refine ⟨a, fr, ex, ha, hf2, ha0, ha1, hfr, hex, fun w hT => ?_, fun w hT => ?_⟩
    · exact implFloat_full (fDbl wide bits) (if wide then 64 else 32) V 6 false false false false false false 0 P B w hT hV5 (by decide) (by omega) (fNeg wide bits) _ ex hX hA _ (by rw [out_plain]; rfl)
    · exact implFloat_full (fDbl wide bits) (if wide then 64 else 32) V 6 false false false true false false 0 P B w hT hV5 (by decide) (by omega) (fNeg wide bits) _ ex hX hA _ (by
        rw [out_plain]
        unfold bodyOf
        rw [if_pos rfl, if_neg (by omega)])

end Go.Proofs.YthfjpofbaeeafaaDoor
