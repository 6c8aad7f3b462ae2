/-
  The law FnG: the walk of the law itself.
-/
import Derived.Test.YthfjpofbaeeafaaDoorGxL
import Derived.IntWalk
namespace Go.Proofs.YthfjpofbaeeafaaDoor
open Go.RowKit

set_option maxRecDepth 100000 in
set_option maxHeartbeats 1000000 in
theorem plain_any (p : Int) (w : World) :
    Calls Tryd.prog 18 #[.int .i64 p] w fun e w' => e = .returned (.agg #[.int .i64 0, .int .i64 p, .bool false, .bool true, .bool false, .bool false, .bool false, .bool false, .bool false]) ∧ Still w w' := by
  go_enter Tryd.func18, Tryd.ntmps18
  go_wp2_with fail
  refine bodyPost_ret (v := .agg #[.int .i64 0, .int .i64 p, .bool false, .bool true, .bool false, .bool false, .bool false, .bool false, .bool false]) (by simp [results, Tryd.results18, go_sem]) rfl ⟨rfl, ?_⟩
  repeat (first | exact Still.refl _ | (with_reducible refine Still.setCell ?_ (Nat.le_refl _) _) | (with_reducible refine Still.alloc ?_ _))

set_option maxRecDepth 100000 in
set_option maxHeartbeats 2000000 in
theorem g_walk_no (wide upper : Bool) (pr : Int) (bits : Nat) (w : World) (hU : U64 bits) (hf : fExp wide bits = fTop wide) :
    Calls Tryd.prog 6 #[.int .u64 (bits : Int), .bool wide, .int .i64 pr, .bool upper] w fun e w' => e = .returned (.bool true) ∧ Still w w' := by
  have hno := fun w => number_no wide bits w hU hf
  have hbe := fun w => below_any pr 30 (by decide) (by decide) w
  go_enter Tryd.func6, Tryd.ntmps6
  go_wp2_with fail
  refine (hno _).mono ?_
  rintro e w1 ⟨⟨b, c, rfl⟩, hk⟩
  go_wp2_with fail
  refine (hbe _).mono ?_
  rintro e w2 ⟨⟨v, rfl, hv⟩, rfl⟩
  go_wp2_with fail
  go_ret
  exact ⟨rfl, by repeat (first | exact hk | (with_reducible refine Still.setCell ?_ (Nat.le_refl _) _) | (with_reducible refine Still.alloc ?_ _))⟩

set_option maxRecDepth 100000 in
set_option maxHeartbeats 4000000 in
theorem g_walk_fin (wide upper : Bool) (pr : Int) (bits : Nat) (B : Nat) (w : World) (hT : Tabs B w) (hU : U64 bits) (hf : fExp wide bits ≠ fTop wide)
    (sz : Int) (hsz : sz = if wide then 64 else 32) (dbl : Nat) (hdbl : dbl = fDbl wide bits) (str : Nat → List UInt8)
    (hAF : ∀ P : Nat, 1 ≤ P → P ≤ 40 → AFspec dbl sz (if upper then 71 else 103) P (str P))
    (hAll : ∀ P : Nat, 1 ≤ P → P ≤ 40 → NumText (str P) ∧ (str P).length ≤ 1000 ∧ ∃ (ds : List UInt8) (pw pt xe : Int) (z n : Nat), GOk P ds pt z n ∧ ds.length ≤ 500 ∧ -2000 ≤ pw ∧ pw ≤ 2000 ∧
      (∀ w, Calls Tryd.prog 14 #[.string ⟨(str P).toArray⟩] w (RdRes w (fNeg wide bits) ds pw pt xe)) ∧
      (∀ (Z : Nat), Z = (if 0 ≤ pt then P - n else 0) → (0 ≤ pt ∨ n = P) → ∀ w (ba : ByteArray), ba.data.toList = ds ++ List.replicate Z 48 → Calls Tryd.prog 15 #[.agg #[.bool (fNeg wide bits), .string ba, .int .i64 (pw - Z), .int .i64 pt, .int .i64 xe], fAgg wide bits] w (NeaRes w true))) :
    Calls Tryd.prog 6 #[.int .u64 (bits : Int), .bool wide, .int .i64 pr, .bool upper] w fun e w' => e = .returned (.bool true) ∧ Still w w' := by
  have hyes := fun w => number_fin wide bits w hU hf
  have hbe := fun w => below_any pr 30 (by decide) (by decide) w
  obtain ⟨NEG, hNEG⟩ : ∃ NEG, NEG = fNeg wide bits := ⟨_, rfl⟩
  obtain ⟨LOW, hLOW⟩ : ∃ LOW, LOW = fLow wide bits := ⟨_, rfl⟩
  obtain ⟨POW, hPOW⟩ : ∃ POW, POW = fPow wide bits := ⟨_, rfl⟩
  obtain ⟨EDGE, hEDGE⟩ : ∃ EDGE, EDGE = fEdge wide bits := ⟨_, rfl⟩
  unfold fAgg at hyes hAll
  rw [← hsz, ← hdbl, ← hNEG, ← hLOW, ← hPOW, ← hEDGE] at hyes
  rw [← hNEG, ← hLOW, ← hPOW, ← hEDGE] at hAll
  clear hsz hdbl hNEG hLOW hPOW hEDGE hf
  obtain ⟨V, hV⟩ : ∃ V : Int, V = if upper then 71 else 103 := ⟨_, rfl⟩
  rw [← hV] at hAF
  have hV0 : 0 ≤ V ∧ V < 256 := by rw [hV]; cases upper <;> decide
  have hFL : ∀ (P : Nat) w, 1 ≤ P → P ≤ 40 → Tabs B w → Calls Tryd.prog 13 #[.agg #[.int .i64 0, .int .i64 P, .bool false, .bool true, .bool false, .bool false, .bool false, .bool false, .bool false], .int .u64 dbl, .int .i64 sz, .int .u8 V, .int .i64 (-1)] w fun e w' => e = .returned (.string ⟨(str P).toArray⟩) ∧ Still w w' := fun P w hP1 hP hT =>
    implFloat_plain dbl sz V (-1) true P (str P) B w hT hV0.1 hV0.2 (hAF P hP1 hP) (hAll P hP1 hP).1 (by have := (hAll P hP1 hP).2.1; omega)
  have HFL := Lib.hid hFL
  have HALL := Lib.hid hAll
  clear hAF hFL hAll hV0
  go_enter Tryd.func6, Tryd.ntmps6
  go_wp2_with fail
  refine (hyes _).mono ?_
  rintro e w1 ⟨rfl, hk⟩
  go_wp2_with fail
  refine (hbe _).mono ?_
  rintro e w2 ⟨⟨v, rfl, hv⟩, rfl⟩
  obtain ⟨P, hP⟩ : ∃ P : Nat, P = v + 1 := ⟨_, rfl⟩
  have hvP : (1 : Int) + v = P := by omega
  have hP1 : 1 ≤ P := by omega
  have hP40 : P ≤ 40 := by omega
  have hFL := fun w hT => HFL.out P w hP1 hP40 hT
  obtain ⟨_, hlen, ds, pw, pt, xe, z, n, hG, hdl, hpw0, hpw1, hRD, hNE⟩ := HALL.out P hP1 hP40
  obtain ⟨S, hS⟩ : ∃ S : ByteArray, S = ⟨(str P).toArray⟩ := ⟨_, rfl⟩
  rw [← hS] at hRD hFL
  have HG := Lib.hid hG
  have HRD := Lib.hid hRD
  have HNE := Lib.hid hNE
  clear hS HALL HFL hlen hG hRD hNE hP
  have hpl := fun w => plain_any (P : Int) w
  cases upper
  all_goals
    first | obtain rfl : V = 103 := hV | obtain rfl : V = 71 := hV
    go_wp2_with fail
    clear hvP
    refine (hpl _).mono ?_
    rintro e w2 ⟨rfl, hk2⟩
    go_wp2_with fail
    refine (hFL _ ?_).mono ?_
    · exact Still.tabs hk2 (Still.tabs (Still.alloc hk _) hT)
    rintro e w3 ⟨rfl, hk3⟩
    have HK3 := Lib.hid (hk2.trans hk3)
    have hRD := HRD.out
    clear hk2 hk3 hFL hpl
    go_wp2_with fail
    refine (hRD _).mono ?_
    rintro e w4 ⟨ba, hba, rfl, hk4⟩
    have hk5 := HK3.out.trans hk4
    have c0 := hk5.cell4 0 (by omega); have c1 := hk5.cell4 1 (by omega); have c2 := hk5.cell4 2 (by omega); have c3 := hk5.cell4 3 (by omega); have hz4 := hk5.lt4
    simp only [List.getElem_toArray, List.getElem_cons_zero, List.getElem_cons_succ] at c0 c1 c2 c3
    have HH := Lib.hid hk5
    have hbz : ba.size = z + n := by rw [list_size hba]; exact HG.out.len
    have hpos : 0 < ba.size := by rw [list_size hba]; exact HG.out.pos
    have hbl : ba.size ≤ 500 := by rw [list_size hba]; exact hdl
    have hlead : ∀ j (hj : j < ba.size), j < z → ba[j] = 48 := fun j hj hjz => by
      have h1 := list_idx hba hj
      rw [HG.out.lead j hjz] at h1
      exact (Option.some.inj h1).symm
    have hstop : n = 0 ∨ ∃ (c : UInt8) (hj : z < ba.size), ba[z] = c ∧ c ≠ 48 := by
      rcases HG.out.stop with h | ⟨c, hc, hne⟩
      · exact Or.inl h
      · by_cases h0 : n = 0
        · exact Or.inl h0
        · have hj : z < ba.size := by omega
          have h1 := list_idx hba hj
          rw [hc] at h1
          exact Or.inr ⟨c, hj, (Option.some.inj h1).symm, hne⟩
    have hnP := HG.out.most
    have hpt0 := HG.out.pt0
    have HBA := Lib.hid hba
    have HLEAD := Lib.hid hlead
    have HSTOP := Lib.hid hstop
    have HPT := Lib.hid hpt0
    clear hk5 hk4 hba hRD hlead hstop hpt0 HRD HK3
    rcases HPT.out with rfl | ⟨hpt, hlast⟩
    · go_wp2_with fail
      generalize hw6 : World.alloc w4 _ = w6
      have R5 : Rd5 w4 w6 w4.heap.size NEG ba pw (-1) xe := by rw [← hw6]; exact Rd5.alloc _ _ _ _ _ rfl rfl rfl rfl rfl
      have hH6 : w1.heap.size < w4.heap.size := by have := HH.out.size; simp only [World.size_alloc] at this; omega
      obtain ⟨H, hH⟩ : ∃ H, H = w4.heap.size := ⟨_, rfl⟩
      rw [← hH] at R5 hH6 ⊢
      clear hw6 hH
      have d0 := R5.c0; have d1 := R5.c1; have d2 := R5.c2; have d3 := R5.c3; have d4 := R5.c4
      have k0 := R5.st.cell c0; have k1 := R5.st.cell c1; have k2 := R5.st.cell c2; have k3 := R5.st.cell c3
      have HR5 := Lib.hid R5
      clear R5 c0 c1 c2
      go_loopg [16] z (fun q i wr => ∃ j : Nat, i = .int .i64 j ∧ j + q = z ∧ w6 = wr)
      case atStart => exact ⟨0, rfl, by omega, rfl⟩
      case round =>
        obtain ⟨j, rfl, hjq, rfl⟩ := hrel
        by_cases hjz : j < z
        · have hjs : j < ba.size := by omega
          have hcj := HLEAD.out j hjs hjz
          go_wp2_with fail
          go_roundg (gk - 1)
          case measure => omega
          case rel => exact ⟨j + 1, by go_num, by omega, rfl⟩
        · obtain rfl : j = z := by omega
          have hsub : (ba.size : Int) - (j : Nat) = n := by omega
          have hmain : n < P ∨ n = P := by omega
          rcases HSTOP.out with h0 | ⟨c, hjs, hc, hc48⟩
          case' inl =>
            have hn0 : (n : Int) ≤ 0 := by omega
            clear h0
          case' inr =>
            have hc49 : ((c.toNat : Int) == 48) = false := by
              have : c.toNat ≠ 48 := fun e => hc48 (UInt8.toNat_inj.1 e)
              simp; omega
          all_goals
            have hNE' : n = P → ∀ w, Calls Tryd.prog 15 #[.agg #[.bool NEG, .string ba, .int .i64 pw, .int .i64 (-1), .int .i64 xe], .agg #[.bool NEG, .int .u64 LOW, .int .i64 POW, .bool EDGE]] w (NeaRes w true) := fun h w => by
              have := HNE.out 0 (by rw [if_neg (by decide)]) (Or.inr h) w ba (by rw [HBA.out]; simp)
              rw [show pw - ((0 : Nat) : Int) = pw by omega] at this
              exact this
            have HNE' := Lib.hid hNE'
            clear hNE'
            go_wp2_with fail
            go_loopg [16] 0 (fun q i wr => i = .int .i64 (n : Int) ∧ w6 = wr)
            case atStart => exact ⟨by go_num, rfl⟩
            case round =>
              obtain ⟨rfl, rfl⟩ := hrel
              rcases hmain with hlt | heq
              · have hltI : (n : Int) < P := by omega
                go_wp2_with fail
                go_ret
                exact ⟨rfl, ((Still.alloc hk _).trans HH.out).trans HR5.out.st⟩
              · first
                  | (exfalso; omega)
                  | (have hNE' := HNE'.out heq
                     have hgeI : ¬ (n : Int) < P := by omega
                     have hleI : (n : Int) ≤ P := by omega
                     go_wp2_with fail
                     refine (hNE' _).mono ?_
                     rintro e w7 ⟨rfl, hk7⟩
                     go_wp2_with fail
                     go_ret
                     exact ⟨rfl, (((Still.alloc hk _).trans HH.out).trans HR5.out.st).trans hk7⟩)
    · obtain ⟨cl, hcl, hcl48⟩ := hlast
      have hLs : z + n - 1 < ba.size := by omega
      have hLc : ba[z + n - 1] = cl := by
        have h1 := list_idx HBA.out hLs
        have h2 := list_size HBA.out
        have h3 : ds[z + n - 1]? = some cl := by rw [show z + n - 1 = ds.length - 1 by omega]; exact hcl
        rw [h3] at h1
        exact (Option.some.inj h1).symm
      have hcl50 : ¬ (cl.toNat : Int) = 48 := by
        have : cl.toNat ≠ 48 := fun e => hcl48 (UInt8.toNat_inj.1 e)
        omega
      have hcl49 : ((cl.toNat : Int) == 48) = false := by
        have : cl.toNat ≠ 48 := fun e => hcl48 (UInt8.toNat_inj.1 e)
        simp; omega
      have hpt2 : ¬ pt = 0 := by omega
      have hpt1 : (pt == 0) = false := by simpa using hpt2
      have hpt3 : 0 ≤ pt := by omega
      go_wp2_with fail
      clear hLc hLs hcl hcl49 hcl50
      generalize hw6 : World.alloc w4 _ = w6
      have R5 : Rd5 w4 w6 w4.heap.size NEG ba pw pt xe := by rw [← hw6]; exact Rd5.alloc _ _ _ _ _ rfl rfl rfl rfl rfl
      have hH6 : w1.heap.size < w4.heap.size := by have := HH.out.size; simp only [World.size_alloc] at this; omega
      obtain ⟨H, hH⟩ : ∃ H, H = w4.heap.size := ⟨_, rfl⟩
      rw [← hH] at R5 hH6 ⊢
      clear hw6 hH
      have d0 := R5.c0; have d1 := R5.c1; have d2 := R5.c2; have d3 := R5.c3; have d4 := R5.c4
      have k0 := R5.st.cell c0; have k1 := R5.st.cell c1; have k2 := R5.st.cell c2; have k3 := R5.st.cell c3
      have HR5 := Lib.hid R5
      clear R5 k0 k1 k2 k3
      go_loopg [16] z (fun q i wr => ∃ j : Nat, i = .int .i64 j ∧ j + q = z ∧ w6 = wr)
      case atStart => exact ⟨0, rfl, by omega, rfl⟩
      case round =>
        obtain ⟨j, rfl, hjq, rfl⟩ := hrel
        by_cases hjz : j < z
        · have hjs : j < ba.size := by omega
          have hcj := HLEAD.out j hjs hjz
          go_wp2_with fail
          go_roundg (gk - 1)
          case measure => omega
          case rel => exact ⟨j + 1, by go_num, by omega, rfl⟩
        · obtain rfl : j = z := by omega
          have hsub : (ba.size : Int) - (j : Nat) = n := by omega
          have hmain : n < P ∨ n = P := by omega
          rcases HSTOP.out with h0 | ⟨c, hjs, hc, hc48⟩
          case' inl =>
            have hn0 : (n : Int) ≤ 0 := by omega
            clear h0
          case' inr =>
            have hc49 : ((c.toNat : Int) == 48) = false := by
              have : c.toNat ≠ 48 := fun e => hc48 (UInt8.toNat_inj.1 e)
              simp; omega
          all_goals
            obtain ⟨Z, hZ⟩ : ∃ Z, n + Z = P := ⟨P - n, by omega⟩
            have hNE' : ∀ w (b2 : ByteArray), b2.data.toList = ds ++ List.replicate Z 48 → Calls Tryd.prog 15 #[.agg #[.bool NEG, .string b2, .int .i64 (pw - (Z : Nat)), .int .i64 pt, .int .i64 xe], .agg #[.bool NEG, .int .u64 LOW, .int .i64 POW, .bool EDGE]] w (NeaRes w true) := fun w b2 h =>
              HNE.out Z (by rw [if_pos (by omega)]; omega) (Or.inl (by omega)) w b2 h
            have HNE' := Lib.hid hNE'
            have HC := Lib.hid (And.intro c0 (And.intro c1 (And.intro c2 c3)))
            clear hNE' c0 c1 c2 c3
            go_wp2_with fail
            go_loopg [16] Z (fun q i wr => ∃ (k : Nat) (b2 : ByteArray), i = .int .i64 ((n : Int) + k) ∧ k + q = Z ∧ b2.data.toList = ds ++ List.replicate k 48 ∧ Rd5 w4 wr H NEG b2 (pw - k) pt xe)
            case atStart => exact ⟨0, ba, by go_num, by omega, by rw [HBA.out]; simp, by simpa using HR5.out⟩
            case round =>
              obtain ⟨k, b2, rfl, hkq, hb2, hR⟩ := hrel
              clear d0 d1 d2 d3 d4
              have d0 := hR.c0; have d1 := hR.c1; have d2 := hR.c2; have d3 := hR.c3; have d4 := hR.c4
              have z1 := hR.fz 1; have z2 := hR.fz 2
              have hb2z : b2.size ≤ 700 := by
                rw [list_size hb2, List.length_append, List.length_replicate]; omega
              by_cases hkZ : k < Z
              · have i1 : (n : Int) + k < P := by omega
                have hR' := (hR.set1 (b2 ++ { data := #[48] })).set2 (pw - k - 1)
                have HR' := Lib.hid hR'
                have HB2 := Lib.hid hb2
                have hcc : ¬ ((b2.size + ({ data := #[48] } : ByteArray).size : Nat) : Int) > IntKind.i64.max := by rw [show IntKind.i64.max = 9223372036854775807 from rfl]; show ¬ ((b2.size + 1 : Nat) : Int) > _; omega
                have hcc2 : ¬ (9223372036854775807 < (b2.size : Int) + 1) := by omega
                clear hR hR' hb2
                go_wp2_with fail
                go_roundg (gk - 1)
                case measure => omega
                case rel =>
                  refine ⟨k + 1, b2 ++ { data := #[48] }, by go_num, by omega, ?_, ?_⟩
                  · show b2.data.toList ++ [48] = _
                    rw [HB2.out, List.append_assoc, ← List.replicate_succ']
                  · have e : pw - ((k + 1 : Nat) : Int) = pw - (k : Int) - 1 := by omega
                    rw [e]
                    exact HR'.out
              · obtain rfl : k = Z := by omega
                have i1 : ¬ (n : Int) + k < P := by omega
                have i2 : (n : Int) + k ≤ P := by omega
                obtain ⟨x0, x1, x2, x3⟩ := HC.out
                have k0 := hR.st.cell x0; have k1 := hR.st.cell x1; have k2 := hR.st.cell x2; have k3 := hR.st.cell x3
                have hNE' := fun w => HNE'.out w b2 hb2
                have HST := Lib.hid hR.st
                clear x0 x1 x2 x3 hR
                go_wp2_with fail
                refine (hNE' _).mono ?_
                rintro e w7 ⟨rfl, hk7⟩
                go_wp2_with fail
                go_ret
                exact ⟨rfl, (((Still.alloc hk _).trans HH.out).trans HST.out).trans hk7⟩

/-- THE LAW's WALK. -/
theorem g_walk (wide upper : Bool) (pr : Int) (bits : Nat) (B : Nat) (w : World) (hT : Tabs B w) (hU : U64 bits) :
    Calls Tryd.prog 6 #[.int .u64 (bits : Int), .bool wide, .int .i64 pr, .bool upper] w fun e w' => e = .returned (.bool true) ∧ Still w w' := by
  by_cases hf : fExp wide bits = fTop wide
  · exact g_walk_no wide upper pr bits w hU hf
  · obtain ⟨K, hK, h0, h1⟩ := dec_any wide bits
    exact g_walk_fin wide upper pr bits B w hT hU hf _ rfl _ rfl (fun P => gTextOf upper wide bits P K) (fun P hP1 hP => g_af upper wide bits P hP1 hP hU hf K hK h0 h1) (fun P hP1 hP => g_law upper wide bits P hP1 hP K hK h0 h1)

end Go.Proofs.YthfjpofbaeeafaaDoor
