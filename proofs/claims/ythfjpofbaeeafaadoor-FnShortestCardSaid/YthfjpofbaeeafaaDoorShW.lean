/-
  The law FnShortest: the walk of the law itself.
-/
import Derived.Test.YthfjpofbaeeafaaDoorShO
import Derived.Test.YthfjpofbaeeafaaDoorFTS64
import Derived.Test.YthfjpofbaeeafaaDoorFTS32
import Derived.IntWalk
namespace Go.Proofs.YthfjpofbaeeafaaDoor
open Go.RowKit

theorem take_to {s : ByteArray} {l : List UInt8} (hs : s.data.toList = l) (k : Nat) : (s.extract 0 k).data.toList = l.take k := by
  rw [← hs, Lib.extract_data]
  rfl

set_option maxRecDepth 100000 in
set_option maxHeartbeats 2000000 in
theorem sh_walk_no (wide : Bool) (kk : Int) (bits : Nat) (w : World) (hU : U64 bits) (hf : fExp wide bits = fTop wide) :
    Calls Tryd.prog 10 #[.int .u64 (bits : Int), .bool wide, .int .i64 kk] w fun e w' => e = .returned (.bool true) ∧ Still w w' := by
  have hno := fun w => number_no wide bits w hU hf
  go_enter Tryd.func10, Tryd.ntmps10
  go_wp2_with fail
  refine (hno _).mono ?_
  rintro e w1 ⟨⟨b, c, rfl⟩, hk⟩
  go_wp2_with fail
  go_ret
  exact ⟨rfl, by repeat (first | exact hk | (with_reducible refine Still.setCell ?_ (Nat.le_refl _) _) | (with_reducible refine Still.alloc ?_ _))⟩

/-- The verbs. -/
def vS (v : Nat) : Int := if v = 0 then 101 else if v = 1 then 102 else if v = 2 then 103 else 71

set_option maxRecDepth 100000 in
set_option maxHeartbeats 4000000 in
theorem sh_walk_fin (wide : Bool) (kk : Int) (bits : Nat) (B : Nat) (w : World) (hT : Tabs B w) (hU : U64 bits) (hf : fExp wide bits ≠ fTop wide)
    (sz : Int) (hsz : sz = if wide then 64 else 32) (dbl : Nat) (hdbl : dbl = fDbl wide bits) (str : Nat → List UInt8)
    (hAF : ∀ v : Nat, v < 4 → AFspec dbl sz (vS v) (-1) (str v))
    (hAll : ∀ v : Nat, v < 4 → ∃ (ds : List UInt8) (pw pt xe : Int) (z k : Nat), ShOk (fNeg wide bits) (fLow wide bits) (fPow wide bits) (fEdge wide bits) (str v) ds pw pt xe z k) :
    Calls Tryd.prog 10 #[.int .u64 (bits : Int), .bool wide, .int .i64 kk] w fun e w' => e = .returned (.bool true) ∧ Still w w' := by
  have hyes := fun w => number_fin wide bits w hU hf
  have hbe := fun w => below_any kk 4 (by decide) (by decide) w
  obtain ⟨NEG, hNEG⟩ : ∃ NEG, NEG = fNeg wide bits := ⟨_, rfl⟩
  obtain ⟨LOW, hLOW⟩ : ∃ LOW, LOW = fLow wide bits := ⟨_, rfl⟩
  obtain ⟨POW, hPOW⟩ : ∃ POW, POW = fPow wide bits := ⟨_, rfl⟩
  obtain ⟨EDGE, hEDGE⟩ : ∃ EDGE, EDGE = fEdge wide bits := ⟨_, rfl⟩
  unfold fAgg at hyes
  rw [← hsz, ← hdbl, ← hNEG, ← hLOW, ← hPOW, ← hEDGE] at hyes
  rw [← hNEG, ← hLOW, ← hPOW, ← hEDGE] at hAll
  clear hsz hdbl hNEG hLOW hPOW hEDGE hf
  have hFL : ∀ (v : Nat) w, v < 4 → Tabs B w → Calls Tryd.prog 13 #[.agg #[.int .i64 0, .int .i64 0, .bool false, .bool false, .bool false, .bool false, .bool false, .bool false, .bool false], .int .u64 dbl, .int .i64 sz, .int .u8 (vS v), .int .i64 (-1)] w fun e w' => e = .returned (.string ⟨(str v).toArray⟩) ∧ Still w w' := fun v w hv hT => by
    obtain ⟨ds, pw, pt, xe, z, k, h⟩ := hAll v hv
    exact implFloat_plain dbl sz (vS v) (-1) false 0 (str v) B w hT (by unfold vS; split <;> (try split) <;> (try split) <;> decide) (by unfold vS; split <;> (try split) <;> (try split) <;> decide) (hAF v hv) h.num (by have := h.len; omega)
  have HFL := Lib.hid hFL
  have HALL := Lib.hid hAll
  obtain ⟨LIT, hLIT⟩ : ∃ LIT : ByteArray, LIT = { data := #[101, 102, 103, 71] } := ⟨_, rfl⟩
  have hlit : LIT.size = 4 := by rw [hLIT]; rfl
  have hat : ∀ v (h : v < LIT.size), ((LIT[v]).toNat : Int) = vS v := fun v h => by
    rw [hlit] at h
    subst hLIT
    have h4 : v = 0 ∨ v = 1 ∨ v = 2 ∨ v = 3 := by omega
    rcases h4 with rfl | rfl | rfl | rfl <;> rfl
  have HAT := Lib.hid hat
  clear hAF hFL hAll hat
  go_enter Tryd.func10, Tryd.ntmps10
  rw [← hLIT]
  clear hLIT
  go_wp2_with fail
  refine (hyes _).mono ?_
  rintro e w1 ⟨rfl, hk⟩
  go_wp2_with fail
  refine (hbe _).mono ?_
  rintro e w2 ⟨⟨v, rfl, hv⟩, rfl⟩
  have hv4 : v < 4 := by omega
  have hvs : v < LIT.size := by omega
  have hvI : (v : Int) < LIT.size := by omega
  have hvc := HAT.out v hvs
  obtain ⟨V, hV⟩ : ∃ V, V = vS v := ⟨_, rfl⟩
  have hFL := fun w hT => HFL.out v w hv4 hT
  rw [← hV] at hvc hFL
  obtain ⟨ds, pw, pt, xe, z, k, hO⟩ := HALL.out v hv4
  obtain ⟨S, hS⟩ : ∃ S : ByteArray, S = ⟨(str v).toArray⟩ := ⟨_, rfl⟩
  have hRD := hO.read
  rw [← hS] at hRD hFL
  have HO := Lib.hid hO
  have HRD := Lib.hid hRD
  clear hS HALL HFL hO hRD hV HAT
  go_wp2_with fail
  refine (hFL _ ?_).mono ?_
  · exact Still.tabs (Still.alloc hk _) hT
  rintro e w3 ⟨rfl, hk3⟩
  have HK3 := Lib.hid hk3
  have hRD := HRD.out
  clear hk3 hFL hlit hvs hvI hvc
  go_wp2_with fail
  refine (hRD _).mono ?_
  rintro e w4 ⟨ba, hba, rfl, hk4⟩
  have hk5 := HK3.out.trans hk4
  have c0 := hk5.cell4 0 (by omega); have c1 := hk5.cell4 1 (by omega); have c2 := hk5.cell4 2 (by omega); have c3 := hk5.cell4 3 (by omega); have hz4 := hk5.lt4
  simp only [List.getElem_toArray, List.getElem_cons_zero, List.getElem_cons_succ] at c0 c1 c2 c3
  have hH6 : w1.heap.size < w4.heap.size := hz4
  have HH := Lib.hid hk5
  have HBA := Lib.hid hba
  have hID := fun w => HO.out.yes w ba hba
  have HID := Lib.hid hID
  clear hk5 hk4 hba hID hRD HRD HK3
  go_wp2_with fail
  generalize hw6 : World.alloc w4 _ = w6
  have R5 : Rd5 w4 w6 w4.heap.size NEG ba pw pt xe := by rw [← hw6]; exact Rd5.alloc _ _ _ _ _ rfl rfl rfl rfl rfl
  obtain ⟨H, hH⟩ : ∃ H, H = w4.heap.size := ⟨_, rfl⟩
  rw [← hH] at R5 hH6 ⊢
  have hH4 : H ≤ w4.heap.size := by omega
  clear hw6 hH
  refine (HID.out _).mono ?_
  rintro e w7 ⟨rfl, hk7⟩
  have hR7 := R5.into hk7
  have HC := Lib.hid (And.intro c0 (And.intro c1 (And.intro c2 c3)))
  have HR := Lib.hid hR7
  clear R5 hk7 c0 c1 c2 c3 hR7
  by_cases hn : ds = []
  · as_aux_lemma =>
    obtain ⟨hz1, hk0⟩ := HO.out.nil hn
    have hb1 : ba.size = 1 := by rw [list_size HBA.out, hn, hz1, hk0]; rfl
    have d1 := HR.out.c1
    have HST := Lib.hid HR.out.st
    clear HBA HR hn hz1 hk0 HC HID
    go_wp2_with fail
    go_loopg [44] 0 (fun q u wr => w7 = wr)
    case atStart => rfl
    case round =>
      obtain rfl := hrel
      go_wp2_with fail
      go_loopg [58] 0 (fun q u wr => w7 = wr)
      case atStart => rfl
      case round =>
        obtain rfl := hrel
        go_wp2_with fail
        go_ret
        exact ⟨rfl, ((Still.alloc hk _).trans HH.out).trans HST.out⟩
  · obtain ⟨c0, l0, hl0, hc0⟩ := HO.out.head hn
    obtain ⟨l1, c1, hl1, hc1⟩ := HO.out.last hn
    have hzk := HO.out.zk
    have hdl : 0 < ds.length := List.length_pos_iff.2 hn
    have HL0 := Lib.hid hl0
    have HL1 := Lib.hid hl1
    have HP := Lib.hid (And.intro HO.out.p0 HO.out.p1)
    clear hl0 hl1 hn
    go_upto_block 0 with (fail)
    go_cut [44] (fun u wx => ∃ b2 : ByteArray, b2.data.toList = ds ++ List.replicate k 48 ∧ Rd5 w4 wx H NEG b2 pw pt xe)
    case first => as_aux_lemma =>
      go_wp2_with fail
      go_loopg [44] z (fun q u wr => ∃ b2 : ByteArray, b2.data.toList = (List.replicate q 48 ++ ds) ++ List.replicate k 48 ∧ q ≤ z ∧ Rd5 w4 wr H NEG b2 pw pt xe)
      case atStart => exact ⟨ba, HBA.out, Nat.le_refl _, HR.out⟩
      case round =>
        obtain ⟨b2, hb2, hqz, hR⟩ := hrel
        have d1 := hR.c1
        have z1 := hR.fz 1
        have hsz : b2.size = gk + ds.length + k := by rw [list_size hb2]; simp; omega
        have HB2 := Lib.hid hb2
        have HR2 := Lib.hid hR
        by_cases hg : gk = 0
        · subst hg
          by_cases h1 : b2.size = 1
          · clear hsz hb2 hR
            go_wp2_with fail
            go_meet
            exact ⟨b2, by simpa using HB2.out, HR2.out⟩
          · have h0 : 0 < b2.size := by omega
            have hx : b2[0] = c0 := by
              have := list_idx hb2 h0
              rw [HL0.out] at this
              simpa using this.symm
            have hc : ((c0.toNat : Int) == 48) = false := by
              have : c0.toNat ≠ 48 := fun e => hc0 (UInt8.toNat_inj.1 e)
              simp; omega
            have hgt : 1 < b2.size := by omega
            clear hsz hb2 hR h1
            go_wp2_with fail
            go_meet
            exact ⟨b2, by simpa using HB2.out, HR2.out⟩
        · have h0 : 0 < b2.size := by omega
          have hx : b2[0] = 48 := by
            have := list_idx hb2 h0
            obtain ⟨g', rfl⟩ : ∃ g', gk = g' + 1 := ⟨gk - 1, by omega⟩
            rw [List.replicate_succ] at this
            simpa using this.symm
          have hgt : 1 < b2.size := by omega
          have hle : (1 : Int) ≤ b2.size := by omega
          have hsb : b2.size ≤ 1000 := by omega
          have hdr := drop_extract hb2 1
          obtain ⟨b3, hb3⟩ : ∃ b3, b3 = b2.extract 1 b2.size := ⟨_, rfl⟩
          rw [← hb3] at hdr
          have HB3 := Lib.hid hb3
          have HDR := Lib.hid hdr
          have hR' := hR.set1 b3
          have HR' := Lib.hid hR'
          clear hsz hb2 hR hb3 hdr hR'
          go_wp2_with fail
          go_roundg (gk - 1)
          case measure => omega
          case rel =>
            refine ⟨b3, ?_, by omega, by rw [← HB3.out]; exact HR'.out⟩
            rw [HDR.out]
            obtain ⟨g', rfl⟩ : ∃ g', gk = g' + 1 := ⟨gk - 1, by omega⟩
            rw [List.replicate_succ]
            simp
    case rest =>
      obtain ⟨b2, hb2, hR⟩ := hcut
      have HB2 := Lib.hid hb2
      have HR2 := Lib.hid hR
      clear HR HBA HID hb2 hR
      go_upto_block 2 with (fail)
      go_cut [58] (fun u wx => ∃ b3 : ByteArray, b3.data.toList = ds ∧ Rd5 w4 wx H NEG b3 (pw + k) pt xe)
      case first => as_aux_lemma =>
        go_wp2_with fail
        go_loopg [58] k (fun q u wr => ∃ (b3 : ByteArray) (p2 : Int), b3.data.toList = ds ++ List.replicate q 48 ∧ q ≤ k ∧ p2 + q = pw + k ∧ Rd5 w4 wr H NEG b3 p2 pt xe)
        case atStart => exact ⟨b2, pw, HB2.out, Nat.le_refl _, rfl, HR2.out⟩
        case round =>
          obtain ⟨b3, p2, hb3, hqk, hp2, hR⟩ := hrel
          have d1 := hR.c1
          have d2 := hR.c2
          have z1 := hR.fz 1
          have z2 := hR.fz 2
          have hsz : b3.size = ds.length + gk := by rw [list_size hb3]; simp
          have HB3 := Lib.hid hb3
          have HR3 := Lib.hid hR
          have HP2 := Lib.hid hp2
          have hpr := HP.out
          have hp2a : -2000 ≤ p2 := by omega
          have hp2b : p2 ≤ 2000 := by omega
          clear hp2 hpr
          by_cases hg : gk = 0
          · subst hg
            have hfin : Rd5 w4 wr H NEG b3 (pw + k) pt xe := by
              have h2 := HP2.out
              rw [show p2 = pw + k by omega] at hR
              exact hR
            have HF := Lib.hid hfin
            clear hfin
            by_cases h1 : b3.size = 1
            · clear hsz hb3 hR
              go_wp2_with fail
              go_meet
              exact ⟨b3, by simpa using HB3.out, HF.out⟩
            · obtain ⟨S1, hS1⟩ : ∃ S1, S1 + 1 = b3.size := ⟨b3.size - 1, by omega⟩
              have h0 : S1 < b3.size := by omega
              have hS1b : (S1 : Int) ≤ 1000 := by omega
              have hSI : (b3.size : Int) - 1 = (S1 : Int) := by omega
              have hx : b3[S1] = c1 := by
                have := list_idx hb3 h0
                have hll : S1 = l1.length := by
                  have h3 := HL1.out
                  have h4 := congrArg List.length h3
                  simp at h4
                  omega
                rw [HL1.out] at this
                subst hll
                simpa using this.symm
              have hc : ((c1.toNat : Int) == 48) = false := by
                have : c1.toNat ≠ 48 := fun e => hc1 (UInt8.toNat_inj.1 e)
                simp; omega
              have hgt : 1 < b3.size := by omega
              clear hsz hb3 hR h1 hS1
              go_wp2_with fail
              go_meet
              exact ⟨b3, by simpa using HB3.out, HF.out⟩
          · obtain ⟨S1, hS1⟩ : ∃ S1, S1 + 1 = b3.size := ⟨b3.size - 1, by omega⟩
            have h0 : S1 < b3.size := by omega
            have hS1b : (S1 : Int) ≤ 1000 := by omega
            have hSI : (b3.size : Int) - 1 = (S1 : Int) := by omega
            have hSle : (S1 : Int) ≤ b3.size := by omega
            have hSleN : S1 ≤ b3.size := by omega
            obtain ⟨g', hg'⟩ : ∃ g', gk = g' + 1 := ⟨gk - 1, by omega⟩
            have hx : b3[S1] = 48 := by
              have := list_idx hb3 h0
              rw [List.getElem?_append_right (by omega), List.getElem?_replicate, if_pos (by omega)] at this
              exact (Option.some.inj this).symm
            have hgt : 1 < b3.size := by omega
            have hsb : b3.size ≤ 1000 := by omega
            have hdr := take_to hb3 S1
            have hdr2 : (b3.extract 0 S1).data.toList = ds ++ List.replicate (gk - 1) 48 := by
              rw [hdr, hg', List.take_append, List.take_of_length_le (by omega), List.take_replicate]
              congr 2
              omega
            obtain ⟨b5, hb5⟩ : ∃ b5, b5 = b3.extract 0 S1 := ⟨_, rfl⟩
            rw [← hb5] at hdr2
            have HB5 := Lib.hid hb5
            have HDR := Lib.hid hdr2
            have hR' := (hR.set1 b5).set2 (p2 + 1)
            have HR' := Lib.hid hR'
            clear hsz hb3 hR hb5 hdr hdr2 hR' hS1 hg'
            go_wp2_with fail
            have hwS : IntKind.i64.wrap (S1 : Int) = S1 := by rw [IntKind.wrap_i64]; omega
            have hwP : IntKind.i64.wrap (p2 + 1) = p2 + 1 := by rw [IntKind.wrap_i64]; omega
            go_region
            go_wp2_with fail
            go_roundg (gk - 1)
            case measure => omega
            case rel =>
              have h2 := HP2.out
              refine ⟨b5, p2 + 1, HDR.out, by omega, by omega, by rw [← HB5.out]; exact HR'.out.drew⟩
      case rest =>
        obtain ⟨b3, hb3, hR⟩ := hcut
        obtain ⟨c0, c1, c2, c3⟩ := HC.out
        have d0 := hR.c0; have d1 := hR.c1; have d2 := hR.c2; have d3 := hR.c3; have d4 := hR.c4
        have k0 := hR.st.cell c0; have k1 := hR.st.cell c1; have k2 := hR.st.cell c2; have k3 := hR.st.cell c3
        have HST := Lib.hid hR.st
        have hsz : b3.size = ds.length := list_size hb3
        have h18 := HO.out.d18
        clear hR c0 c1 c2 c3 HR2 HB2
        by_cases h1 : ds.length = 1
        · as_aux_lemma =>
          have hb1 : b3.size = 1 := by omega
          clear hsz h18 k0 k1 k2 k3
          go_wp2_with fail
          go_ret
          exact ⟨rfl, ((Still.alloc hk _).trans HH.out).trans HST.out⟩
        · have hb1 : ((b3.size : Int) == 1) = false := by simp; omega
          have hb18 : ¬ (18 : Int) < b3.size := by omega
          have hb18' : b3.size ≤ 18 := by omega
          have hpr := HP.out
          have hn10 := HO.out.ten (by omega)
          have hSH := fun w => shorter_any w NEG b3 ds hb3 HO.out.isd h18 hn10 (pw + k) pt xe (by omega) (by omega)
          have HSH := Lib.hid hSH
          have HNO := Lib.hid (HO.out.no (by omega))
          have HPB := Lib.hid hpr
          clear hSH hpr hsz h18 h1 hn10 hb3
          go_wp2_with fail
          refine (HSH.out _).mono ?_
          rintro e w9 ⟨g, c, he, hg, hce, hst⟩
          rw [shN_len] at he
          subst he
          have m0 := hst.cell k0; have m1 := hst.cell k1; have m2 := hst.cell k2; have m3 := hst.cell k3
          have HCE := Lib.hid hce
          have HS9 := Lib.hid (HST.out.trans hst)
          clear hce hst k0 k1 k2 k3 d0 d1 d2 d3 d4
          go_wp2_with fail
          go_loopg [95] 4 (fun q i wr => ∃ j : Nat, i = .int .i64 j ∧ j + q = 4 ∧ Still w9 wr)
          case atStart => exact ⟨0, by go_num, by omega, Still.refl _⟩
          case round =>
            obtain ⟨j, rfl, hjq, hst⟩ := hrel
            by_cases hj : j < 4
            · have hjI : (j : Int) < 4 := by omega
              obtain ⟨y, hy⟩ : ∃ y, (shN (decVal ds) 4)[j]? = some y := by
                rw [List.getElem?_eq_getElem (by rw [shN_len]; exact hj)]
                exact ⟨_, rfl⟩
              have hmem : y ∈ shN (decVal ds) 4 := List.mem_of_getElem? hy
              obtain ⟨SD, hSD⟩ : ∃ SD : ByteArray, SD = ⟨(Lib.decDigits y).toArray⟩ := ⟨_, rfl⟩
              obtain ⟨P1, hP1⟩ : ∃ P1, P1 = pw + (k : Int) + 1 := ⟨_, rfl⟩
              have hdc : ∀ i u, ([.bool NEG, .string SD, .int .i64 P1, .int .i64 0, .int .i64 0] : List Value)[i]? = some u → wr.cell? ⟨g, j * 5 + i, none⟩ = some u := fun i u hi => by
                have := hst.cell (HCE.out j y hy i u (by rw [← hi, hSD, hP1]; rfl))
                rw [Nat.mul_comm j 5]
                exact this
              have e0 := hdc 0 _ rfl; have e1 := hdc 1 _ rfl; have e2 := hdc 2 _ rfl; have e3 := hdc 3 _ rfl; have e4 := hdc 4 _ rfl
              rw [Nat.add_zero] at e0
              have q0 := hst.cell m0; have q1 := hst.cell m1; have q2 := hst.cell m2; have q3 := hst.cell m3
              have hwl : w1.heap.size < wr.heap.size := World.block_lt_of_cell? wr _ q0
              have hNO := fun w => HNO.out y hmem w SD (by rw [hSD])
              rw [← hP1] at hNO
              have HN := Lib.hid hNO
              have HSW := Lib.hid hst
              clear hdc hNO hst hmem hy hSD hP1
              go_wp2_with fail
              refine (HN.out _).mono ?_
              rintro e w8 ⟨rfl, hk8⟩
              have HK8 := Lib.hid hk8
              clear hk8
              go_wp2_with fail
              go_roundg (gk - 1)
              case measure => omega
              case rel => exact ⟨j + 1, by go_num, by omega, HSW.out.trans (((Still.refl _).alloc _).trans HK8.out)⟩
            · obtain rfl : j = 4 := by omega
              have HSW := Lib.hid hst
              clear hst
              go_wp2_with fail
              go_ret
              exact ⟨rfl, (((Still.alloc hk _).trans HH.out).trans HS9.out).trans HSW.out⟩

/-- The text for each verb. -/
def tx4 (v : Nat) : Bool → List UInt8 → Int → List UInt8 := if v = 0 then txE else if v = 1 then txF else if v = 2 then txG 101 else txG 69
def shStr (wide : Bool) (bits v : Nat) : List UInt8 := shTx (tx4 v) (fNeg wide bits) (fLow wide bits) (fPow wide bits) (fEdge wide bits)

theorem sh_af (wide : Bool) (bits : Nat) (hU : U64 bits) (hf : fExp wide bits ≠ fTop wide) (v : Nat) (hv : v < 4) :
    AFspec (fDbl wide bits) (if wide then 64 else 32) (vS v) (-1) (shStr wide bits v) := by
  have h4 : v = 0 ∨ v = 1 ∨ v = 2 ∨ v = 3 := by omega
  cases wide
  · simp only [fDbl, Bool.false_eq_true, if_false]
    rcases h4 with rfl | rfl | rfl | rfl
    · exact af32 (fun w => run_down32 (bits % 2 ^ 32) (by omega) hf w) (ftos32_101 _ esh_e esz_e bits hf)
    · exact af32 (fun w => run_down32 (bits % 2 ^ 32) (by omega) hf w) (ftos32_102 _ esh_f esz_f bits hf)
    · exact af32 (fun w => run_down32 (bits % 2 ^ 32) (by omega) hf w) (ftos32_103 _ esh_g esz_g bits hf)
    · exact af32 (fun w => run_down32 (bits % 2 ^ 32) (by omega) hf w) (ftos32_71 _ esh_G esz_G bits hf)
  · simp only [fDbl, if_true]
    rcases h4 with rfl | rfl | rfl | rfl
    · exact af64 (ftos64_101 _ esh_e esz_e bits hU hf)
    · exact af64 (ftos64_102 _ esh_f esz_f bits hU hf)
    · exact af64 (ftos64_103 _ esh_g esz_g bits hU hf)
    · exact af64 (ftos64_71 _ esh_G esz_G bits hU hf)

theorem sh_all (wide : Bool) (bits v : Nat) (hv : v < 4) :
    ∃ (ds : List UInt8) (pw pt xe : Int) (z k : Nat), ShOk (fNeg wide bits) (fLow wide bits) (fPow wide bits) (fEdge wide bits) (shStr wide bits v) ds pw pt xe z k := by
  have h4 : v = 0 ∨ v = 1 ∨ v = 2 ∨ v = 3 := by omega
  rcases h4 with rfl | rfl | rfl | rfl
  · exact sh_ok wide bits (fun _ _ => true) 101 (Or.inl rfl)
  · exact sh_ok wide bits (fun _ _ => false) 101 (Or.inl rfl)
  · exact sh_ok wide bits gB 101 (Or.inl rfl)
  · exact sh_ok wide bits gB 69 (Or.inr rfl)

/-- THE LAW's WALK. -/
theorem sh_walk (wide : Bool) (kk : Int) (bits : Nat) (B : Nat) (w : World) (hT : Tabs B w) (hU : U64 bits) :
    Calls Tryd.prog 10 #[.int .u64 (bits : Int), .bool wide, .int .i64 kk] w fun e w' => e = .returned (.bool true) ∧ Still w w' := by
  by_cases hf : fExp wide bits = fTop wide
  · exact sh_walk_no wide kk bits w hU hf
  · exact sh_walk_fin wide kk bits B w hT hU hf _ rfl _ rfl (shStr wide bits) (fun v hv => sh_af wide bits hU hf v hv) (fun v hv => sh_all wide bits v hv)

end Go.Proofs.YthfjpofbaeeafaaDoor
