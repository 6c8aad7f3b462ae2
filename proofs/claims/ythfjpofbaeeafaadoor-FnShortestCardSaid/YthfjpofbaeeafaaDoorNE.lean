/-
  spec.sides: the two numbers and the two units, all times the same factor.
  spec.Nearest.
-/
import Derived.Test.YthfjpofbaeeafaaDoorBG
import Derived.Test.YthfjpofbaeeafaaDoorRP
import Derived.Test.YthfjpofbaeeafaaDoorRO
import Derived.Deep.RegionHeld3
namespace Go.Proofs.YthfjpofbaeeafaaDoor
open Go.RowKit

theorem top_aux (n a b X Y Z : Nat) (hn : n < 10 ^ X) (ha : a ≤ Y) (hb : b ≤ Y) (h : X + Y + (Y + Z) = 9 * TOP) : n * 10 ^ a * 2 ^ b < UN ^ TOP := by
  have h1 : 10 ^ a ≤ 10 ^ Y := Nat.pow_le_pow_right (by decide) ha
  have h2 : 2 ^ b ≤ 10 ^ Y := Nat.le_trans (Nat.pow_le_pow_left (by decide) b) (Nat.pow_le_pow_right (by decide) hb)
  have h3 : UN ^ TOP = 10 ^ X * 10 ^ Y * (10 ^ Y * 10 ^ Z) := by
    rw [← Nat.pow_add, ← Nat.pow_add, ← Nat.pow_add, show UN = 10 ^ 9 from rfl, ← Nat.pow_mul, h]
  rw [h3]
  have p1 : 0 < 10 ^ a := Nat.pow_pos (by decide)
  have p2 : 0 < 2 ^ b := Nat.pow_pos (by decide)
  have p3 : 1 ≤ 10 ^ Z := Nat.pow_pos (by decide)
  calc n * 10 ^ a * 2 ^ b < 10 ^ X * 10 ^ a * 2 ^ b := Nat.mul_lt_mul_of_pos_right (Nat.mul_lt_mul_of_pos_right hn p1) p2
    _ ≤ 10 ^ X * 10 ^ Y * (10 ^ Y * 10 ^ Z) := Nat.mul_le_mul (Nat.mul_le_mul_left _ h1) (Nat.le_trans h2 (Nat.le_mul_of_pos_right _ p3))
theorem top_bound (n a b : Nat) (hn : n < 10 ^ TOP) (ha : a ≤ 2000) (hb : b ≤ 2000) : n * 10 ^ a * 2 ^ b < UN ^ TOP := top_aux n a b TOP 2000 4000 hn ha hb (by decide)
theorem top_bound1 (n a : Nat) (hn : n < 10 ^ TOP) (ha : a ≤ 2000) : n * 10 ^ a < UN ^ TOP := by
  have := top_bound n a 0 hn ha (by omega)
  rwa [Nat.pow_zero, Nat.mul_one] at this
theorem top_bound2 (n b : Nat) (hn : n < 10 ^ TOP) (hb : b ≤ 2000) : n * 2 ^ b < UN ^ TOP := by
  have := top_bound n 0 b hn (by omega) hb
  rwa [Nat.pow_zero, Nat.mul_one] at this
theorem top_bound3 (n a b : Nat) (hn : n < 10 ^ TOP) (ha : a ≤ 2000) (hb : b ≤ 2000) : n * 2 ^ b * 10 ^ a < UN ^ TOP := by
  have := top_bound n a b hn ha hb
  rwa [Nat.mul_right_comm] at this
theorem lt_top {n j : Nat} (hn : n < 10 ^ j) (hj : j ≤ 1000) : n < 10 ^ TOP := Nat.lt_of_lt_of_le hn (Nat.pow_le_pow_right (by decide) hj)

/-- Four numbers. -/
def SideRes (W : World) (a b c d : Nat) (e : Ending) (w' : World) : Prop :=
  ∃ A1 L1 c1 A2 L2 c2 A3 L3 c3 A4 L4 c4, e = .returned (.tuple #[.slice A1 L1 c1, .slice A2 L2 c2, .slice A3 L3 c3, .slice A4 L4 c4]) ∧ BgIs w' (.slice A1 L1 c1) a ∧ BgIs w' (.slice A2 L2 c2) b ∧ BgIs w' (.slice A3 L3 c3) c ∧ BgIs w' (.slice A4 L4 c4) d ∧ Still W w'

set_option maxRecDepth 100000 in
set_option maxHeartbeats 8000000 in
theorem sides_any (W : World) (dm fm ed : Bool) (s : ByteArray) (ds : List UInt8) (hs : s.data.toList = ds) (hd : ∀ c ∈ ds, 48 ≤ c.toNat ∧ c.toNat ≤ 57) (hl : ds.length ≤ 800) (pw ptt ex fp : Int) (lo : Nat) (hlo : lo < 9007199254740992)
    (hp0 : -1500 ≤ pw) (hp1 : pw ≤ 1500) (hf0 : -1500 ≤ fp) (hf1 : fp ≤ 1500) :
    Calls Tryd.prog 28 #[.agg #[.bool dm, .string s, .int .i64 pw, .int .i64 ptt, .int .i64 ex], .agg #[.bool fm, .int .u64 lo, .int .i64 fp, .bool ed]] W
      (SideRes W (decVal ds * 10 ^ pw.toNat * 2 ^ (-fp).toNat) (lo * 2 ^ fp.toNat * 10 ^ (-pw).toNat) (10 ^ pw.toNat * 2 ^ (-fp).toNat) (2 ^ fp.toNat * 10 ^ (-pw).toNat)) := by
  have hcv := fun W => Lib.run_convert_string_bytes (P := Tryd.prog) W 9 62 5 s Tryd.underlying9 Tryd.underlying62 Tryd.underlying5
  have hsz := bytes_size hs
  have hszI : (s.size : Int) ≤ 800 := by omega
  have HS := Lib.hid hs
  have HSZ := Lib.hid hsz
  clear hs hsz
  go_enter Tryd.func28, Tryd.ntmps28
  go_wp2_with fail
  have W2lt : ∀ (o1 o2 : Obj), ((W.alloc o1).alloc o2).heap.size = W.heap.size + 1 + 1 := fun o1 o2 => by simp
  obtain ⟨Wb, hWb⟩ : ∃ Wb, Wb = Lib.bytesWorld ((W.alloc (.cells #[.bool dm, .string s, .int .i64 pw, .int .i64 ptt, .int .i64 ex] 32)).alloc (.cells #[.bool fm, .int .u64 lo, .int .i64 fp, .bool ed] 24)) 5 s := ⟨_, rfl⟩
  rw [← hWb]
  have hSa : Still W ((W.alloc (.cells #[.bool dm, .string s, .int .i64 pw, .int .i64 ptt, .int .i64 ex] 32)).alloc (.cells #[.bool fm, .int .u64 lo, .int .i64 fp, .bool ed] 24)) := ((Still.refl W).alloc _).alloc _
  have hSb : Still ((W.alloc (.cells #[.bool dm, .string s, .int .i64 pw, .int .i64 ptt, .int .i64 ex] 32)).alloc (.cells #[.bool fm, .int .u64 lo, .int .i64 fp, .bool ed] 24)) Wb := by
    rw [hWb]; exact Still.below (bytesBelow _ 5 s)
  have hS : Still W Wb := hSa.trans hSb
  obtain ⟨G, hG⟩ : ∃ G, G = W.heap.size := ⟨_, rfl⟩
  have d2 : Wb.cell? ⟨G, 2, none⟩ = some (.int .i64 pw) := hSb.cell (by
    rw [hG, World.cell?_alloc_lt _ _ _ (by simp)]
    exact (World.cell?_alloc_new W _ _ 2).trans (by simp))
  have f1 : Wb.cell? ⟨G + 1, 1, none⟩ = some (.int .u64 (lo : Int)) := hSb.cell (by
    have h := World.cell?_alloc_new (W.alloc (.cells #[.bool dm, .string s, .int .i64 pw, .int .i64 ptt, .int .i64 ex] 32)) #[.bool fm, .int .u64 lo, .int .i64 fp, .bool ed] 24 1
    rw [World.size_alloc, ← hG] at h
    exact h.trans (by simp))
  have f2 : Wb.cell? ⟨G + 1, 2, none⟩ = some (.int .i64 fp) := hSb.cell (by
    have h := World.cell?_alloc_new (W.alloc (.cells #[.bool dm, .string s, .int .i64 pw, .int .i64 ptt, .int .i64 ex] 32)) #[.bool fm, .int .u64 lo, .int .i64 fp, .bool ed] 24 2
    rw [World.size_alloc, ← hG] at h
    exact h.trans (by simp))
  have hbyte : ∀ j (hj : j < ds.length), Wb.cell? ⟨G + 1 + 1, j, none⟩ = some (.int .u8 ((ds[j]'hj).toNat : Int)) := fun j hj => by
    have hz := HSZ.out
    have h := Lib.bytesWorld_cell ((W.alloc (.cells #[.bool dm, .string s, .int .i64 pw, .int .i64 ptt, .int .i64 ex] 32)).alloc (.cells #[.bool fm, .int .u64 lo, .int .i64 fp, .bool ed] 24)) 5 s j (by omega)
    rw [W2lt, ← hG] at h
    rw [hWb, h, HS.out]
    simp [hj]
  rw [← hG]
  generalize grownCap _ _ _ _ = CAP
  have HSS := Lib.hid hS
  have HBY := Lib.hid hbyte
  have HSD := Lib.hid hd
  obtain ⟨N, hN⟩ : ∃ N, N = s.size := ⟨_, rfl⟩
  rw [← hN]
  have hNl : N = ds.length := by rw [hN]; exact HSZ.out
  have HNL := Lib.hid hNl
  have hNI : (N : Int) ≤ 800 := by omega
  have hds := decVal_lt ds hd
  have hdT : decVal ds < 10 ^ TOP := lt_top hds (by omega)
  have HDT := Lib.hid hdT
  clear hSa hSb hS hbyte hWb hG hN hNl hd hdT hds hcv W2lt hszI
  go_loopg [8, 16] N (fun q nv1 iv wr => ∃ (A : Option Addr) (L c j : Nat), nv1 = .slice A L c ∧ iv = .int .i64 j ∧ j + q = N ∧ BgIs wr (.slice A L c) (decVal (ds.take j)) ∧ Still Wb wr)
  case atStart => exact ⟨none, 0, 0, 0, rfl, rfl, by omega, by simpa [decVal] using BgIs.nil Wb, Still.refl _⟩
  case round =>
    obtain ⟨A, L, c, j, rfl, rfl, hjq, hb, hst⟩ := hrel
    have HB := Lib.hid hb
    have HST := Lib.hid hst
    clear hb hst
    by_cases hlt : j < N
    · have hltI : (j : Int) < N := by omega
      have hjl : j < ds.length := by have := HNL.out; omega
      have hc := HST.out.cell (HBY.out j hjl)
      obtain ⟨e1, e2⟩ := HSD.out ds[j] (List.getElem_mem hjl)
      have hsn : decVal (ds.take (j + 1)) = decVal (ds.take j) * 10 + (ds[j].toNat - 48) := by rw [List.take_succ_eq_append_getElem hjl, decVal_snoc]
      obtain ⟨b, hbb⟩ : ∃ b, b = ds[j].toNat := ⟨_, rfl⟩
      rw [← hbb] at hc e1 e2 hsn
      obtain ⟨d, hd⟩ : ∃ d, d = b - 48 := ⟨_, rfl⟩
      have hbd : (b : Int) - 48 = (d : Int) := by omega
      have hd9 : d < 10 := by omega
      have hd9I : (d : Int) < 10 := by omega
      rw [← hd] at hsn
      have hbnd : decVal (ds.take j) * 10 + d < UN ^ TOP := by
        rw [← hsn]
        have h1 := decVal_lt (ds.take (j + 1)) (fun c hc => HSD.out c (List.mem_of_mem_take hc))
        have h2 : (ds.take (j + 1)).length ≤ 1000 := by rw [List.length_take]; omega
        have := top_bound1 _ 0 (lt_top h1 h2) (by omega)
        rwa [Nat.pow_zero, Nat.mul_one] at this
      have hc2 := times_any wr (.slice A L c) (decVal (ds.take j)) 10 d HB.out (by decide) (Or.inl (by decide)) (by omega) hbnd
      rw [← hsn] at hc2
      have HC := Lib.hid hc2
      clear hc2 hbnd hsn hbb hd
      go_wp2_with fail
      refine HC.out.mono ?_
      rintro e w' ⟨A2, L2, c2, rfl, hb2, hs2⟩
      have HB2 := Lib.hid hb2
      have HS2 := Lib.hid hs2
      clear hb2 hs2
      go_wp2_with fail
      go_roundg (gk - 1)
      case measure => omega
      case rel => exact ⟨A2, L2, c2, j + 1, rfl, by go_num, by omega, HB2.out, HST.out.trans HS2.out⟩
    · obtain rfl : j = N := by omega
      have hall : ds.take j = ds := by rw [List.take_of_length_le]; have := HNL.out; omega
      have hb1 := HB.out
      rw [hall] at hb1
      have HB := Lib.hid hb1
      clear hb1 hall
      go_wp2_with fail
      refine (small_bg wr 1 (by decide)).mono ?_
      rintro e w1 ⟨A1, L1, c1, rfl, hb1, hs1⟩
      have d2a := hs1.cell (HST.out.cell d2)
      have f1a := hs1.cell (HST.out.cell f1)
      have f2a := hs1.cell (HST.out.cell f2)
      have hbn := HB.out.still hs1
      have HS1 := Lib.hid hs1
      clear hs1 d2 f1 f2 HBY HSD
      obtain ⟨P10, hP10⟩ : ∃ P10, P10 = pw.toNat := ⟨_, rfl⟩
      obtain ⟨Q10, hQ10⟩ : ∃ Q10, Q10 = (-pw).toNat := ⟨_, rfl⟩
      obtain ⟨P2, hP2⟩ : ∃ P2, P2 = fp.toNat := ⟨_, rfl⟩
      obtain ⟨Q2, hQ2⟩ : ∃ Q2, Q2 = (-fp).toNat := ⟨_, rfl⟩
      have one10 : 1 < 10 ^ TOP := lt_top (j := 1) (by decide) (by decide)
      have lo10 : lo < 10 ^ TOP := lt_top (j := 16) (by omega) (by decide)
      have wf : IntKind.i64.wrap (-fp) = -fp := by rw [IntKind.wrap_i64]; omega
      have wp : IntKind.i64.wrap (-pw) = -pw := by rw [IntKind.wrap_i64]; omega
      have cA : ∀ (w : World) (A : Option Addr) (L c : Nat), BgIs w (.slice A L c) 1 → Calls Tryd.prog 40 #[.slice A L c, .int .u64 10, .int .i64 pw] w (BgRes w (1 * 10 ^ P10)) := fun w A L c h => by
        rw [hP10]; exact power_any w _ 1 10 pw h (by decide) (by decide) (by omega) (by omega) (top_bound1 1 _ one10 (by omega))
      have cB : ∀ (w : World) (A : Option Addr) (L c : Nat), BgIs w (.slice A L c) (1 * 10 ^ P10) → Calls Tryd.prog 40 #[.slice A L c, .int .u64 2, .int .i64 (IntKind.i64.wrap (-fp))] w (BgRes w (1 * 10 ^ P10 * 2 ^ Q2)) := fun w A L c h => by
        rw [wf, hQ2]; exact power_any w _ _ 2 (-fp) h (by decide) (by decide) (by omega) (by omega) (by rw [hP10]; exact top_bound 1 _ _ one10 (by omega) (by omega))
      have cC : ∀ (w : World) (A : Option Addr) (L c : Nat), BgIs w (.slice A L c) 1 → Calls Tryd.prog 40 #[.slice A L c, .int .u64 2, .int .i64 fp] w (BgRes w (1 * 2 ^ P2)) := fun w A L c h => by
        rw [hP2]; exact power_any w _ 1 2 fp h (by decide) (by decide) (by omega) (by omega) (top_bound2 1 _ one10 (by omega))
      have cD : ∀ (w : World) (A : Option Addr) (L c : Nat), BgIs w (.slice A L c) (1 * 2 ^ P2) → Calls Tryd.prog 40 #[.slice A L c, .int .u64 10, .int .i64 (IntKind.i64.wrap (-pw))] w (BgRes w (1 * 2 ^ P2 * 10 ^ Q10)) := fun w A L c h => by
        rw [wp, hQ10]; exact power_any w _ _ 10 (-pw) h (by decide) (by decide) (by omega) (by omega) (by rw [hP2]; exact top_bound3 1 _ _ one10 (by omega) (by omega))
      have cE : ∀ (w : World) (A : Option Addr) (L c : Nat), BgIs w (.slice A L c) (decVal ds) → Calls Tryd.prog 40 #[.slice A L c, .int .u64 10, .int .i64 pw] w (BgRes w (decVal ds * 10 ^ P10)) := fun w A L c h => by
        rw [hP10]; exact power_any w _ _ 10 pw h (by decide) (by decide) (by omega) (by omega) (top_bound1 _ _ HDT.out (by omega))
      have cF : ∀ (w : World) (A : Option Addr) (L c : Nat), BgIs w (.slice A L c) (decVal ds * 10 ^ P10) → Calls Tryd.prog 40 #[.slice A L c, .int .u64 2, .int .i64 (IntKind.i64.wrap (-fp))] w (BgRes w (decVal ds * 10 ^ P10 * 2 ^ Q2)) := fun w A L c h => by
        rw [wf, hQ2]; exact power_any w _ _ 2 (-fp) h (by decide) (by decide) (by omega) (by omega) (by rw [hP10]; exact top_bound _ _ _ HDT.out (by omega) (by omega))
      have cG : ∀ (w : World) (A : Option Addr) (L c : Nat), BgIs w (.slice A L c) lo → Calls Tryd.prog 40 #[.slice A L c, .int .u64 2, .int .i64 fp] w (BgRes w (lo * 2 ^ P2)) := fun w A L c h => by
        rw [hP2]; exact power_any w _ _ 2 fp h (by decide) (by decide) (by omega) (by omega) (top_bound2 _ _ lo10 (by omega))
      have cH : ∀ (w : World) (A : Option Addr) (L c : Nat), BgIs w (.slice A L c) (lo * 2 ^ P2) → Calls Tryd.prog 40 #[.slice A L c, .int .u64 10, .int .i64 (IntKind.i64.wrap (-pw))] w (BgRes w (lo * 2 ^ P2 * 10 ^ Q10)) := fun w A L c h => by
        rw [wp, hQ10]; exact power_any w _ _ 10 (-pw) h (by decide) (by decide) (by omega) (by omega) (by rw [hP2]; exact top_bound3 _ _ _ lo10 (by omega) (by omega))
      have cS := fun w => small_bg w lo (by omega)
      have HPP := Lib.hid (show decVal ds * 10 ^ pw.toNat * 2 ^ (-fp).toNat = decVal ds * 10 ^ P10 * 2 ^ Q2 ∧ lo * 2 ^ fp.toNat * 10 ^ (-pw).toNat = lo * 2 ^ P2 * 10 ^ Q10 ∧ 10 ^ pw.toNat * 2 ^ (-fp).toNat = 1 * 10 ^ P10 * 2 ^ Q2 ∧ 2 ^ fp.toNat * 10 ^ (-pw).toNat = 1 * 2 ^ P2 * 10 ^ Q10 by
        rw [hP10, hQ2, hP2, hQ10, Nat.one_mul, Nat.one_mul]; exact ⟨rfl, rfl, rfl, rfl⟩)
      clear hP10 hQ10 hP2 hQ2 one10 lo10 wf wp
      have CA := Lib.hid cA
      have CB := Lib.hid cB
      have CC := Lib.hid cC
      have CD := Lib.hid cD
      have CE := Lib.hid cE
      have CF := Lib.hid cF
      have CG := Lib.hid cG
      have CH := Lib.hid cH
      have CS := Lib.hid cS
      clear cA cB cC cD cE cF cG cH cS
      go_upto_region 7 with fail
      go_cut [6] (fun v wx => ∃ A L c, v = .slice A L c ∧ BgIs wx (.slice A L c) (1 * 10 ^ P10 * 2 ^ Q2) ∧ Still w1 wx)
      case first =>
        go_wp2_with fail
        have dd2 := ((Still.refl w1).drew).cell d2a
        have df2 := ((Still.refl w1).drew).cell f2a
        go_region_held3 (fun w' => w'.cell? ⟨G, 2, none⟩ = some (.int .i64 pw) ∧ w'.cell? ⟨G + 1, 2, none⟩ = some (.int .i64 fp)) (first | with_reducible exact ⟨dd2, df2⟩ | with_reducible exact ⟨hs5.cell dd2, hs5.cell df2⟩ | with_reducible exact ⟨hs6.cell (hs5.cell dd2), hs6.cell (hs5.cell df2)⟩)
          (first
            | (with_reducible refine Calls.mono (CB.out _ A5 L5 c5 (BgIs.still hb5 ?_)) ?_
               · first | exact (Still.refl _).drew | exact Still.refl _
               rintro e w6 ⟨A6, L6, c6, rfl, hb6, hs6⟩)
            | (with_reducible refine Calls.mono (CA.out _ A1 L1 c1 (BgIs.still hb1 ?_)) ?_
               · first | exact (Still.refl _).drew | exact Still.refl _
               rintro e w5 ⟨A5, L5, c5, rfl, hb5, hs5⟩)
            | fail "ARM")
        go_wp2_with fail
        go_meet
        exact ⟨A6, L6, c6, rfl, hb6, ((Still.refl w1).drew.trans hs5).trans hs6⟩
      case rest =>
        obtain ⟨A6, L6, c6, rfl, hb6, hs6⟩ := hcut
        rename World => w2
        have d2b := hs6.cell d2a
        have f2b := hs6.cell f2a
        have f1b := hs6.cell f1a
        have hbn2 := hbn.still hs6
        have hb12 := hb1.still hs6
        have HB6 := Lib.hid hb6
        have HS6 := Lib.hid hs6
        clear hb6 hs6 d2a f2a f1a hbn hb1
        go_upto_region 8 with fail
        go_cut [7] (fun v wx => ∃ A L c, v = .slice A L c ∧ BgIs wx (.slice A L c) (1 * 2 ^ P2 * 10 ^ Q10) ∧ Still w2 wx)
        case first =>
          go_wp2_with fail
          have dd2 := ((Still.refl w2).drew).cell d2b
          have df2 := ((Still.refl w2).drew).cell f2b
          go_region_held3 (fun w' => w'.cell? ⟨G, 2, none⟩ = some (.int .i64 pw) ∧ w'.cell? ⟨G + 1, 2, none⟩ = some (.int .i64 fp)) (first | with_reducible exact ⟨dd2, df2⟩ | with_reducible exact ⟨hs7.cell dd2, hs7.cell df2⟩ | with_reducible exact ⟨hs8.cell (hs7.cell dd2), hs8.cell (hs7.cell df2)⟩)
            (first
              | (with_reducible refine Calls.mono (CD.out _ A7 L7 c7 (BgIs.still hb7 ?_)) ?_
                 · first | exact (Still.refl _).drew | exact Still.refl _
                 rintro e w6 ⟨A8, L8, c8, rfl, hb8, hs8⟩)
              | (with_reducible refine Calls.mono (CC.out _ A1 L1 c1 (BgIs.still hb12 ?_)) ?_
                 · first | exact (Still.refl _).drew | exact Still.refl _
                 rintro e w5 ⟨A7, L7, c7, rfl, hb7, hs7⟩)
              | fail "ARM")
          go_wp2_with fail
          go_meet
          exact ⟨A8, L8, c8, rfl, hb8, ((Still.refl w2).drew.trans hs7).trans hs8⟩
        case rest =>
          obtain ⟨A7, L7, c7, rfl, hb7, hs7⟩ := hcut
          rename World => w3
          have hb6 := HB6.out
          have h13 : Still w1 w3 := HS6.out.trans hs7
          have d2c := ((Still.refl w3).drew).cell (hs7.cell d2b)
          have f2c := ((Still.refl w3).drew).cell (hs7.cell f2b)
          have f1c := ((Still.refl w3).drew).cell (hs7.cell f1b)
          have hbn3 := hbn2.still hs7
          have hb63 := hb6.still hs7
          clear hb6 HB6 d2b f2b f1b hbn2 hb12 HS6 hs7
          go_wp2_with fail
          go_region_held3 (fun w' => w'.cell? ⟨G, 2, none⟩ = some (.int .i64 pw) ∧ w'.cell? ⟨G + 1, 2, none⟩ = some (.int .i64 fp) ∧ w'.cell? ⟨G + 1, 1, none⟩ = some (.int .u64 (lo : Int)))
            (first | with_reducible exact ⟨d2c, f2c, f1c⟩ | with_reducible exact ⟨ht1.cell d2c, ht1.cell f2c, ht1.cell f1c⟩ | with_reducible exact ⟨ht2.cell d2c, ht2.cell f2c, ht2.cell f1c⟩ | with_reducible exact ⟨ht3.cell d2c, ht3.cell f2c, ht3.cell f1c⟩ | with_reducible exact ⟨ht4.cell d2c, ht4.cell f2c, ht4.cell f1c⟩ | with_reducible exact ⟨ht5.cell d2c, ht5.cell f2c, ht5.cell f1c⟩)
            (first
              | (with_reducible refine Calls.mono (CH.out _ B4 M4 k4 (BgIs.still g4 ?_)) ?_
                 · first | exact (Still.refl _).drew | exact Still.refl _
                 rintro e v5 ⟨B5, M5, k5, rfl, g5, t5⟩
                 have ht5 := ht4.trans t5)
              | (with_reducible refine Calls.mono (CG.out _ B3 M3 k3 (BgIs.still g3 ?_)) ?_
                 · first | exact (Still.refl _).drew | exact Still.refl _
                 rintro e v4 ⟨B4, M4, k4, rfl, g4, t4⟩
                 have ht4 := ht3.trans t4)
              | (with_reducible refine Calls.mono (CS.out _) ?_
                 rintro e v3 ⟨B3, M3, k3, rfl, g3, t3⟩
                 have ht3 := ht2.trans t3)
              | (with_reducible refine Calls.mono (CF.out _ B1 M1 k1 (BgIs.still g1 ?_)) ?_
                 · first | exact (Still.refl _).drew | exact Still.refl _
                 rintro e v2 ⟨B2, M2, k2, rfl, g2, t2⟩
                 have ht2 := ht1.trans t2)
              | (with_reducible refine Calls.mono (CE.out _ A L c (BgIs.still hbn3 ?_)) ?_
                 · first | exact (Still.refl _).drew | exact Still.refl _
                 rintro e v1 ⟨B1, M1, k1, rfl, g1, t1⟩
                 have ht1 := t1)
              | fail "ARM")
          go_wp2_with fail
          refine bodyPost_ret (v := .tuple #[.slice B2 M2 k2, .slice B5 M5 k5, .slice A6 L6 c6, .slice A7 L7 c7]) (by simp [results, Tryd.results28, go_sem, *]) rfl ⟨B2, M2, k2, B5, M5, k5, A6, L6, c6, A7, L7, c7, rfl, ?_, ?_, ?_, ?_, ?_⟩
          · rw [HPP.out.1]; exact g2.still ((t3.trans t4).trans t5)
          · rw [HPP.out.2.1]; exact g5
          · rw [HPP.out.2.2.1]; exact hb63.still ((Still.refl w3).drew.trans ht5)
          · rw [HPP.out.2.2.2]; exact hb7.still ((Still.refl w3).drew.trans ht5)
          · exact HSS.out.trans (((HST.out.trans HS1.out).trans h13).trans ((Still.refl w3).drew.trans ht5))


def NeaRes (W : World) (b : Bool) (e : Ending) (w' : World) : Prop := e = .returned (.bool b) ∧ Still W w'

/-- |D - B| twice is at most U. -/
def nearB (D B U : Nat) : Bool := !decide (U < (D - B + (B - D)) * 2 + 0)

theorem twice_bound (D B T : Nat) (h1 : D * 2 < T) (h2 : B * 2 < T) : (D - B + (B - D)) * 2 + 0 < T := by omega

theorem near_bound (n m a b a2 b2 : Nat) (hn : n < 10 ^ TOP) (hm : m < 10 ^ TOP) (ha : a ≤ 1500) (hb : b ≤ 1500) (ha2 : a2 ≤ 1500) (hb2 : b2 ≤ 1500) :
    (n * 10 ^ a * 2 ^ b - m * 2 ^ b2 * 10 ^ a2 + (m * 2 ^ b2 * 10 ^ a2 - n * 10 ^ a * 2 ^ b)) * 2 + 0 < UN ^ TOP := by
  have h1 := top_bound n a (b + 1) hn (by omega) (by omega)
  have h2 := top_bound3 m a2 (b2 + 1) hm (by omega) (by omega)
  rw [Nat.pow_succ, ← Nat.mul_assoc] at h1
  rw [Nat.pow_succ, ← Nat.mul_assoc, Nat.mul_right_comm _ 2] at h2
  exact twice_bound _ _ _ h1 h2

set_option maxRecDepth 100000 in
set_option maxHeartbeats 8000000 in
theorem nearest_any (W : World) (dm fm ed : Bool) (s : ByteArray) (ds : List UInt8) (hs : s.data.toList = ds) (hd : ∀ c ∈ ds, 48 ≤ c.toNat ∧ c.toNat ≤ 57) (hl : ds.length ≤ 800) (pw ptt ex fp : Int) (lo : Nat) (hlo : lo < 9007199254740992)
    (hp0 : -1500 ≤ pw) (hp1 : pw ≤ 1500) (hf0 : -1500 ≤ fp) (hf1 : fp ≤ 1500) :
    Calls Tryd.prog 15 #[.agg #[.bool dm, .string s, .int .i64 pw, .int .i64 ptt, .int .i64 ex], .agg #[.bool fm, .int .u64 lo, .int .i64 fp, .bool ed]] W
      (NeaRes W (dm == fm && nearB (decVal ds * 10 ^ pw.toNat * 2 ^ (-fp).toNat) (lo * 2 ^ fp.toNat * 10 ^ (-pw).toNat) (10 ^ pw.toNat * 2 ^ (-fp).toNat))) := by
  have hsi := fun w => sides_any w dm fm ed s ds hs hd hl pw ptt ex fp lo hlo hp0 hp1 hf0 hf1
  have hds : decVal ds < 10 ^ TOP := lt_top (decVal_lt ds hd) (by omega)
  have hlo8 : lo < 10 ^ TOP := lt_top (j := 16) (by omega) (by decide)
  have hnb := near_bound (decVal ds) lo pw.toNat (-fp).toNat (-pw).toNat fp.toNat hds hlo8 (by omega) (by omega) (by omega) (by omega)
  obtain ⟨D, hD⟩ : ∃ D, D = decVal ds * 10 ^ pw.toNat * 2 ^ (-fp).toNat := ⟨_, rfl⟩
  obtain ⟨B, hB⟩ : ∃ B, B = lo * 2 ^ fp.toNat * 10 ^ (-pw).toNat := ⟨_, rfl⟩
  obtain ⟨U, hU⟩ : ∃ U, U = 10 ^ pw.toNat * 2 ^ (-fp).toNat := ⟨_, rfl⟩
  obtain ⟨V, hV⟩ : ∃ V, V = 2 ^ fp.toNat * 10 ^ (-pw).toNat := ⟨_, rfl⟩
  rw [← hD, ← hB, ← hU]
  rw [← hD, ← hB] at hnb
  simp only [← hD, ← hB, ← hU, ← hV] at hsi
  have HNB := Lib.hid hnb
  have HSI := Lib.hid hsi
  clear hD hB hU hV hds hlo8 hs hd hl hlo hp0 hp1 hf0 hf1 hnb hsi
  go_enter Tryd.func15, Tryd.ntmps15
  go_wp2_with fail
  refine (HSI.out _).mono ?_
  rintro e w1 ⟨A1, L1, c1, A2, L2, c2, A3, L3, c3, A4, L4, c4, rfl, h1, h2, h3, _, hst⟩
  obtain ⟨G, hG⟩ : ∃ G, G = W.heap.size := ⟨_, rfl⟩
  have d0 : w1.cell? ⟨G, 0, none⟩ = some (.bool dm) := hst.cell (by
    rw [hG, World.cell?_alloc_lt _ _ _ (by simp)]
    exact (World.cell?_alloc_new W _ _ 0).trans (by simp))
  have f0 : w1.cell? ⟨G + 1, 0, none⟩ = some (.bool fm) := hst.cell (by
    have h := World.cell?_alloc_new (W.alloc (.cells #[.bool dm, .string s, .int .i64 pw, .int .i64 ptt, .int .i64 ex] 32)) #[.bool fm, .int .u64 lo, .int .i64 fp, .bool ed] 24 0
    rw [World.size_alloc, ← hG] at h
    exact h.trans (by simp))
  have hS : Still W w1 := (((Still.refl W).alloc _).alloc _).trans hst
  rw [← hG]
  clear hst hG
  by_cases hm : dm = fm
  · subst hm
    have hm1 : (dm == dm) = true := by cases dm <;> rfl
    rw [hm1, Bool.true_and]
    clear hm1
    have hap := apart_core w1 (.slice A1 L1 c1) (.slice A2 L2 c2) D B h1 h2
    have HAP := Lib.hid hap
    have HS := Lib.hid hS
    clear hap h1 h2 hS
    go_wp2_with fail
    refine (HAP.out).mono ?_
    rintro e w2 ⟨A5, L5, c5, rfl, h5, t5⟩
    have ht := times_any w2 (.slice A5 L5 c5) _ 2 0 h5 (by decide) (Or.inl (by decide)) (by decide) HNB.out
    have HT := Lib.hid ht
    clear ht
    go_wp2_with fail
    refine (HT.out).mono ?_
    rintro e w3 ⟨A6, L6, c6, rfl, h6, t6⟩
    have hl := less_any w3 (.slice A3 L3 c3) (.slice A6 L6 c6) U _ ((h3.still t5).still t6) h6
    have HL := Lib.hid hl
    clear hl
    go_wp2_with fail
    refine (HL.out).mono ?_
    rintro e w4 ⟨rfl, k, rfl⟩
    go_wp2_with fail
    refine bodyPost_ret (v := .bool (dm == dm && nearB D B U)) (by simp [results, Tryd.results15, go_sem, nearB]) rfl ⟨rfl, ?_⟩
    exact ((HS.out.trans t5).trans t6).trans ((Still.refl w3).drewN k)
  · have hm1 : (dm == fm) = false := by cases dm <;> cases fm <;> simp_all
    rw [hm1, Bool.false_and]
    clear hm1
    go_wp2_with fail
    refine bodyPost_ret (v := .bool (dm == fm && nearB D B U)) (by simp [results, Tryd.results15, go_sem, hm]) rfl ⟨rfl, hS⟩

end Go.Proofs.YthfjpofbaeeafaaDoor
