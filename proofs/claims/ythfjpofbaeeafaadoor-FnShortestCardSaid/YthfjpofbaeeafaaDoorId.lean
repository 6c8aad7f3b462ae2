/-
  spec.Identifies.
-/
import Derived.Test.YthfjpofbaeeafaaDoorNE
import Derived.Test.YthfjpofbaeeafaaDoorShI
namespace Go.Proofs.YthfjpofbaeeafaaDoor
open Go.RowKit

theorem four_bound (D B T : Nat) (h1 : D * 4 < T) (h2 : B * 4 < T) : (D - B + (B - D)) * 2 + 0 < T ∧ ((D - B + (B - D)) * 2 + 0) * 2 + 0 < T := by omega

theorem near_bound4 (n m a b a2 b2 : Nat) (hn : n < 10 ^ TOP) (hm : m < 10 ^ TOP) (ha : a ≤ 1500) (hb : b ≤ 1500) (ha2 : a2 ≤ 1500) (hb2 : b2 ≤ 1500) :
    (n * 10 ^ a * 2 ^ b - m * 2 ^ b2 * 10 ^ a2 + (m * 2 ^ b2 * 10 ^ a2 - n * 10 ^ a * 2 ^ b)) * 2 + 0 < UN ^ TOP ∧ ((n * 10 ^ a * 2 ^ b - m * 2 ^ b2 * 10 ^ a2 + (m * 2 ^ b2 * 10 ^ a2 - n * 10 ^ a * 2 ^ b)) * 2 + 0) * 2 + 0 < UN ^ TOP := by
  have h1 := top_bound n a (b + 2) hn (by omega) (by omega)
  have h2 := top_bound3 m a2 (b2 + 2) hm (by omega) (by omega)
  rw [Nat.pow_add, ← Nat.mul_assoc] at h1
  rw [Nat.pow_add, ← Nat.mul_assoc, Nat.mul_right_comm _ (2 ^ 2)] at h2
  rw [show (2 : Nat) ^ 2 = 4 from rfl] at h1 h2
  exact four_bound _ _ _ h1 h2

set_option maxRecDepth 100000 in
set_option maxHeartbeats 8000000 in
theorem ident_any (W : World) (dm ed : Bool) (s : ByteArray) (ds : List UInt8) (hs : s.data.toList = ds) (hd : ∀ c ∈ ds, 48 ≤ c.toNat ∧ c.toNat ≤ 57) (hl : ds.length ≤ 800) (pw ptt ex fp : Int) (lo : Nat) (hlo : lo < 9007199254740992)
    (hp0 : -1500 ≤ pw) (hp1 : pw ≤ 1500) (hf0 : -1500 ≤ fp) (hf1 : fp ≤ 1500) :
    Calls Tryd.prog 21 #[.agg #[.bool dm, .string s, .int .i64 pw, .int .i64 ptt, .int .i64 ex], .agg #[.bool dm, .int .u64 lo, .int .i64 fp, .bool ed]] W
      (NeaRes W (identB lo ed (decVal ds * 10 ^ pw.toNat * 2 ^ (-fp).toNat) (lo * 2 ^ fp.toNat * 10 ^ (-pw).toNat) (2 ^ fp.toNat * 10 ^ (-pw).toNat))) := by
  have hsi := fun w => sides_any w dm dm ed s ds hs hd hl pw ptt ex fp lo hlo hp0 hp1 hf0 hf1
  have hds : decVal ds < 10 ^ TOP := lt_top (decVal_lt ds hd) (by omega)
  have hlo8 : lo < 10 ^ TOP := lt_top (j := 16) (by omega) (by decide)
  have hnb := near_bound4 (decVal ds) lo pw.toNat (-fp).toNat (-pw).toNat fp.toNat hds hlo8 (by omega) (by omega) (by omega) (by omega)
  obtain ⟨D, hD⟩ : ∃ D, D = decVal ds * 10 ^ pw.toNat * 2 ^ (-fp).toNat := ⟨_, rfl⟩
  obtain ⟨B, hB⟩ : ∃ B, B = lo * 2 ^ fp.toNat * 10 ^ (-pw).toNat := ⟨_, rfl⟩
  obtain ⟨U, hU⟩ : ∃ U, U = 10 ^ pw.toNat * 2 ^ (-fp).toNat := ⟨_, rfl⟩
  obtain ⟨V, hV⟩ : ∃ V, V = 2 ^ fp.toNat * 10 ^ (-pw).toNat := ⟨_, rfl⟩
  rw [← hD, ← hB, ← hV]
  rw [← hD, ← hB] at hnb
  simp only [← hD, ← hB, ← hU, ← hV] at hsi
  have HNB := Lib.hid hnb
  have HSI := Lib.hid hsi
  have hloU : lo < 18446744073709551616 := by omega
  clear hD hB hU hV hds hlo8 hs hd hl hlo hp0 hp1 hf0 hf1 hnb hsi
  obtain ⟨hm, hmm⟩ : ∃ hm, hm = lo % 2 := ⟨_, rfl⟩
  have hml : (lo : Int) % 2 = (hm : Int) := by omega
  have hm01 : hm = 0 ∨ hm = 1 := by omega
  obtain ⟨RES, hRES⟩ : ∃ RES, RES = identB lo ed D B V := ⟨_, rfl⟩
  rw [← hRES]
  unfold identB at hRES
  rw [← hmm] at hRES
  have HRES := Lib.hid hRES
  clear hmm hRES
  have hmeq : (dm == dm) = true := by cases dm <;> rfl
  go_enter Tryd.func21, Tryd.ntmps21
  go_wp2_with fail
  refine (HSI.out _).mono ?_
  rintro e w1 ⟨A1, L1, c1, A2, L2, c2, A3, L3, c3, A4, L4, c4, rfl, h1, h2, _, h4, hst⟩
  obtain ⟨G, hG⟩ : ∃ G, G = W.heap.size := ⟨_, rfl⟩
  have d0 : w1.cell? ⟨G, 0, none⟩ = some (.bool dm) := hst.cell (by
    rw [hG, World.cell?_alloc_lt _ _ _ (by simp)]
    exact (World.cell?_alloc_new W _ _ 0).trans (by simp))
  have ff : ∀ i v, (#[.bool dm, .int .u64 (lo : Int), .int .i64 fp, .bool ed] : Array Value)[i]? = some v → w1.cell? ⟨G + 1, i, none⟩ = some v := fun i v hi => hst.cell (by
    have h := World.cell?_alloc_new (W.alloc (.cells #[.bool dm, .string s, .int .i64 pw, .int .i64 ptt, .int .i64 ex] 32)) #[.bool dm, .int .u64 lo, .int .i64 fp, .bool ed] 24 i
    rw [World.size_alloc, ← hG] at h
    exact h.trans hi)
  have f0 := ff 0 _ rfl
  have f1 := ff 1 _ rfl
  have f3 := ff 3 _ rfl
  have hS : Still W w1 := (((Still.refl W).alloc _).alloc _).trans hst
  have HK : Still w1 w1 := Still.refl w1
  rw [← hG]
  clear hst hG ff
  have hap := apart_core w1 (.slice A1 L1 c1) (.slice A2 L2 c2) D B h1 h2
  have HAP := Lib.hid hap
  have HS := Lib.hid hS
  have H4 := Lib.hid h4
  have H1 := Lib.hid h1
  have H2 := Lib.hid h2
  clear hap h1 h2 hS h4 HK
  go_wp2_with fail
  refine (HAP.out).mono ?_
  rintro e w2 ⟨A5, L5, c5, rfl, h5, t5⟩
  have ht := times_any w2 (.slice A5 L5 c5) _ 2 0 h5 (by decide) (Or.inl (by decide)) (by decide) HNB.out.1
  have HT := Lib.hid ht
  clear ht
  go_wp2_with fail
  refine (HT.out).mono ?_
  rintro e w3 ⟨A6, L6, c6, rfl, h6, t6⟩
  obtain ⟨T, hT⟩ : ∃ T, T = (D - B + (B - D)) * 2 + 0 := ⟨_, rfl⟩
  have hNB2 := HNB.out.2
  have hRES := HRES.out
  rw [← hT] at h6 hNB2 hRES
  have t56 := t5.trans t6
  have k0 := t56.cell d0
  have k1 := t56.cell f0
  have k2 := t56.cell f1
  have k3 := t56.cell f3
  have H6 := Lib.hid h6
  have H4' := Lib.hid (H4.out.still t56)
  have H1' := Lib.hid (H1.out.still t56)
  have H2' := Lib.hid (H2.out.still t56)
  have HS' := Lib.hid (HS.out.trans t56)
  clear t5 t6 t56 h5 h6 hT d0 f0 f1 f3 HT HAP HSI HNB H1 H2 H4 HS HRES
  have hless : ∀ (w4 : World), Still w3 w4 → Calls Tryd.prog 29 #[.slice A1 L1 c1, .slice A2 L2 c2] w4 (LessRes w4 (decide (D < B))) := fun w4 h => less_any w4 _ _ D B (H1'.out.still h) (H2'.out.still h)
  have HLESS := Lib.hid hless
  clear hless
  cases ed
  · simp only [Bool.false_and, Bool.false_eq_true, if_false] at hRES
    rcases hm01 with rfl | rfl
    · rw [if_pos rfl] at hRES
      have HRES := Lib.hid hRES
      clear hRES
      have hl := less_any w3 (.slice A4 L4 c4) (.slice A6 L6 c6) V _ (H4'.out.still (Still.refl _)) H6.out
      go_wp2_with fail
      refine hl.mono ?_
      rintro e w7 ⟨rfl, k7, rfl⟩
      go_wp2_with fail
      go_ret
      exact ⟨by rw [HRES.out]; rfl, HS'.out.trans ((Still.refl w3).drewN k7)⟩
    · rw [if_neg (by decide)] at hRES
      have HRES := Lib.hid hRES
      clear hRES
      have hl := less_any w3 (.slice A6 L6 c6) (.slice A4 L4 c4) _ V H6.out (H4'.out.still (Still.refl _))
      go_wp2_with fail
      refine hl.mono ?_
      rintro e w7 ⟨rfl, k7, rfl⟩
      go_wp2_with fail
      go_ret
      exact ⟨by rw [HRES.out]; rfl, HS'.out.trans ((Still.refl w3).drewN k7)⟩
  · simp only [Bool.true_and] at hRES
    have HRES0 := Lib.hid hRES
    clear hRES
    go_wp2_with fail
    refine (HLESS.out _ (Still.refl _)).mono ?_
    rintro e w4 ⟨rfl, k, rfl⟩
    have hw : Still w3 (w3.drewN k) := (Still.refl w3).drewN k
    have j0 := hw.cell k0
    have j1 := hw.cell k1
    have j2 := hw.cell k2
    have HW := Lib.hid hw
    clear k0 k1 k2 k3 HLESS hw
    obtain ⟨w5, hw5⟩ : ∃ w5, w5 = w3.drewN k := ⟨_, rfl⟩
    rw [← hw5] at HW j0 j1 j2 ⊢
    clear hw5
    have hRES := HRES0.out
    by_cases hDB : D < B
    · have hDB' : decide (D < B) = true := decide_eq_true hDB
      rw [hDB', if_pos (show true = true from rfl)] at hRES
      rw [hDB']
      have HRES1 := Lib.hid hRES
      have ht := times_any w5 (.slice A6 L6 c6) _ 2 0 (H6.out.still HW.out) (by decide) (Or.inl (by decide)) (by decide) hNB2
      clear hDB hDB' hRES HRES0
      go_wp2_with fail
      refine ht.mono ?_
      rintro e w6 ⟨A8, L8, c8, rfl, h8, t8⟩
      have i0 := t8.cell j0
      have i1 := t8.cell j1
      have i2 := t8.cell j2
      have HW6 := Lib.hid (HW.out.trans t8)
      have H8 := Lib.hid h8
      clear t8 h8 j0 j1 j2 ht
      have hRES := HRES1.out
      clear HRES1
      rcases hm01 with rfl | rfl
      · rw [if_pos rfl] at hRES
        have HRES := Lib.hid hRES
        clear hRES
        have hl := less_any w6 (.slice A4 L4 c4) (.slice A8 L8 c8) V _ (H4'.out.still HW6.out) H8.out
        go_wp2_with fail
        refine hl.mono ?_
        rintro e w7 ⟨rfl, k7, rfl⟩
        go_wp2_with fail
        go_ret
        exact ⟨by rw [HRES.out]; rfl, (HS'.out.trans HW6.out).trans ((Still.refl w6).drewN k7)⟩
      · rw [if_neg (by decide)] at hRES
        have HRES := Lib.hid hRES
        clear hRES
        have hl := less_any w6 (.slice A8 L8 c8) (.slice A4 L4 c4) _ V H8.out (H4'.out.still HW6.out)
        go_wp2_with fail
        refine hl.mono ?_
        rintro e w7 ⟨rfl, k7, rfl⟩
        go_wp2_with fail
        go_ret
        exact ⟨by rw [HRES.out]; rfl, (HS'.out.trans HW6.out).trans ((Still.refl w6).drewN k7)⟩
    · have hDB' : decide (D < B) = false := decide_eq_false hDB
      rw [hDB', if_neg (show ¬ (false = true) by decide)] at hRES
      rw [hDB']
      clear hDB hDB' HRES0
      rcases hm01 with rfl | rfl
      · rw [if_pos rfl] at hRES
        have HRES := Lib.hid hRES
        clear hRES
        have hl := less_any w5 (.slice A4 L4 c4) (.slice A6 L6 c6) V _ (H4'.out.still HW.out) (H6.out.still HW.out)
        go_wp2_with fail
        refine hl.mono ?_
        rintro e w7 ⟨rfl, k7, rfl⟩
        go_wp2_with fail
        go_ret
        exact ⟨by rw [HRES.out]; rfl, (HS'.out.trans HW.out).trans ((Still.refl w5).drewN k7)⟩
      · rw [if_neg (by decide)] at hRES
        have HRES := Lib.hid hRES
        clear hRES
        have hl := less_any w5 (.slice A6 L6 c6) (.slice A4 L4 c4) _ V (H6.out.still HW.out) (H4'.out.still HW.out)
        go_wp2_with fail
        refine hl.mono ?_
        rintro e w7 ⟨rfl, k7, rfl⟩
        go_wp2_with fail
        go_ret
        exact ⟨by rw [HRES.out]; rfl, (HS'.out.trans HW.out).trans ((Still.refl w5).drewN k7)⟩

end Go.Proofs.YthfjpofbaeeafaaDoor
