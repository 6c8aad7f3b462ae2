/-
  rightShift: the decimal divided by a power of two.
-/
import Derived.Test.YthfjpofbaeeafaaDoorLS
import Derived.Test.YthfjpofbaeeafaaDoorNum
import Derived.Deep.CutBlock
namespace Go.Proofs.YthfjpofbaeeafaaDoor
open Go.RowKit

theorem NN_lt {ds : List Nat} (h : ∀ d ∈ ds, d < 10) (r : Nat) : NN ds r < 10 ^ r := by
  rcases Nat.lt_or_ge ds.length r with g | g
  · rw [NN_out ds r (by omega)]
    have h1 := nv_lt ds h
    have h2 := Nat.mul_lt_mul_of_pos_right h1 (show 0 < 10 ^ (r - ds.length) from Nat.pow_pos (by decide))
    rwa [← Nat.pow_add, show ds.length + (r - ds.length) = r by omega] at h2
  · rw [NN_in ds r g]
    have h1 := nv_lt (ds.take r) fun d hd => h d (List.take_subset _ _ hd)
    rwa [List.length_take, Nat.min_eq_left g] at h1

/-- What stands in memory while the digits go. -/
structure RMem (W : World) (g : Nat) (f0 : Nat → Nat) (nd : Nat) (dp : Int) (k r0 r n t : Nat) (f : Nat → Nat) (w : World) : Prop where
  m : Dm w g f nd dp
  kp : Kp g W w
  old : ∀ i, t ≤ i → i < 800 → f i = f0 i
  dig : ∀ i, i < t → 48 ≤ f i ∧ f i < 58
  st : RSt (dl f0 nd) k r0 r n (dl f t)

theorem RMem.put {W w : World} {g : Nat} {f0 f : Nat → Nat} {nd : Nat} {dp : Int} {k r0 r n t m D : Nat} (h : RMem W g f0 nd dp k r0 r n t f w) (hd : ∀ d ∈ dl f0 nd, d < 10) (ht : t < 800) (hD : D = n / 2 ^ k) (hm : m = n % 2 ^ k * 10 + (dl f0 nd).getD r 0) {x : Int} (hx : x = (D : Int) + 48) :
    RMem W g f0 nd dp k r0 (r + 1) m (t + 1) (fun i => if i = t then D + 48 else f i) (w.setCell ⟨g, t, none⟩ (.int .u8 x)) := by
  have h10 : D < 10 := by rw [hD]; exact h.st.dlt
  refine ⟨h.m.setD (by omega) (by omega) (by omega), h.kp.set _ _, fun i h1 h2 => ?_, fun i h1 => ?_, ?_⟩
  · show (if i = t then D + 48 else f i) = f0 i
    rw [if_neg (by omega)]
    exact h.old i (by omega) h2
  · by_cases e : i = t
    · rw [if_pos e]; omega
    · rw [if_neg e]; exact h.dig i (by omega)
  · have := h.st.step hd
    rw [← hm, ← hD] at this
    rw [dl_succ, if_pos rfl, Nat.add_sub_cancel]
    have e : dl (fun i => if i = t then D + 48 else f i) t = dl f t := dl_congr fun i hi => by rw [if_neg (by omega)]
    rw [e]
    exact this

set_option maxRecDepth 100000 in
set_option maxHeartbeats 4000000 in
theorem rightShift_any (W : World) (g : Nat) (f : Nat → Nat) (nd : Nat) (dp : Int) (M : Nat) (E : Int) (h : Dd W g f nd dp M E) (hnd : nd + 42 < 800) (hdp0 : -800 ≤ dp) (hdp1 : dp ≤ 800) (k : Nat) (hk0 : 0 < k) (hk1 : k ≤ 60) (hE : -1200 ≤ E - k) :
    Calls Tryd.prog 86 #[.pointer (some ⟨g, 0, none⟩), .int .u64 k] W (ShRes W g M (E - k) (nd + 42) (dp - 20) dp) := by
  have hpos := h.pos
  have HD := Lib.hid h
  have hkI : (k : Int) < 61 := by omega
  have hndI : (nd : Int) ≤ 758 := by omega
  have hd10 : ∀ d ∈ dl f nd, d < 10 := h.v.dg.lt
  have hdl : (dl f nd).length = nd := dl_length f nd
  have h2k : 2 ^ k ≤ 1152921504606846976 := Nat.le_trans (Nat.pow_le_pow_right (by decide) hk1) (by decide)
  have h2p : 0 < 2 ^ k := Nat.two_pow_pos k
  have hlo : ∀ r, 1 ≤ r → 10 ^ (r - 1) ≤ NN (dl f nd) r := fun r hr => NN_lo h.v.dg h.v.ne r hr
  have hdig := h.dig
  have HDIG := Lib.hid hdig
  have HD10 := Lib.hid hd10
  have HDL := Lib.hid hdl
  have HLO := Lib.hid hlo
  have c800 := h.m.nd
  have c801 := h.m.dp
  have hglt := h.m.lt
  have hm0 := h.m
  have HM0 := Lib.hid hm0
  obtain ⟨P, hP⟩ : ∃ P, P = 2 ^ k := ⟨_, rfl⟩
  have HP := Lib.hid hP
  rw [← hP] at h2k h2p
  have hshr : ∀ n : Nat, (n : Int) / 2 ^ k = ((n / P : Nat) : Int) := fun n => by rw [hP]; simp
  have HSHR := Lib.hid hshr
  clear h hd10 hdl hlo hdig hm0 hP hshr
  go_enter Tryd.func86, Tryd.ntmps86
  go_upto_block 0 with (fail)
  go_cut [4, 6] (fun rv nv1 wx => ∃ r0 n : Nat, rv = .int .i64 r0 ∧ nv1 = .int .u64 n ∧ 1 ≤ r0 ∧ NN (dl f nd) (r0 - 1) < P ∧ P ≤ n ∧ n = NN (dl f nd) r0 ∧ W = wx)
  case first =>
    go_wp2_with fail
    go_loopg [4, 6] nd (fun q rv nv1 wr => ∃ r n : Nat, rv = .int .i64 r ∧ nv1 = .int .u64 n ∧ r + q = nd ∧ n = NN (dl f nd) r ∧ (0 < r → NN (dl f nd) (r - 1) < P) ∧ W = wr)
    case atStart => exact ⟨0, 0, rfl, rfl, by omega, (NN_zero _).symm, fun h => by omega, rfl⟩
    case round =>
      obtain ⟨r, n, rfl, rfl, hrq, hn, hpr, rfl⟩ := hrel
      have HN := Lib.hid hn
      have HPR := Lib.hid hpr
      clear hn hpr
      by_cases hnP : n < P
      · have hsh : (n : Int) / 2 ^ k = 0 := by rw [HSHR.out, Nat.div_eq_of_lt hnP]; rfl
        by_cases hrn : r < nd
        · have hrnI : (r : Int) < nd := by omega
          have hge : decide ((nd : Int) ≤ (r : Int)) = false := decide_eq_false (by omega)
          have hge' : decide (nd ≤ r) = false := decide_eq_false (by omega)
          have hr8 : r < 800 := by omega
          have hr8I : (r : Int) < 800 := by omega
          have hcr := HM0.out.cell r hr8
          obtain ⟨hd1, hd2⟩ := HDIG.out r hrn
          obtain ⟨b, hb⟩ : ∃ b, b = f r := ⟨_, rfl⟩
          rw [← hb] at hcr hd1 hd2
          obtain ⟨m, hm⟩ : ∃ m, m = NN (dl f nd) (r + 1) := ⟨_, rfl⟩
          have hm2 : m = n * 10 + (b - 48) := by rw [hm, NN_succ, HN.out, dl_getD f nd r hrn, hb]
          have hmI : (n : Int) * 10 + (b : Int) - 48 = (m : Int) := by omega
          have hn10 : (n : Int) * 10 < 18446744073709551616 := by omega
          have hnb : (n : Int) * 10 + (b : Int) < 18446744073709551616 := by omega
          have hnb0 : (0 : Int) ≤ (n : Int) * 10 + (b : Int) - 48 := by omega
          have HM := Lib.hid hm
          clear hb hm hm2
          go_wp2_with fail
          go_roundg (gk - 1)
          case measure => omega
          case rel => exact ⟨r + 1, m, by go_num, rfl, by omega, HM.out, fun _ => (by rw [Nat.add_sub_cancel, ← HN.out]; exact hnP), rfl⟩
        · obtain rfl : nd = r := by omega
          have hn0 : ((n : Int) == 0) = false := by
            have h1 := HLO.out nd (by omega)
            have h2 : 0 < 10 ^ (nd - 1) := Nat.pow_pos (by decide)
            have h3 := HN.out
            simp; omega
          have hle19 : ∀ r, 1 ≤ r → NN (dl f nd) r < P → r ≤ 19 := fun r h1 h2 => by
            have h3 := HLO.out r h1
            rcases Nat.lt_or_ge 19 r with g1 | g1
            · exfalso
              have : 10 ^ 19 ≤ 10 ^ (r - 1) := Nat.pow_le_pow_right (by decide) (by omega)
              omega
            · exact g1
          have HLE := Lib.hid hle19
          have hnd19 := hle19 nd hpos (by rw [← HN.out]; exact hnP)
          clear hle19
          go_wp2_with fail
          go_loopg [4, 6] (25 - nd) (fun q rv nv1 wr => ∃ r n : Nat, rv = .int .i64 r ∧ nv1 = .int .u64 n ∧ r + q = 25 ∧ nd ≤ r ∧ n = NN (dl f nd) r ∧ (n < P ∨ NN (dl f nd) (r - 1) < P) ∧ n < 18446744073709551616 ∧ W = wr)
          case atStart => exact ⟨nd, n, rfl, rfl, by omega, Nat.le_refl _, HN.out, Or.inl hnP, by omega, rfl⟩
          case round =>
            obtain ⟨r, n, rfl, rfl, hrq, hndr, hn, hpr, hn64, rfl⟩ := hrel
            have HN := Lib.hid hn
            have HPR := Lib.hid hpr
            clear hn hpr hsh
            by_cases hnP : n < P
            · have hsh : (n : Int) / 2 ^ k = 0 := by rw [HSHR.out, Nat.div_eq_of_lt hnP]; rfl
              have hr19 := HLE.out r (by omega) (by rw [← HN.out]; exact hnP)
              have hn10 : (n : Int) * 10 < 18446744073709551616 := by omega
              have hm2 : n * 10 = NN (dl f nd) (r + 1) := by
                rw [NN_succ, ← HN.out, List.getD_eq_getElem?_getD, List.getElem?_eq_none (by rw [dl_length]; exact hndr)]
                rfl
              have HM := Lib.hid hm2
              clear hm2
              go_wp2_with fail
              go_roundg (gk - 1)
              case measure => omega
              case rel => exact ⟨r + 1, n * 10, by go_num, by go_num, by omega, by omega, HM.out, Or.inr (by rw [Nat.add_sub_cancel, ← HN.out]; exact hnP), by omega, rfl⟩
            · have hsh : ((n : Int) / 2 ^ k == 0) = false := by
                rw [HSHR.out]
                have : 1 ≤ n / P := (Nat.le_div_iff_mul_le h2p).2 (by omega)
                simp; omega
              go_wp2_with fail
              go_meet
              have h4 : NN (dl f nd) (r - 1) < P := by
                rcases HPR.out with h | h
                · omega
                · exact h
              exact ⟨r, n, rfl, rfl, by omega, h4, by omega, HN.out, rfl⟩
      · have hsh : ((n : Int) / 2 ^ k == 0) = false := by
          rw [HSHR.out]
          have : 1 ≤ n / P := (Nat.le_div_iff_mul_le h2p).2 (by omega)
          simp; omega
        have hr1 : 1 ≤ r := by
          rcases Nat.eq_zero_or_pos r with h0 | h0
          · exfalso
            have h1 := HN.out
            rw [h0, NN_zero] at h1
            omega
          · exact h0
        go_wp2_with fail
        go_meet
        exact ⟨r, n, rfl, rfl, hr1, HPR.out hr1, by omega, HN.out, rfl⟩
  case rest =>
    obtain ⟨r0, n0, rfl, rfl, hr1, hlt0, hge0, hn0, rfl⟩ := hcut
    have h10r := NN_lt HD10.out r0
    have hr20 : r0 ≤ 20 := by
      rcases Nat.lt_or_ge 20 r0 with g1 | g1
      · exfalso
        have h1 := HLO.out (r0 - 1) (by omega)
        have : 10 ^ 19 ≤ 10 ^ (r0 - 1 - 1) := Nat.pow_le_pow_right (by decide) (by omega)
        omega
      · exact g1
    have hkr := r0_big k r0 hk1 (by rw [← HP.out]; omega)
    have hn0lt : n0 < 10 * P := by
      have e := NN_succ (dl f nd) (r0 - 1)
      rw [Nat.sub_add_cancel hr1] at e
      have := getD_lt HD10.out (r0 - 1)
      omega
    have hst0 : RSt (dl f nd) k r0 r0 n0 [] := by
      rw [hn0]
      exact RSt.start hr1 (by rw [← HP.out]; exact hlt0) (by rw [← HP.out, ← hn0]; exact hge0) HD10.out
    have hm1 := HM0.out.setDp (dp - ((r0 : Int) - 1))
    have hk1' := (Kp.refl g W).set 801 (.int .i64 (dp - ((r0 : Int) - 1)))
    have hrm : RMem W g f nd (dp - ((r0 : Int) - 1)) k r0 r0 n0 0 f (W.setCell ⟨g, 801, none⟩ (.int .i64 (dp - ((r0 : Int) - 1)))) := ⟨hm1, hk1', fun i _ _ => rfl, fun i h => by omega, hst0⟩
    have HRM := Lib.hid hrm
    have f801 := HM0.out.free 801
    have hMK1 : IntKind.u64.wrap (2 ^ k) = (P : Int) := by
      have e : (2 : Int) ^ k = (P : Int) := by rw [HP.out]; simp
      rw [e, IntKind.wrap_u64]; omega
    obtain ⟨MK, hMK⟩ : ∃ MK, MK = P - 1 := ⟨_, rfl⟩
    have hMK2 : IntKind.u64.wrap ((P : Int) - 1) = (MK : Int) := by rw [IntKind.wrap_u64]; omega
    have hMK3 : (P : Int) - 1 = (MK : Int) := by omega
    have hand : ∀ n : Nat, n < 18446744073709551616 → bits .and .u64 (n : Int) (MK : Int) = ((n % P : Nat) : Int) := fun n hn => by
      have := and_mask_u64 n k hn (by omega)
      rw [hMK, HP.out]
      exact this
    have HAND := Lib.hid hand
    clear hn0 hst0 hm1 hk1' hrm h10r hMK hand
    go_upto_block 4 with (fail)
    clear hMK1 hMK2 hMK3
    go_wp2_with fail
    go_loopg [4, 5, 6] nd (fun q rv tv nv1 wr => ∃ (r t n : Nat) (f1 : Nat → Nat), rv = .int .i64 r ∧ tv = .int .i64 t ∧ nv1 = .int .u64 n ∧ nd ≤ r + q ∧ (r ≤ nd ∨ t = 0) ∧ t + r0 = r ∧ RMem W g f nd (dp - ((r0 : Int) - 1)) k r0 r n t f1 wr)
    case atStart => exact ⟨r0, 0, n0, f, rfl, rfl, rfl, by omega, by omega, by omega, HRM.out⟩
    case round =>
      obtain ⟨r, t, n, f1, rfl, rfl, rfl, hrq, hrt, htr, hR⟩ := hrel
      have c800r := hR.m.nd
      have hlt1 := hR.m.lt
      have hn10P : n < 10 * P := by rw [HP.out]; exact hR.st.lt
      by_cases hrn : r < nd
      · have hrnI : (r : Int) < nd := by omega
        have hr8 : r < 800 := by omega
        have hr8I : (r : Int) < 800 := by omega
        have ht8 : t < 800 := by omega
        have ht8I : (t : Int) < 800 := by omega
        have hcr := hR.m.cell r hr8
        rw [hR.old r (by omega) hr8] at hcr
        have hct := hR.m.cell t ht8
        have hfz := hR.m.free t
        obtain ⟨hd1, hd2⟩ := HDIG.out r hrn
        have hgd : (dl f nd).getD r 0 = f r - 48 := dl_getD f nd r hrn
        obtain ⟨b, hb⟩ : ∃ b, b = f r := ⟨_, rfl⟩
        rw [← hb] at hcr hd1 hd2 hgd
        obtain ⟨D, hD⟩ : ∃ D, D = n / P := ⟨_, rfl⟩
        have hD10 : D < 10 := by rw [hD, HP.out]; exact hR.st.dlt
        have hDI : (n : Int) / 2 ^ k = (D : Int) := by rw [HSHR.out, ← hD]
        have hD10I : (D : Int) < 10 := by omega
        obtain ⟨L, hL⟩ : ∃ L, L = n % P := ⟨_, rfl⟩
        have hLP : L < P := by rw [hL]; exact Nat.mod_lt _ h2p
        have han : bits .and .u64 (n : Int) (MK : Int) = (L : Int) := by rw [HAND.out n (by omega), ← hL]
        obtain ⟨m, hm⟩ : ∃ m, m = L * 10 + (b - 48) := ⟨_, rfl⟩
        have hmI : (L : Int) * 10 + (b : Int) - 48 = (m : Int) := by omega
        have hL10 : (L : Int) * 10 < 18446744073709551616 := by omega
        have hLb : (L : Int) * 10 + (b : Int) < 18446744073709551616 := by omega
        have hLb0 : (0 : Int) ≤ (L : Int) * 10 + (b : Int) - 48 := by omega
        have hput := hR.put (m := m) (D := D) (x := (D : Int) + 48) HD10.out ht8 (by rw [hD, HP.out]) (by rw [hgd, hm, hL, HP.out]) rfl
        have HPUT := Lib.hid hput
        clear hput hR hb hD hL hm hgd
        go_wp2_with fail
        go_roundg (gk - 1)
        case measure => omega
        case rel => exact ⟨r + 1, t + 1, m, _, by go_num, by go_num, rfl, by omega, by omega, by omega, HPUT.out⟩
      · have hge : decide ((r : Int) < (nd : Int)) = false := decide_eq_false (by omega)
        have hge' : decide (r < nd) = false := decide_eq_false (by omega)
        have HR := Lib.hid hR
        clear hR
        go_wp2_with fail
        go_loopg [5, 6] (nd + k + 1) (fun q tv nv1 wr => ∃ (r t n : Nat) (f1 : Nat → Nat), tv = .int .i64 t ∧ nv1 = .int .u64 n ∧ nd ≤ r ∧ nd + k + 1 ≤ r + q ∧ (r ≤ nd + k + 1 ∨ t = 0) ∧ t + r0 = r ∧ RMem W g f nd (dp - ((r0 : Int) - 1)) k r0 r n t f1 wr)
        case atStart => exact ⟨r, t, n, f1, rfl, rfl, by omega, by omega, by omega, by omega, HR.out⟩
        case round =>
          clear hn10P c800r hlt1 HR
          obtain ⟨r, t, n, f2, rfl, rfl, hrn, hrq, hrt, htr, hR⟩ := hrel
          have hn10P : n < 10 * P := by rw [HP.out]; exact hR.st.lt
          have hlt1 := hR.m.lt
          by_cases hn0 : 0 < n
          · have hbd := hR.st.bound hn0
            rw [HDL.out] at hbd
            have hn0I : (0 : Int) < n := by omega
            have ht8 : t < 800 := by omega
            have ht8I : (t : Int) < 800 := by omega
            have hct := hR.m.cell t ht8
            have hfz := hR.m.free t
            obtain ⟨D, hD⟩ : ∃ D, D = n / P := ⟨_, rfl⟩
            have hD10 : D < 10 := by rw [hD, HP.out]; exact hR.st.dlt
            have hDI : (n : Int) / 2 ^ k = (D : Int) := by rw [HSHR.out, ← hD]
            have hD10I : (D : Int) < 10 := by omega
            obtain ⟨L, hL⟩ : ∃ L, L = n % P := ⟨_, rfl⟩
            have hLP : L < P := by rw [hL]; exact Nat.mod_lt _ h2p
            have han : bits .and .u64 (n : Int) (MK : Int) = (L : Int) := by rw [HAND.out n (by omega), ← hL]
            have hL10 : (L : Int) * 10 < 18446744073709551616 := by omega
            have hput := hR.put (m := L * 10) (D := D) (x := (D : Int) + 48) HD10.out ht8 (by rw [hD, HP.out]) (by
              rw [List.getD_eq_getElem?_getD, List.getElem?_eq_none (by rw [dl_length]; exact hrn), hL, HP.out]
              rfl) rfl
            have HPUT := Lib.hid hput
            clear hput hR hD hL
            go_wp2_with fail
            go_roundg (gk - 1)
            case measure => omega
            case rel => exact ⟨r + 1, t + 1, L * 10, _, by go_num, by go_num, by omega, by omega, by omega, by omega, HPUT.out⟩
          · obtain rfl : n = 0 := by omega
            have hne : dl f2 t ≠ [] := by
              intro q
              have := hR.st.lead
              rw [if_pos q] at this
              rw [← HP.out] at this
              omega
            have htp : 0 < t := by
              have := List.length_pos_iff.2 hne
              rwa [dl_length] at this
            obtain ⟨e2, e3⟩ := hR.st.fin (by rw [HDL.out]; exact hrn) hne HD.out.v.val hdp1 hE
            rw [dl_length] at e3
            have f800 := hR.m.free 800
            have c800b := hR.m.nd
            have hm2 := hR.m.setNd t (x := (t : Int)) rfl
            have hk2 := hR.kp.set 800 (.int .i64 (t : Int))
            have HM2 := Lib.hid hm2
            have HK2 := Lib.hid hk2
            have HR2 := Lib.hid hR
            have H2 := Lib.hid e2
            have H3 := Lib.hid e3
            have ht42 : t ≤ nd + 42 := by omega
            clear hm2 hk2 hR e2 e3 hne
            go_wp2_with fail
            refine (trim_any _ g f2 t _ HM2.out (by omega)).mono ?_
            intro e w' htr
            have htr0 := htr.1
            subst htr0
            have hfin := Dd.trim (M := M) (E := E - k) HK2.out H2.out htp (fun i hi => HR2.out.dig i hi) H3.out (by omega) (dpLo := dp - 20) (dpHi := dp) (by omega) (by omega) htr
            have HF := Lib.hid hfin
            clear hfin htr
            go_wp2_with fail
            go_end0
            obtain ⟨h1, h2, f3, nd3, dp3, h3, h4, h5, h6⟩ := HF.out
            exact ⟨h1, h2, f3, nd3, dp3, h3, by omega, h5, h6⟩

end Go.Proofs.YthfjpofbaeeafaaDoor
