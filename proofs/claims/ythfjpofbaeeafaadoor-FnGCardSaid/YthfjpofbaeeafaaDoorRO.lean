/-
  Round: the decimal, to n digits.
-/
import Derived.Test.YthfjpofbaeeafaaDoorAS
namespace Go.Proofs.YthfjpofbaeeafaaDoor
open Go.RowKit

set_option maxRecDepth 100000 in
set_option maxHeartbeats 2000000 in
theorem should_any (W : World) (g : Nat) (f : Nat → Nat) (nd : Nat) (dp : Int) (h : Dm W g f nd dp) (hdig : ∀ i, i < nd → 48 ≤ f i ∧ f i < 58) (hnd : nd ≤ 800) (n : Nat) (hn : n < nd) :
    Calls Tryd.prog 87 #[.pointer (some ⟨g, 0, none⟩), .int .i64 n] W fun e w' => e = .returned (.bool (upB (dl f nd) n)) ∧ W = w' := by
  have c800 := h.nd
  have c803 := h.tr
  have hnI : (n : Int) < nd := by omega
  have hn0 : decide ((n : Int) < 0) = false := decide_eq_false (by omega)
  have hge : decide ((nd : Int) ≤ (n : Int)) = false := decide_eq_false (by omega)
  have hge' : decide (nd ≤ n) = false := decide_eq_false (by omega)
  have hn8 : n < 800 := by omega
  have hn8I : (n : Int) < 800 := by omega
  have hcn := h.cell n hn8
  obtain ⟨h1, h2⟩ := hdig n hn
  have hup : upB (dl f nd) n = if f n = 53 ∧ n + 1 = nd then decide (0 < n ∧ (f (n - 1) - 48) % 2 ≠ 0) else decide (53 ≤ f n) := by
    unfold upB
    rw [dl_getD f nd n hn, dl_length]
    by_cases e : f n = 53 ∧ n + 1 = nd
    · rw [if_pos e, if_pos ⟨by omega, e.2⟩, dl_getD f nd (n - 1) (by omega)]
    · rw [if_neg e, if_neg (fun q => e ⟨by omega, q.2⟩)]
      exact decide_eq_decide.2 (by omega)
  by_cases hA : f n = 53 ∧ n + 1 = nd
  · rw [if_pos hA] at hup
    obtain ⟨hA1, hA2⟩ := hA
    rw [hA1] at hcn
    have hA2I : (n : Int) + 1 = (nd : Int) := by omega
    have hA3 : ((nd : Int) == (nd : Int)) = true := by simp
    rcases Nat.eq_zero_or_pos n with h0 | h0
    · subst h0
      have hup2 : upB (dl f nd) 0 = false := by rw [hup]; simp
      rw [hup2]
      clear hup hup2 hdig h hA1
      go_enter Tryd.func87, Tryd.ntmps87
      go_wp2_with fail
      go_ret
      exact ⟨rfl, rfl⟩
    · obtain ⟨t, rfl⟩ : ∃ t, n = t + 1 := ⟨n - 1, by omega⟩
      have ht1 : ((t + 1 : Nat) : Int) - 1 = (t : Int) := by omega
      have ht8 : t < 800 := by omega
      have ht8I : (t : Int) < 800 := by omega
      have hct := h.cell t ht8
      obtain ⟨g1, g2⟩ := hdig t (by omega)
      rw [Nat.add_sub_cancel] at hup
      obtain ⟨b, hb⟩ : ∃ b, b = f t := ⟨_, rfl⟩
      rw [← hb] at hct g1 g2 hup
      obtain ⟨c, hc⟩ : ∃ c, c = b - 48 := ⟨b - 48, rfl⟩
      rw [← hc] at hup
      have hc9 : c < 10 := by omega
      have hc9I : (c : Int) < 10 := by omega
      have hbc : (b : Int) - 48 = (c : Int) := by omega
      clear hc
      have htp : (0 : Int) < ((t + 1 : Nat) : Int) := by omega
      by_cases hodd : c % 2 = 0
      · have hup2 : upB (dl f nd) (t + 1) = false := by rw [hup]; simp [hodd]
        have hno : ((c : Int) % 2 != 0) = false := by rw [show (c : Int) % 2 = ((c % 2 : Nat) : Int) by simp, hodd]; rfl
        rw [hup2]
        clear hup hup2 hdig h hA1 hb hodd
        go_enter Tryd.func87, Tryd.ntmps87
        go_wp2_with fail
        go_ret
        exact ⟨rfl, rfl⟩
      · have hup2 : upB (dl f nd) (t + 1) = true := by rw [hup]; simp; omega
        have hno : ((c : Int) % 2 != 0) = true := bne_iff_ne.2 (by omega)
        rw [hup2]
        clear hup hup2 hdig h hA1 hb hodd
        go_enter Tryd.func87, Tryd.ntmps87
        go_wp2_with fail
        go_ret
        exact ⟨rfl, rfl⟩
  · rw [if_neg hA] at hup
    obtain ⟨b, hb⟩ : ∃ b, b = f n := ⟨_, rfl⟩
    rw [← hb] at hcn h1 h2 hup hA
    have hcnI : (b : Int) < 58 := by omega
    by_cases h53 : b = 53
    · subst h53
      have hne : (((n : Int) + 1) == (nd : Int)) = false := by simp; omega
      have hup2 : upB (dl f nd) n = true := by rw [hup]; decide
      rw [hup2]
      clear hup hup2 hdig h hA hb
      go_enter Tryd.func87, Tryd.ntmps87
      go_wp2_with fail
      go_ret
      exact ⟨rfl, rfl⟩
    · have hne : ((b : Int) == 53) = false := by simp; omega
      rw [hup]
      by_cases hlt : 53 ≤ b
      · have hlI : decide ((53 : Int) ≤ (b : Int)) = true := decide_eq_true (by omega)
        rw [decide_eq_true hlt]
        clear hup hdig h hA hb
        go_enter Tryd.func87, Tryd.ntmps87
        go_wp2_with fail
        go_ret
        exact ⟨rfl, rfl⟩
      · have hlI : decide ((53 : Int) ≤ (b : Int)) = false := decide_eq_false (by omega)
        rw [decide_eq_false hlt]
        clear hup hdig h hA hb
        go_enter Tryd.func87, Tryd.ntmps87
        go_wp2_with fail
        go_ret
        exact ⟨rfl, rfl⟩

/-- What a rounding leaves. -/
def RoRes (W : World) (g : Nat) (ds : List Nat) (dp : Int) (M : Nat) (E : Int) (n : Nat) (e : Ending) (w' : World) : Prop :=
  e = .returned (.tuple #[]) ∧ Kp g W w' ∧ ∃ f nd dp', Dm w' g f nd dp' ∧ (∀ i, i < nd → 48 ≤ f i ∧ f i < 58) ∧ nd ≤ 800 ∧ (dp' = dp ∨ dp' = dp + 1 ∨ dp' = 0) ∧ Rd ds dp M E n (dl f nd) dp'

set_option maxRecDepth 100000 in
set_option maxHeartbeats 2000000 in
theorem roundDown_any (W : World) (g : Nat) (f : Nat → Nat) (nd : Nat) (dp : Int) (M : Nat) (E : Int) (h : Dd W g f nd dp M E) (hnd : nd ≤ 800) (hdp : dp ≤ 800) (n : Nat) (hn : n < nd) (hu : upB (dl f nd) n = false) :
    Calls Tryd.prog 89 #[.pointer (some ⟨g, 0, none⟩), .int .i64 n] W (RoRes W g (dl f nd) dp M E n) := by
  have c800 := h.m.nd
  have f800 := h.m.free 800
  have hlt := h.m.lt
  have hnI : (n : Int) < nd := by omega
  have hn0 : decide ((n : Int) < 0) = false := decide_eq_false (by omega)
  have hge : decide ((nd : Int) ≤ (n : Int)) = false := decide_eq_false (by omega)
  have hge' : decide (nd ≤ n) = false := decide_eq_false (by omega)
  have hm2 := h.m.setNd n (x := (n : Int)) rfl
  have hk2 := (Kp.refl g W).set 800 (.int .i64 (n : Int))
  have HM2 := Lib.hid hm2
  have HK2 := Lib.hid hk2
  have HH := Lib.hid h
  have HU := Lib.hid hu
  clear hm2 hk2 h hu
  go_enter Tryd.func89, Tryd.ntmps89
  go_wp2_with fail
  refine (trim_any _ g f n _ HM2.out (by omega)).mono ?_
  rintro e w' ⟨rfl, hk', j, hj, hz, hl, hm⟩
  have HK3 := Lib.hid hk'
  have HZ := Lib.hid hz
  have HL := Lib.hid hl
  have HM3 := Lib.hid hm
  clear hk' hz hl hm
  go_wp2_with fail
  go_end0
  have hdig := HH.out.dig
  have hv := HH.out.v
  have hlen : (dl f nd).length = nd := dl_length f nd
  refine ⟨rfl, HK2.out.trans HK3.out, f, j, _, HM3.out, fun i hi => hdig i (by omega), by omega, by split <;> omega, ?_⟩
  have hz' : ∀ i, j ≤ i → i < n → (dl f nd).getD i 0 = 0 := fun i h1 h2 => by
    rw [dl_getD f nd i (by omega), HZ.out i h1 h2]
  rcases Nat.eq_zero_or_pos j with h0 | h0
  · subst h0
    rw [if_pos rfl]
    have hn00 : n = 0 := by
      rcases Nat.eq_zero_or_pos n with g0 | g0
      · exact g0
      · exfalso
        have h1 := hz' 0 (Nat.le_refl _) g0
        have h2 := NN_lo hv.dg hv.ne 1 (Nat.le_refl _)
        have h3 := NN_succ (dl f nd) 0
        rw [NN_zero, h1] at h3
        rw [h3] at h2
        simp at h2
    subst hn00
    exact Rd.down0 hv hdp HU.out
  · rw [if_neg (by omega)]
    have := Rd.down (j := j) hv hdp (by rw [hlen]; exact hn) HU.out h0 hj hz' (by
      rw [dl_getD f nd (j - 1) (by omega)]
      have h5 := HL.out h0
      have := (hdig (j - 1) (by omega)).1
      omega)
    rwa [dl_take f nd j (by omega)] at this

set_option maxRecDepth 100000 in
set_option maxHeartbeats 2000000 in
theorem roundUp_any (W : World) (g : Nat) (f : Nat → Nat) (nd : Nat) (dp : Int) (M : Nat) (E : Int) (h : Dd W g f nd dp M E) (hnd : nd ≤ 800) (hdp : dp ≤ 800) (hdp0 : -800 ≤ dp) (n : Nat) (hn : n < nd) (hu : upB (dl f nd) n = true) :
    Calls Tryd.prog 88 #[.pointer (some ⟨g, 0, none⟩), .int .i64 n] W (RoRes W g (dl f nd) dp M E n) := by
  have c800 := h.m.nd
  have c801 := h.m.dp
  have f800 := h.m.free 800
  have f801 := h.m.free 801
  have f0 := h.m.free 0
  have c0 := h.m.cell 0 (by omega)
  have hlt := h.m.lt
  have hnI : (n : Int) < nd := by omega
  have hn0 : decide ((n : Int) < 0) = false := decide_eq_false (by omega)
  have hge : decide ((nd : Int) ≤ (n : Int)) = false := decide_eq_false (by omega)
  have hge' : decide (nd ≤ n) = false := decide_eq_false (by omega)
  have hlen : (dl f nd).length = nd := dl_length f nd
  have HLEN := Lib.hid hlen
  have HH := Lib.hid h
  have HU := Lib.hid hu
  clear h hu hlen
  go_enter Tryd.func88, Tryd.ntmps88
  go_wp2_with fail
  go_loopg [4] n (fun q v wr => ∃ (r : Int) (j : Nat), v = .int .i64 r ∧ r + 1 = j ∧ j ≤ q ∧ j ≤ n ∧ (∀ t, j ≤ t → t < n → (dl f nd).getD t 0 = 9) ∧ W = wr)
  case atStart => exact ⟨_, n, rfl, by omega, Nat.le_refl _, Nat.le_refl _, fun t h1 h2 => by omega, rfl⟩
  case round =>
    obtain ⟨r, j, rfl, hrj, hjq, hjn, h9, rfl⟩ := hrel
    have H9 := Lib.hid h9
    clear h9
    rcases Nat.eq_zero_or_pos j with h0 | h0
    · subst h0
      have hrneg : decide ((0 : Int) ≤ r) = false := decide_eq_false (by omega)
      have hfin := Rd.nines HH.out.v hdp (by rw [HLEN.out]; exact hn) HU.out (fun t ht => H9.out t (Nat.zero_le _) ht)
      have hm2 := ((HH.out.m.setD (i := 0) (v := 49) (by omega) (by omega) (x := 49) rfl).setNd 1 (x := 1) rfl).setDp (dp + 1)
      have hk2 := (((Kp.refl g W).set 0 (.int .u8 49)).set 800 (.int .i64 1)).set 801 (.int .i64 (dp + 1))
      have HF := Lib.hid hfin
      have HM2 := Lib.hid hm2
      have HK2 := Lib.hid hk2
      clear hfin hm2 hk2
      go_wp2_with fail
      go_end0
      refine ⟨rfl, HK2.out, _, 1, _, HM2.out, fun i hi => ?_, by omega, by omega, ?_⟩
      · have : i = 0 := by omega
        subst this
        simp
      · exact HF.out
    · obtain ⟨t, rfl⟩ : ∃ t, j = t + 1 := ⟨j - 1, by omega⟩
      obtain rfl : r = (t : Int) := by omega
      have htn : t < n := by omega
      have ht8 : t < 800 := by omega
      have ht8I : (t : Int) < 800 := by omega
      have hct := HH.out.m.cell t ht8
      have fct := HH.out.m.free t
      obtain ⟨g1, g2⟩ := HH.out.dig t (by omega)
      have hgd : (dl f nd).getD t 0 = f t - 48 := dl_getD f nd t (by omega)
      obtain ⟨b, hb⟩ : ∃ b, b = f t := ⟨_, rfl⟩
      rw [← hb] at hct g1 g2 hgd
      have hb58 : (b : Int) < 58 := by omega
      by_cases h57 : b < 57
      · have h57I : (b : Int) < 57 := by omega
        have hb1 : (b : Int) + 1 = ((b + 1 : Nat) : Int) := by omega
        have hneb : ∀ v, (W.setCell ⟨g, t, none⟩ v).cell? ⟨g, 800, none⟩ = W.cell? ⟨g, 800, none⟩ := fun v => World.cell?_setCell_other _ _ _ _ (ne_off (by omega))
        have hfin := Rd.up HH.out.v hdp (by rw [HLEN.out]; exact hn) HU.out htn (fun i h1 h2 => H9.out i (by omega) h2) (by rw [hgd]; omega)
        rw [dl_take f nd t (by omega), hgd] at hfin
        have hm2 := ((HH.out.m.setD (i := t) (v := b + 1) ht8 (by omega) (x := (b : Int) + 1) hb1).drew).setNd (t + 1) (x := (t : Int) + 1) (by omega)
        have hk2 := (((Kp.refl g W).set t (.int .u8 ((b : Int) + 1))).drew).set 800 (.int .i64 ((t : Int) + 1))
        have HF := Lib.hid hfin
        have HM2 := Lib.hid hm2
        have HK2 := Lib.hid hk2
        have HB := Lib.hid hb
        clear hfin hm2 hk2 hb hgd hb1 hrj
        go_wp2_with fail
        go_region
        go_wp2_with fail
        go_end0
        refine ⟨rfl, HK2.out, _, t + 1, dp, HM2.out, fun i hi => ?_, by omega, by omega, ?_⟩
        · by_cases e : i = t
          · rw [if_pos e]; omega
          · rw [if_neg e]; exact HH.out.dig i (by omega)
        · have e : dl (fun j => if j = t then b + 1 else f j) t = dl f t := dl_congr fun i hi => by rw [if_neg (by omega)]
          rw [dl_succ, if_pos rfl, e, show b + 1 - 48 = b - 48 + 1 by omega]
          exact HF.out
      · have h57I : decide ((b : Int) < 57) = false := decide_eq_false (by omega)
        have HB := Lib.hid hgd
        clear hb hgd
        go_wp2_with fail
        go_roundg (gk - 1)
        case measure => omega
        case rel =>
          refine ⟨(t : Int) - 1, t, rfl, by omega, by omega, by omega, fun i h1 h2 => ?_, rfl⟩
          by_cases e : i = t
          · rw [e, HB.out]; omega
          · exact H9.out i (by omega) h2

set_option maxRecDepth 100000 in
set_option maxHeartbeats 2000000 in
theorem roundDec_any (W : World) (g : Nat) (f : Nat → Nat) (nd : Nat) (dp : Int) (M : Nat) (E : Int) (h : Dd W g f nd dp M E) (hnd : nd ≤ 800) (hdp : dp ≤ 800) (hdp0 : -800 ≤ dp) (n : Nat) (hn9 : n ≤ 10000) :
    Calls Tryd.prog 67 #[.pointer (some ⟨g, 0, none⟩), .int .i64 n] W (RoRes W g (dl f nd) dp M E n) := by
  have c800 := h.m.nd
  have hn0 : decide ((n : Int) < 0) = false := decide_eq_false (by omega)
  by_cases hn : n < nd
  · have hnI : (n : Int) < nd := by omega
    have hge : decide ((nd : Int) ≤ (n : Int)) = false := decide_eq_false (by omega)
    have hge' : decide (nd ≤ n) = false := decide_eq_false (by omega)
    have cs := should_any W g f nd dp h.m h.dig hnd n hn
    obtain ⟨U, hU⟩ : ∃ U, U = upB (dl f nd) n := ⟨_, rfl⟩
    rw [← hU] at cs
    cases U
    · have cd := roundDown_any W g f nd dp M E h hnd hdp n hn hU.symm
      clear h hU
      go_enter Tryd.func67, Tryd.ntmps67
      go_wp2_with fail
      refine cs.mono ?_
      rintro e w' ⟨rfl, rfl⟩
      go_wp2_with fail
      refine cd.mono ?_
      intro e w' hr
      have h0 := hr.1
      subst h0
      have HR := Lib.hid hr
      clear hr
      go_wp2_with fail
      go_end0
      exact HR.out
    · have cd := roundUp_any W g f nd dp M E h hnd hdp hdp0 n hn hU.symm
      clear h hU
      go_enter Tryd.func67, Tryd.ntmps67
      go_wp2_with fail
      refine cs.mono ?_
      rintro e w' ⟨rfl, rfl⟩
      go_wp2_with fail
      refine cd.mono ?_
      intro e w' hr
      have h0 := hr.1
      subst h0
      have HR := Lib.hid hr
      clear hr
      go_wp2_with fail
      go_end0
      exact HR.out
  · have hge : decide ((nd : Int) ≤ (n : Int)) = true := decide_eq_true (by omega)
    have hge' : decide (nd ≤ n) = true := decide_eq_true (by omega)
    have HH := Lib.hid h
    have hfin := Rd.all h.v hdp (n := n) (by rw [dl_length]; omega)
    have HF := Lib.hid hfin
    clear h hfin
    go_enter Tryd.func67, Tryd.ntmps67
    go_wp2_with fail
    refine bodyPost_ret (results_none rfl _ _ _) rfl ?_
    exact ⟨rfl, Kp.refl _ _, f, nd, dp, HH.out.m, HH.out.dig, hnd, by omega, HF.out⟩

end Go.Proofs.YthfjpofbaeeafaaDoor
