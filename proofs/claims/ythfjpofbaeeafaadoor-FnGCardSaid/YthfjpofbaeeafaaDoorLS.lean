/-
  leftShift: the decimal times a power of two.
-/
import Derived.Test.YthfjpofbaeeafaaDoorDP
import Derived.Test.YthfjpofbaeeafaaDoorInts
namespace Go.Proofs.YthfjpofbaeeafaaDoor
open Go.RowKit

/-- The decimal in block g tells M times 2 to the E. -/
structure Dd (w : World) (g : Nat) (f : Nat → Nat) (nd : Nat) (dp : Int) (M : Nat) (E : Int) : Prop where
  m : Dm w g f nd dp
  dig : ∀ i, i < nd → 48 ≤ f i ∧ f i < 58
  v : Dv (dl f nd) dp M E

theorem Dd.pos {w : World} {g : Nat} {f : Nat → Nat} {nd : Nat} {dp : Int} {M : Nat} {E : Int} (h : Dd w g f nd dp M E) : 0 < nd := by
  have := List.length_pos_iff.2 h.v.ne
  rwa [dl_length] at this

/-- Digits from s on. -/
def dlr (f : Nat → Nat) (s n : Nat) : List Nat := (List.range n).map fun t => f (s + t) - 48
theorem dlr_zero (f : Nat → Nat) (n : Nat) : dlr f 0 n = dl f n := by
  unfold dlr dl
  exact List.map_congr_left fun t _ => by rw [Nat.zero_add]
theorem dlr_cons (f : Nat → Nat) (s n : Nat) : dlr f s (n + 1) = (f s - 48) :: dlr f (s + 1) n := by
  unfold dlr
  rw [List.range_succ_eq_map, List.map_cons, List.map_map]
  congr 1
  exact List.map_congr_left fun t _ => by simp only [Function.comp]; congr 2; omega
theorem dlr_congr {f f' : Nat → Nat} {s n : Nat} (h : ∀ i, s ≤ i → i < s + n → f i = f' i) : dlr f s n = dlr f' s n := by
  unfold dlr
  exact List.map_congr_left fun t ht => by rw [h (s + t) (by omega) (by have := List.mem_range.1 ht; omega)]

/-- What stands in memory while the digits go: j of T digits have been put down. -/
structure LMem (W : World) (g : Nat) (f0 : Nat → Nat) (nd : Nat) (dp : Int) (k T j n : Nat) (f : Nat → Nat) (w : World) : Prop where
  m : Dm w g f nd dp
  kp : Kp g W w
  old : ∀ i, i + j < T → f i = f0 i
  dig : ∀ i, T ≤ i + j → i < T → 48 ≤ f i ∧ f i < 58
  st : LSt (dl f0 nd) k j n (dlr f (T - j) j)

theorem LMem.put {W w : World} {g : Nat} {f0 f : Nat → Nat} {nd : Nat} {dp : Int} {k T j n t m R : Nat} (h : LMem W g f0 nd dp k T j n f w) (ht : t + 1 + j = T) (hT : T ≤ 800) (hR : R < 10) {x : Int} (hx : x = (R : Int) + 48)
    (hst : ∀ l, LSt (dl f0 nd) k j n l → LSt (dl f0 nd) k (j + 1) m (R :: l)) : LMem W g f0 nd dp k T (j + 1) m (fun i => if i = t then R + 48 else f i) (w.setCell ⟨g, t, none⟩ (.int .u8 x)) := by
  refine ⟨h.m.setD (by omega) (by omega) (by omega), h.kp.set _ _, fun i hi => ?_, fun i hi1 hi2 => ?_, ?_⟩
  · show (if i = t then R + 48 else f i) = f0 i
    rw [if_neg (by omega)]
    exact h.old i (by omega)
  · by_cases e : i = t
    · rw [if_pos e]; omega
    · rw [if_neg e]; exact h.dig i (by omega) hi2
  · rw [dlr_cons, show T - (j + 1) = t by omega, if_pos rfl, Nat.add_sub_cancel]
    have e : dlr (fun i => if i = t then R + 48 else f i) (t + 1) j = dlr f (T - j) j := by
      rw [show T - j = t + 1 by omega]
      exact dlr_congr fun i h1 _ => by rw [if_neg (by omega)]
    rw [e]
    exact hst _ h.st

/-- What a shift leaves. -/
def ShRes (W : World) (g M : Nat) (E : Int) (ndMax : Nat) (dpLo dpHi : Int) (e : Ending) (w' : World) : Prop :=
  e = .returned (.tuple #[]) ∧ Kp g W w' ∧ ∃ f nd dp, Dd w' g f nd dp M E ∧ nd ≤ ndMax ∧ dpLo ≤ dp ∧ dp ≤ dpHi

/-- Behind trim. -/
theorem Dd.trim {W w1 w' : World} {g : Nat} {f : Nat → Nat} {n : Nat} {dp : Int} {M : Nat} {E : Int} {e : Ending} (hk : Kp g W w1) (hdg : Dg (dl f n)) (hn : 0 < n) (hdig : ∀ i, i < n → 48 ≤ f i ∧ f i < 58) (hv : VN M E (n - dp) = VC * nv (dl f n)) (hdp : dp ≤ 800) {dpLo dpHi : Int} (h1 : dpLo ≤ dp) (h2 : dp ≤ dpHi)
    (h : TrimRes w1 g f n dp e w') : ShRes W g M E n dpLo dpHi e w' := by
  obtain ⟨he, hk', j, hj, hz, hl, hm⟩ := h
  have hne : dl f n ≠ [] := by
    intro q
    have := congrArg List.length q
    rw [dl_length] at this
    simp at this; omega
  have hpos := hdg.pos hne
  have hz' : ∀ i, j ≤ i → i < (dl f n).length → (dl f n).getD i 0 = 0 := fun i h3 h4 => by
    rw [dl_length] at h4
    rw [dl_getD f n i h4, hz i h3 h4]
  have hj0 : 0 < j := by
    rcases Nat.eq_zero_or_pos j with g0 | g0
    · exfalso
      subst g0
      have := nv_take_zero (out := dl f n) (j := 0) (Nat.zero_le _) hz'
      rw [List.take_zero, nv_nil, Nat.zero_mul] at this
      omega
    · exact g0
  rw [if_neg (by omega)] at hm
  have hd : Dv (dl f j) dp M E := by
    have := Dv.trim (j := j) hdg (by rw [dl_length]; exact hv) hj0 (by rw [dl_length]; exact hj) hz' (by
      rw [dl_getD f n (j - 1) (by omega)]
      have h5 := hl hj0
      have := (hdig (j - 1) (by omega)).1
      omega) hdp
    rwa [dl_take f n j hj] at this
  exact ⟨he, hk.trans hk', f, j, dp, ⟨hm, fun i hi => hdig i (by omega), hd⟩, hj, h1, h2⟩

set_option maxRecDepth 100000 in
set_option maxHeartbeats 4000000 in
theorem leftShift_any {B : Nat} (W : World) (g : Nat) (f : Nat → Nat) (nd : Nat) (dp : Int) (M : Nat) (E : Int) (h : Dd W g f nd dp M E) (hT : Tabs B W) (hB : B ≤ g) (hnd : nd + 19 < 800) (hdp0 : -900 ≤ dp) (hdp1 : dp ≤ 700) (hE : -1200 ≤ E) (k : Nat) (hk0 : 0 < k) (hk1 : k ≤ 60) :
    Calls Tryd.prog 85 #[.pointer (some ⟨g, 0, none⟩), .int .u64 k] W (ShRes W g M (E + k) (nd + 19) dp (dp + 19)) := by
  have hpos := h.pos
  obtain ⟨c1, c2, c3, c4, c5, c6⟩ := ch_at k hk0 hk1
  obtain ⟨ab, ao, ac, hab, hg4, hch⟩ := hT.cheats
  obtain ⟨hcd, hcs⟩ := hch k (by omega)
  have hab2 : ab ≠ g := by omega
  have hglt := h.m.lt
  obtain ⟨CD, hCD⟩ : ∃ CD, CD = chDelta k := ⟨_, rfl⟩
  have hCD2 : CD = chD k := hCD
  rw [← hCD] at hcd
  obtain ⟨s, hs⟩ : ∃ s : ByteArray, s = ⟨(chCut k).toArray⟩ := ⟨_, rfl⟩
  rw [← hs] at hcs
  have hsl : s.data.toList = chS k := by rw [hs]; rfl
  have hslen : (chS k).length ≤ 100 := by
    have : (chN k).length = (chS k).length := by unfold chN; rw [List.length_map]
    omega
  have hpre := fun w1 (hD1 : Dm w1 g f nd dp) => prefix_any w1 g f nd dp hD1 (by omega) s (chS k) hsl hslen
  rw [ltP_dl f nd (chS k) (fun i hi => (h.dig i hi).1) (fun c hc => (c6 c hc).1)] at hpre
  obtain ⟨R, hR⟩ : ∃ R, R = ltP (dl f nd) (chN k) := ⟨_, rfl⟩
  have hR' : ltP (dl f nd) ((chS k).map fun c => c.toNat - 48) = R := hR.symm
  rw [hR'] at hpre
  obtain ⟨T, hTT⟩ : ∃ T, T = lsT (dl f nd) k := ⟨_, rfl⟩
  obtain ⟨t1, t2⟩ := lsT_law h.v.dg h.v.ne k hk0 hk1
  rw [← hTT] at t1 t2
  have hTe : T = if R then nd + CD - 1 else nd + CD := by
    rw [hTT, hCD2]; unfold lsT; rw [← hR, dl_length]
  have hTn : nd ≤ T ∧ T ≤ nd + 19 := by rw [hTe]; split <;> omega
  have hal : Tryd.prog.arrayLen 111 = 800 := by kernel_rfl
  have hsl2 : ∀ W', (Instr.sliceAt 111 (.pointer (some ⟨g, 0, none⟩)) (some (.int .i64 0)) (some (.int .i64 (nd : Int))) none).run Tryd.prog W' = .ok (.slice (some ⟨g, 0, none⟩) nd 800) W' := fun W' => by
    rw [run_sliceAt_array_lh W' 111 ⟨g, 0, none⟩ (by simp [Program.arrayLen, Program.elem, Tryd.underlying111]) .i64 .i64 0 (nd : Int) (by omega) (by omega) (by rw [hal]; omega)]
    rw [hal]
    go_simp
  have HD := Lib.hid h
  have HTE := Lib.hid hTe
  have HT1 := Lib.hid t1
  have HT2 := Lib.hid t2
  have hkI : (k : Int) < 61 := by omega
  have hndI : (nd : Int) ≤ 800 := by omega
  have hao : ao + k * 2 = ao + 2 * k := by omega
  rw [← hao] at hcd hcs
  have hnd0 := h.m.nd
  have hdp00 := h.m.dp
  clear hal
  clear c1 c2 c3 c4 c5 c6 hCD hCD2 hs hsl hslen hR hR' hTT t1 t2 hTe h hch hao
  go_enter Tryd.func85, Tryd.ntmps85
  go_wp2_with fail
  go_quiet ((go_at_call 95; exact Calls.quiet_of (hpre _ (HD.out.m.drewN _))))
  have hD1 : Dm (W.drewN nq) g f nd dp := HD.out.m.drewN nq
  have hK1 : Kp g W (W.drewN nq) := (Kp.refl g W).drewN nq
  obtain ⟨w1, hw1⟩ : ∃ w1, w1 = W.drewN nq := ⟨_, rfl⟩
  rw [← hw1] at hD1 hK1 ⊢
  clear hw1
  obtain ⟨DL, hDL⟩ : ∃ DL : Nat, nd + DL = T := ⟨T - nd, by omega⟩
  go_upto_if 30 with fail
  go_cut [4] (fun d wx => d = .int .i64 (DL : Int) ∧ w1 = wx)
  case first =>
    have hTE := HTE.out
    cases R
    · have e : CD = DL := by simp at hTE; omega
      subst e
      go_wp2_with fail
      go_meet
      exact ⟨rfl, rfl⟩
    · have e : (CD : Int) - 1 = (DL : Int) := by simp at hTE; omega
      have hcd1 : (1 : Int) ≤ CD := by omega
      clear hTE
      go_wp2_with fail
      go_meet
      exact ⟨by first | rfl | rw [e], rfl⟩
  case rest =>
    obtain ⟨rfl, rfl⟩ := hcut
    have c800 := hD1.nd
    have c801 := hD1.dp
    have hTI : (nd : Int) + (DL : Int) = (T : Int) := by omega
    have hT8 : T < 800 := by omega
    have HD1 := Lib.hid hD1
    have HK1 := Lib.hid hK1
    have HDL := Lib.hid hDL
    have hlm : LMem W g f nd dp k T 0 0 f w1 := ⟨hD1, hK1, fun i _ => rfl, fun i h1 h2 => by omega, LSt.start _ _⟩
    have HLM := Lib.hid hlm
    have hd10 : ∀ i, i < nd → 48 ≤ f i ∧ f i < 58 := HD.out.dig
    have HDIG := Lib.hid hd10
    clear hD1 hK1 hDL hlm hd10 hnd0 hdp00 hcd hcs hpre hsl2
    go_wp2_with fail
    go_loopg [5, 6, 7] nd (fun q r wv nv1 wr => ∃ (j n wj : Nat) (rj : Int) (f1 : Nat → Nat), r = .int .i64 rj ∧ wv = .int .i64 wj ∧ nv1 = .int .u64 n ∧ j + q = nd ∧ rj + 1 + j = nd ∧ wj + j = T ∧ LMem W g f nd dp k T j n f1 wr)
    case atStart => exact ⟨0, 0, T, _, f, rfl, rfl, rfl, by omega, by omega, by omega, HLM.out⟩
    case round =>
      obtain ⟨j, n, wj, rj, f1, rfl, rfl, rfl, hjq, hrj, hwj, hL⟩ := hrel
      by_cases hr0 : 0 ≤ rj
      · obtain ⟨r, rfl⟩ : ∃ r : Nat, rj = (r : Int) := ⟨rj.toNat, by omega⟩
        obtain ⟨t, rfl⟩ : ∃ t, wj = t + 1 := ⟨wj - 1, by omega⟩
        have hrn : r < nd := by omega
        have hr8 : r < 800 := by omega
        have hr8I : (r : Int) < 800 := by omega
        have ht8 : t < 800 := by omega
        have ht8I : (t : Int) < 800 := by omega
        have hcr := hL.m.cell r hr8
        have hfr : f1 r = f r := hL.old r (by omega)
        rw [hfr] at hcr
        obtain ⟨hd1, hd2⟩ := HDIG.out r hrn
        obtain ⟨b, hb⟩ : ∃ b, b = f r := ⟨_, rfl⟩
        rw [← hb] at hcr hd1 hd2
        obtain ⟨d, hd⟩ : ∃ d, b = 48 + d := ⟨b - 48, by omega⟩
        have hd9 : d < 10 := by omega
        have hbd : (b : Int) - 48 = (d : Int) := by omega
        obtain ⟨DK, hDK⟩ : ∃ DK, DK = d * 2 ^ k := ⟨_, rfl⟩
        have h2k : 2 ^ k ≤ 1152921504606846976 := Nat.le_trans (Nat.pow_le_pow_right (by decide) hk1) (by decide)
        have hDKb : DK ≤ 9 * 2 ^ k := by rw [hDK]; exact Nat.mul_le_mul_right _ (by omega)
        have hnlt := hL.st.lt HD.out.v.dg.lt (by rw [dl_length]; omega)
        have hsh : IntKind.u64.wrap ((d : Int) * 2 ^ k) = (DK : Int) := by
          have e : (d : Int) * 2 ^ k = ((d * 2 ^ k : Nat) : Int) := by simp
          rw [e, ← hDK, IntKind.wrap_u64]; omega
        obtain ⟨m, hm⟩ : ∃ m, m = n + DK := ⟨_, rfl⟩
        have hmI : (n : Int) + (DK : Int) = (m : Int) := by omega
        have hmU : m < 18446744073709551616 := by omega
        have hmUI : (m : Int) < 18446744073709551616 := by omega
        have hw1 : ((t + 1 : Nat) : Int) - 1 = (t : Int) := by omega
        obtain ⟨Q, hQ⟩ : ∃ Q, Q = m / 10 := ⟨_, rfl⟩
        obtain ⟨R', hR'⟩ : ∃ R', R' = m % 10 := ⟨_, rfl⟩
        have hQI : (m : Int) / 10 = (Q : Int) := by omega
        have hRI : (m : Int) - 10 * (Q : Int) = (R' : Int) := by omega
        have hR10 : R' < 10 := by omega
        have hR10I : (R' : Int) < 10 := by omega
        have hQU : 10 * (Q : Int) < 18446744073709551616 := by omega
        have hfz := hL.m.free t
        have hct := hL.m.cell t ht8
        have hlt1 := hL.m.lt
        have hput := hL.put (t := t) (m := Q) (R := R') (x := (R' : Int) + 48) (by omega) (by omega) hR10 rfl (fun l hl => by
          have := hl.step (by rw [dl_length]; omega)
          rw [dl_length, show nd - 1 - j = r by omega, dl_getD f nd r hrn, ← hb, show b - 48 = d by omega, ← hDK, ← hm, ← hQ, ← hR'] at this
          exact this)
        have HP := Lib.hid hput
        have HL := Lib.hid hL
        have hr1 : (r : Int) - 1 + 1 + ((j + 1 : Nat) : Int) = nd := by omega
        clear hput hL hfr hb hd hDK h2k hDKb hnlt hm hQ hR' hd1 hd2
        go_wp2_with fail
        go_roundg (gk - 1)
        case measure => omega
        case rel => exact ⟨j + 1, Q, t, (r : Int) - 1, _, rfl, rfl, rfl, by omega, hr1, by omega, HP.out⟩
      · obtain rfl : nd = j := by omega
        have hrneg : decide ((0 : Int) ≤ rj) = false := decide_eq_false hr0
        have HL := Lib.hid hL
        clear hL hrneg
        go_wp2_with fail
        go_loopg [6, 7] (T - nd) (fun q wv nv1 wr => ∃ (j n wj : Nat) (f1 : Nat → Nat), wv = .int .i64 wj ∧ nv1 = .int .u64 n ∧ nd ≤ j ∧ j + q = T ∧ wj + j = T ∧ n < 18446744073709551616 ∧ LMem W g f nd dp k T j n f1 wr)
        case atStart =>
          have hnlt := HL.out.st.lt HD.out.v.dg.lt (by rw [dl_length]; omega)
          have h2k : 2 ^ k ≤ 1152921504606846976 := Nat.le_trans (Nat.pow_le_pow_right (by decide) hk1) (by decide)
          exact ⟨nd, n, wj, f1, rfl, rfl, by omega, by omega, by omega, by omega, HL.out⟩
        case round =>
          obtain ⟨j, n, wj, f2, rfl, rfl, hj, hjq, hwj2, hn64, hL⟩ := hrel
          have hn64I : (n : Int) < 18446744073709551616 := by omega
          by_cases hn0 : 0 < n
          · have hroom := hL.st.room (by rw [dl_length]; exact hj) hn0 HT2.out
            obtain ⟨t, rfl⟩ : ∃ t, wj = t + 1 := ⟨wj - 1, by omega⟩
            have hn0I : (0 : Int) < n := by omega
            have ht8 : t < 800 := by omega
            have ht8I : (t : Int) < 800 := by omega
            have hw1 : ((t + 1 : Nat) : Int) - 1 = (t : Int) := by omega
            obtain ⟨Q, hQ⟩ : ∃ Q, Q = n / 10 := ⟨_, rfl⟩
            obtain ⟨R', hR'⟩ : ∃ R', R' = n % 10 := ⟨_, rfl⟩
            have hQI : (n : Int) / 10 = (Q : Int) := by omega
            have hRI : (n : Int) - 10 * (Q : Int) = (R' : Int) := by omega
            have hR10 : R' < 10 := by omega
            have hR10I : (R' : Int) < 10 := by omega
            have hQU : 10 * (Q : Int) < 18446744073709551616 := by omega
            have hQ64 : Q < 18446744073709551616 := by omega
            have hfz := hL.m.free t
            have hct := hL.m.cell t ht8
            have hlt1 := hL.m.lt
            have hput := hL.put (t := t) (m := Q) (R := R') (x := (R' : Int) + 48) (by omega) (by omega) hR10 rfl (fun l hl => by
              have := hl.more (by rw [dl_length]; exact hj)
              rw [← hQ, ← hR'] at this
              exact this)
            have HP := Lib.hid hput
            clear hput hL hQ hR'
            go_wp2_with fail
            go_roundg (gk - 1)
            case measure => omega
            case rel => exact ⟨j + 1, Q, t, _, rfl, rfl, by omega, by omega, by omega, hQ64, HP.out⟩
          · obtain rfl : n = 0 := by omega
            have hjT : j ≤ T := by omega
            obtain ⟨e1, e2, e3⟩ := hL.st.fin (by rw [dl_length]; exact hj) hjT HT1.out (by omega) HD.out.v.val hE
            subst e1
            have c800b := hL.m.nd
            have c801b := hL.m.dp
            have f800 := hL.m.free 800
            have f801 := hL.m.free 801
            have hltw := hL.m.lt
            rw [Nat.sub_self, dlr_zero] at e2 e3
            rw [dl_length] at e3
            have hdlT : (dlr f2 0 j).length = j := by rw [dlr_zero, dl_length]
            have hm2 := (hL.m.setNd j (x := (j : Int)) rfl).setDp (dp + (DL : Int))
            have hk2 := (hL.kp.set 800 (.int .i64 (j : Int))).set 801 (.int .i64 (dp + (DL : Int)))
            have HM2 := Lib.hid hm2
            have HK2 := Lib.hid hk2
            have HL2 := Lib.hid hL
            have H2 := Lib.hid e2
            have H3 := Lib.hid e3
            have hge8 : decide ((800 : Int) ≤ (j : Int)) = false := decide_eq_false (by omega)
            have hge9 : decide (800 ≤ j) = false := decide_eq_false (by omega)
            clear hm2 hk2 hL e2 e3 hdlT HL
            go_wp2_with fail
            refine (trim_any _ g f2 j _ HM2.out (by omega)).mono ?_
            intro e w' htr
            have htr0 := htr.1
            subst htr0
            have hfin := Dd.trim (M := M) (E := E + k) HK2.out H2.out (by omega) (fun i hi => HL2.out.dig i (by omega) hi) (by
              have := H3.out
              rw [dl_length, show dp + ((j : Int) - nd) = dp + (DL : Int) by omega] at this
              exact this) (by omega) (dpLo := dp) (dpHi := dp + 19) (by omega) (by omega) htr
            have HF := Lib.hid hfin
            clear hfin htr
            go_wp2_with fail
            go_end0
            obtain ⟨h1, h2, f3, nd3, dp3, h3, h4, h5, h6⟩ := HF.out
            exact ⟨h1, h2, f3, nd3, dp3, h3, by omega, h5, h6⟩

end Go.Proofs.YthfjpofbaeeafaaDoor
