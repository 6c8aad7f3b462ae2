/-
  Assign: a whole number as a decimal.
-/
import Derived.Test.YthfjpofbaeeafaaDoorSH
import Derived.RegionTactic
import Derived.ChangeAlike
namespace Go.Proofs.YthfjpofbaeeafaaDoor
open Go.RowKit

theorem Kp.alloc {g : Nat} {a b : World} (h : Kp g a b) (o : Obj) : Kp g a (b.alloc o) := World.keptBut_trans h (World.keptBut_alloc _ _ _)
theorem Kp.setNew {g : Nat} {a b : World} (h : Kp g a b) {p : Addr} (hp : a.heap.size ≤ p.block) (v : Value) : Kp g a (b.setCell p v) :=
  keptBut_then h (World.keptBut_setCell b p v (may := fun q => q = .cell p.block p.off) rfl) (fun q hq => Or.inr (by rw [hq]; exact hp))
theorem Dm.setOther {w : World} {g : Nat} {f : Nat → Nat} {nd : Nat} {dp : Int} (h : Dm w g f nd dp) {b o : Nat} (hb : b ≠ g) (v : Value) : Dm (w.setCell ⟨b, o, none⟩ v) g f nd dp := by
  have hne : ∀ i, (⟨g, i, none⟩ : Addr) ≠ ⟨b, o, none⟩ := fun i q => hb (by have := congrArg Addr.block q; simpa using this.symm)
  exact ⟨fun i hi => by rw [World.cell?_setCell_other _ _ _ _ (hne i).symm]; exact h.cell i hi, h.byte, by rw [World.cell?_setCell_other _ _ _ _ (hne 800).symm]; exact h.nd, by rw [World.cell?_setCell_other _ _ _ _ (hne 801).symm]; exact h.dp,
    by rw [World.cell?_setCell_other _ _ _ _ (hne 803).symm]; exact h.tr, fun i => by rw [World.frozen?_setCell]; exact h.free i, by rw [World.size_setCell]; exact h.lt⟩

/-- The digits of a number, each at its place. -/
theorem nv_digits (M N : Nat) (f : Nat → Nat) (hN : M < 10 ^ N) (hf : ∀ i, i < N → f i = 48 + M / 10 ^ (N - 1 - i) % 10) : ∀ m, m ≤ N → nv (dl f m) = M / 10 ^ (N - m)
  | 0, _ => by rw [Nat.sub_zero, Nat.div_eq_of_lt hN]; rfl
  | m + 1, h => by
    rw [dl_succ, nv_snoc, nv_digits M N f hN hf m (by omega), hf m (by omega), show 48 + M / 10 ^ (N - 1 - m) % 10 - 48 = M / 10 ^ (N - 1 - m) % 10 by omega]
    rw [show N - m = (N - 1 - m) + 1 by omega, Nat.pow_succ, ← Nat.div_div_eq_div_mul, show N - (m + 1) = N - 1 - m by omega]
    omega

/-- The buffer of 24 bytes in block b, and the decimal in block g. -/
structure AMem (W : World) (g b : Nat) (f : Nat → Nat) (nd : Nat) (fb : Nat → Nat) (w : World) : Prop where
  m : Dm w g f nd 0
  kp : Kp g W w
  buf : ∀ i, i < 24 → w.cell? ⟨b, i, none⟩ = some (.int .u8 (fb i : Int))
  free : ∀ i, w.frozen? ⟨b, i, none⟩ = false
  lt : b < w.heap.size

theorem AMem.put {W w : World} {g b : Nat} {f fb : Nat → Nat} {nd : Nat} (h : AMem W g b f nd fb w) (hb : W.heap.size ≤ b) (hbg : b ≠ g) {t v : Nat} (ht : t < 24) {x : Int} (hx : x = (v : Int)) : AMem W g b f nd (fun i => if i = t then v else fb i) (w.setCell ⟨b, t, none⟩ (.int .u8 x)) := by
  subst hx
  refine ⟨h.m.setOther hbg _, h.kp.setNew hb _, fun i hi => ?_, fun i => by rw [World.frozen?_setCell]; exact h.free i, by rw [World.size_setCell]; exact h.lt⟩
  by_cases e : i = t
  · subst e
    rw [World.cell?_setCell_same _ _ _ (h.buf i hi), if_pos rfl]
  · rw [World.cell?_setCell_other _ _ _ _ (ne_off e).symm, if_neg e]
    exact h.buf i hi

section
variable {W w : World} {g b : Nat} {f fb : Nat → Nat} {nd : Nat}
theorem AMem.drew (h : AMem W g b f nd fb w) : AMem W g b f nd fb w.drew := ⟨h.m.drew, h.kp.drew, h.buf, h.free, h.lt⟩
theorem AMem.putD (h : AMem W g b f nd fb w) (hbg : b ≠ g) {j v : Nat} (hj : j < 800) (hv : v < 256) : AMem W g b (fun i => if i = j then v else f i) nd fb (w.setCell ⟨g, j, none⟩ (.int .u8 v)) :=
  ⟨h.m.setD hj hv rfl, h.kp.set _ _, fun i hi => by rw [World.cell?_setCell_other _ _ _ _ (fun q => hbg (by have := congrArg Addr.block q; simpa using this.symm))]; exact h.buf i hi, fun i => by rw [World.frozen?_setCell]; exact h.free i, by rw [World.size_setCell]; exact h.lt⟩
theorem AMem.setNd (h : AMem W g b f nd fb w) (hbg : b ≠ g) (n : Nat) {x : Int} (hx : x = (n : Int)) : AMem W g b f n fb (w.setCell ⟨g, 800, none⟩ (.int .i64 x)) :=
  ⟨h.m.setNd n hx, h.kp.set _ _, fun i hi => by rw [World.cell?_setCell_other _ _ _ _ (fun q => hbg (by have := congrArg Addr.block q; simpa using this.symm))]; exact h.buf i hi, fun i => by rw [World.frozen?_setCell]; exact h.free i, by rw [World.size_setCell]; exact h.lt⟩
end

set_option maxRecDepth 100000 in
set_option maxHeartbeats 4000000 in
theorem assign_any (W : World) (g : Nat) (f0 : Nat → Nat) (h : Dm W g f0 0 0) (M : Nat) (hM0 : 0 < M) (hM : M < 9007199254740992) :
    Calls Tryd.prog 65 #[.pointer (some ⟨g, 0, none⟩), .int .u64 M] W (ShRes W g M 0 17 0 17) := by
  have hz : ∀ i, i < 24 → (W.alloc (.cells Lib.zeros24 108)).cell? ⟨W.heap.size, i, none⟩ = some (.int .u8 0) := fun i hi => by
    rw [World.cell?_alloc_new, Lib.zeros24_at _ hi]
  have hbg : W.heap.size ≠ g := by have := h.lt; omega
  have ha : AMem W g W.heap.size f0 0 (fun _ => 0) (W.alloc (.cells Lib.zeros24 108)) := ⟨h.still ((Still.refl W).alloc _), (Kp.refl g W).alloc _, hz, fun i => World.frozen?_alloc_new _ _ _ _, by simp⟩
  have HA := Lib.hid ha
  have HD := Lib.hid h
  clear hz ha h
  go_enter Tryd.func65, Tryd.ntmps65
  go_wp2_with fail
  go_loopg [1, 5] 24 (fun q vv nv1 wr => ∃ (n v : Nat) (fb : Nat → Nat), vv = .int .u64 v ∧ nv1 = .int .i64 n ∧ v = M / 10 ^ n ∧ n + q = 24 ∧ (0 < n → 10 ^ (n - 1) ≤ M) ∧ v < 9007199254740992 ∧ (∀ i, i < n → fb i = 48 + M / 10 ^ i % 10) ∧ AMem W g W.heap.size f0 0 fb wr)
  case atStart => exact ⟨0, M, _, rfl, rfl, by rw [Nat.pow_zero, Nat.div_one], by omega, fun h => by omega, hM, fun i hi => by omega, HA.out⟩
  case round =>
    obtain ⟨n, v, fb, rfl, rfl, hv, hnq, hlead, hv53, hfb, hA⟩ := hrel
    have HV := Lib.hid hv
    have HL := Lib.hid hlead
    have HFB := Lib.hid hfb
    have hv53I : (v : Int) < 9007199254740992 := by omega
    clear hlead hfb
    rcases Nat.eq_zero_or_pos v with hv0 | hv0
    · subst hv0
      have hMlt : M < 10 ^ n := by
        rcases Nat.lt_or_ge M (10 ^ n) with h | h
        · exact h
        · have := (Nat.le_div_iff_mul_le (Nat.pow_pos (by decide))).2 (show 1 * 10 ^ n ≤ M by omega)
          omega
      have hn1 : 1 ≤ n := by
        rcases Nat.eq_zero_or_pos n with h | h
        · subst h; rw [Nat.pow_zero] at hMlt; omega
        · exact h
      have hlead := HL.out hn1
      have hn16 : n ≤ 16 := by
        rcases Nat.lt_or_ge 16 n with h | h
        · have : 10 ^ 16 ≤ 10 ^ (n - 1) := Nat.pow_le_pow_right (by decide) (by omega)
          omega
        · exact h
      have c800 := hA.m.nd
      have f800 := hA.m.free 800
      have hlt := hA.m.lt
      have HAA := Lib.hid hA
      have HMlt := Lib.hid hMlt
      have HLead := Lib.hid hlead
      have hn16I : (n : Int) ≤ 16 := by omega
      have ha2 : AMem W g W.heap.size f0 0 fb (wr.setCell ⟨g, 800, none⟩ (.int .i64 0)) :=
        ⟨hA.m.setNd 0 rfl, hA.kp.set _ _, fun i hi => by rw [World.cell?_setCell_other _ _ _ _ (fun q => hbg (by have := congrArg Addr.block q; simpa using this.symm))]; exact hA.buf i hi, fun i => by rw [World.frozen?_setCell]; exact hA.free i, by rw [World.size_setCell]; exact hA.lt⟩
      have HA2 := Lib.hid ha2
      clear hv hMlt hlead hA ha2
      go_wp2_with fail
      go_loopg [5] n (fun q nv1 wr => ∃ (j : Nat) (r : Int) (f : Nat → Nat), nv1 = .int .i64 r ∧ r + 1 + j = n ∧ j + q = n ∧ (∀ i, i < j → f i = 48 + M / 10 ^ (n - 1 - i) % 10) ∧ AMem W g W.heap.size f j fb wr)
      case atStart => exact ⟨0, _, f0, rfl, by omega, by omega, fun i hi => by omega, HA2.out⟩
      case round =>
        obtain ⟨j, r, f, rfl, hrj, hjq, hf, hA⟩ := hrel
        have HF := Lib.hid hf
        have c800 := hA.m.nd
        have f800 := hA.m.free 800
        have hlt := hA.m.lt
        clear hf
        by_cases hr0 : 0 ≤ r
        · obtain ⟨t, rfl⟩ : ∃ t : Nat, r = (t : Int) := ⟨r.toNat, by omega⟩
          have ht24 : t < 24 := by omega
          have ht24I : (t : Int) < 24 := by omega
          have hj8 : j < 800 := by omega
          have hj8I : (j : Int) < 800 := by omega
          have hbt := hA.buf t ht24
          have hcj := hA.m.cell j hj8
          have fcj := hA.m.free j
          have hb256 : fb t < 256 := by rw [HFB.out t (by omega)]; omega
          have hft : fb t = 48 + M / 10 ^ (n - 1 - j) % 10 := by rw [show n - 1 - j = t by omega, HFB.out t (by omega)]
          obtain ⟨b, hb⟩ : ∃ b, b = fb t := ⟨_, rfl⟩
          rw [← hb] at hbt hb256 hft
          have HB := Lib.hid hb
          have HFT := Lib.hid hft
          have hput := (hA.putD hbg hj8 hb256).drew.setNd hbg (j + 1) (x := (j : Int) + 1) (by omega)
          have HPUT := Lib.hid hput
          have hneb : ∀ v, (wr.setCell ⟨g, j, none⟩ v).cell? ⟨g, 800, none⟩ = wr.cell? ⟨g, 800, none⟩ := fun v => World.cell?_setCell_other _ _ _ _ (ne_off (by omega))
          clear hb hft hput hA
          go_wp2_with fail
          go_region
          go_wp2_with fail
          go_roundg (gk - 1)
          case measure => omega
          case rel =>
            refine ⟨j + 1, (t : Int) - 1, _, rfl, by omega, by omega, ?_, HPUT.out⟩
            intro i hi
            by_cases e : i = j
            · rw [if_pos e, e]; exact HFT.out
            · rw [if_neg e]; exact HF.out i (by omega)
        · obtain rfl : n = j := by omega
          have hge : decide ((0 : Int) ≤ r) = false := decide_eq_false hr0
          have hf2 : ∀ i, i < n → f i = 48 + M / 10 ^ (n - 1 - i) % 10 := HF.out
          have hnv : nv (dl f n) = M := by
            have := nv_digits M n f HMlt.out hf2 n (Nat.le_refl _)
            rwa [Nat.sub_self, Nat.pow_zero, Nat.div_one] at this
          have hdg : Dg (dl f n) := by
            refine ⟨fun d hd => ?_, fun _ => by rw [dl_length, hnv]; exact HLead.out⟩
            obtain ⟨i, hi, rfl⟩ := List.mem_map.1 hd
            rw [hf2 i (List.mem_range.1 hi)]
            omega
          have hval : VN M 0 ((n : Int) - (n : Int)) = VC * nv (dl f n) := by
            rw [hnv, Int.sub_self]
            have := VN_mul 1 M 0 0
            rw [Nat.one_mul] at this
            rw [this, Nat.mul_comm]
            rfl
          have c801 := hA.m.dp
          have f801 := hA.m.free 801
          have hm2 := hA.m.setDp (n : Int)
          have hk2 := hA.kp.set 801 (.int .i64 (n : Int))
          have HM2 := Lib.hid hm2
          have HK2 := Lib.hid hk2
          have HDG := Lib.hid hdg
          have HVAL := Lib.hid hval
          clear hm2 hk2 hdg hval hnv hf2 hA hge
          go_wp2_with fail
          refine (trim_any _ g f n _ HM2.out (by omega)).mono ?_
          intro e w' htr
          have htr0 := htr.1
          subst htr0
          have hfin := Dd.trim (M := M) (E := 0) HK2.out HDG.out (by omega) (fun i hi => by rw [HF.out i hi]; omega) HVAL.out (by omega) (dpLo := 0) (dpHi := 17) (by omega) (by omega) htr
          have HFIN := Lib.hid hfin
          clear hfin htr
          go_wp2_with fail
          go_end0
          obtain ⟨h1, h2, f3, nd3, dp3, h3, h4, h5, h6⟩ := HFIN.out
          exact ⟨h1, h2, f3, nd3, dp3, h3, by omega, h5, h6⟩
    · have hn15 : n < 16 := by
        rcases Nat.lt_or_ge n 16 with h | h
        · exact h
        · exfalso
          have h1 : 10 ^ 16 ≤ 10 ^ n := Nat.pow_le_pow_right (by decide) h
          have h2 : M / 10 ^ n = 0 := Nat.div_eq_of_lt (by omega)
          omega
      have hle : 10 ^ n ≤ M := by
        rcases Nat.lt_or_ge M (10 ^ n) with h | h
        · rw [Nat.div_eq_of_lt h] at hv; omega
        · exact h
      have hv0I : (0 : Int) < v := by omega
      have hn24 : n < 24 := by omega
      have hn24I : (n : Int) < 24 := by omega
      obtain ⟨Q, hQ⟩ : ∃ Q, Q = v / 10 := ⟨_, rfl⟩
      obtain ⟨R, hR⟩ : ∃ R, R = v % 10 := ⟨_, rfl⟩
      have hQI : (v : Int) / 10 = (Q : Int) := by omega
      have hRI : (v : Int) - 10 * (Q : Int) = (R : Int) := by omega
      have hR10 : R < 10 := by omega
      have hR10I : (R : Int) < 10 := by omega
      have hQU : 10 * (Q : Int) < 18446744073709551616 := by omega
      have hbn := hA.buf n hn24
      have fbn := hA.free n
      have hlt := hA.m.lt
      have hlt2 := hA.lt
      have hput := hA.put (Nat.le_refl _) hbg (t := n) (v := R + 48) hn24 (x := (R : Int) + 48) (by omega)
      have HPUT := Lib.hid hput
      have hQ2 : Q = M / 10 ^ (n + 1) := by rw [hQ, hv, Nat.pow_succ, Nat.div_div_eq_div_mul]
      have hR2 : R = M / 10 ^ n % 10 := by rw [hR, hv]
      have HQ2 := Lib.hid hQ2
      have HR2 := Lib.hid hR2
      have hQ53 : Q < 9007199254740992 := by omega
      clear hv hQ hR hput hA hQ2 hR2
      go_wp2_with fail
      go_roundg (gk - 1)
      case measure => omega
      case rel =>
        refine ⟨n + 1, Q, _, rfl, by go_num, HQ2.out, by omega, fun _ => (by rw [Nat.add_sub_cancel]; exact hle), hQ53, ?_, HPUT.out⟩
        intro i hi
        by_cases e : i = n
        · rw [if_pos e, e, HR2.out]; omega
        · rw [if_neg e]; exact HFB.out i (by omega)

end Go.Proofs.YthfjpofbaeeafaaDoor
