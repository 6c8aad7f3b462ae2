/-
  setDigits: a number's digits are laid, the noughts at their end are not counted.
-/
import Derived.Test.YthfjpofbaeeafaaDoorFW
import Derived.Test.YthfjpofbaeeafaaDoorEL
namespace Go.Proofs.YthfjpofbaeeafaaDoor
open Go.RowKit

theorem strip_take_zero (l : List UInt8) (j : Nat) (hj : j < l.length) (h : l[j] = 48) : strip (l.take (j + 1)) = strip (l.take j) := by
  rw [List.take_succ_eq_append_getElem hj, h, strip_snoc_zero]
theorem strip_take_end (l : List UInt8) (j : Nat) (hj : j < l.length) (h : l[j] ≠ 48) : strip (l.take (j + 1)) = l.take (j + 1) := by
  rw [List.take_succ_eq_append_getElem hj, strip_snoc _ _ h]

def SetRes (W : World) (g N : Nat) (d : Nat) (p : Int) (e : Ending) (w' : World) : Prop :=
  e = .returned (.tuple #[.int .i64 ((Lib.nDigits d : Int) + p), .int .i64 ((cutD d).length : Nat)]) ∧ W.keptBut w' (fun q => q.block = g) ∧
    ∃ ys, ys.length = N ∧ Row w' (.slice (some ⟨g, 0, none⟩) N N) ys g 0 N ∧ ys.take (cutD d).length = cutD d

set_option maxRecDepth 100000 in
set_option maxHeartbeats 1000000 in
theorem setDigits_any (g N : Nat) (xs : List UInt8) (W : World) (hr : Row W (.slice (some ⟨g, 0, none⟩) N N) xs g 0 N) (hN : xs.length = N) (hN32 : N ≤ 32) (d : Nat) (hd : U64 d) (nd : Nat) (hnd : Lib.nDigits d = nd) (hndN : nd ≤ N) (p : Int) (hp0 : -2000 < p) (hp1 : p < 2000) :
    Calls Tryd.prog 61 #[.slice (some ⟨g, 0, none⟩) N N, .int .u64 d, .int .i64 p, .int .i64 nd] W (SetRes W g N d p) := by
  have hsub := hr.sub 0 nd (by omega) (by omega)
  rw [Nat.sub_zero, Nat.sub_zero, Nat.add_zero] at hsub
  have hfb := formatBase10_any g 0 N d nd _ W hsub (by simp; omega) (by rw [← hnd]; exact Lib.lt_pow_nDigits d) hd (by omega)
  obtain ⟨l, hl⟩ : ∃ l, l = Lib.decDigits d := ⟨_, rfl⟩
  have hdg : digs d nd = l := by rw [hl, ← hnd, decDigits_digs]
  rw [hdg] at hfb
  have hll : l.length = nd := by rw [hl, Lib.decDigits_length, hnd]
  have hcut : cutD d = strip l := by rw [hl]; rfl
  have HC := Lib.hid hcut
  have HND := Lib.hid hnd
  have hNi : (nd : Int) ≤ N := by omega
  have hN2 : (N : Int) ≤ 32 := by omega
  clear hcut hl hdg hnd
  have hgl : g < W.heap.size ∨ N = 0 := by
    rcases Nat.eq_zero_or_pos N with h | h
    · exact Or.inr h
    · exact Or.inl (hr.lt h)
  go_enter Tryd.func61, Tryd.ntmps61
  go_wp2_with fail
  refine hfb.mono ?_
  rintro e w1 ⟨rfl, hrow, hk⟩
  have hfull : Row w1 (.slice (some ⟨g, 0, none⟩) N N) (l ++ xs.drop nd) g 0 N := by
    have hlen : (l ++ xs.drop nd).length = N := by rw [List.length_append, List.length_drop]; omega
    refine ⟨by rw [hlen], by omega, hr.max, fun i hi => ?_, fun j hj => ?_⟩
    · rw [bc_append]
      rcases Nat.lt_or_ge i nd with h | h
      · rw [hrow.get i (by omega), List.getElem?_append_left (by rw [bc_length]; omega)]
      · rw [List.getElem?_append_right (by rw [bc_length]; omega), bc_length]
        have hgl' : g < W.heap.size := by
          rcases hgl with h1 | h1
          · exact h1
          · rw [hlen] at hi; omega
        rw [hk.cell hgl' (fun ⟨j, h1, h2⟩ => by simp only [MemPlace.cell.injEq] at h2; omega), hr.get i (by omega)]
        unfold bc
        rw [List.map_drop, List.getElem?_drop]
        congr 1
        omega
    · exact hrow.there j hj
  have hkk : W.keptBut w1 (fun q => q.block = g) := World.keptBut_mono (fun q ⟨j, _, hq⟩ => by rw [hq]; rfl) hk
  have hcell : ∀ j (hj : j < l.length), w1.cell? ⟨g, j, none⟩ = some (.int .u8 (l[j].toNat : Int)) := fun j hj => by
    have h1 := hrow.at j (by omega)
    rwa [Nat.zero_add] at h1
  have HKK := Lib.hid hkk
  have HFULL := Lib.hid hfull
  clear hr hsub hrow hk hfull hkk
  go_wp2_with fail
  go_loopg [3] nd (fun r v wr => ∃ j : Nat, v = .int .i64 j ∧ j ≤ nd ∧ j ≤ r ∧ strip (l.take j) = strip l ∧ w1 = wr)
  case atStart => exact ⟨nd, rfl, Nat.le_refl _, Nat.le_refl _, by rw [← hll, List.take_length], rfl⟩
  case round =>
    obtain ⟨j, rfl, hj1, hj2, hst, rfl⟩ := hrel
    have HST := Lib.hid hst
    clear hst
    have fin : ∀ j, strip (l.take j) = strip l → l.take j = strip (l.take j) → j ≤ nd → SetRes W g N d p (.returned (.tuple #[.int .i64 ((nd : Int) + p), .int .i64 (j : Nat)])) w1 := by
      intro j h1 h2 h3
      have e1 : cutD d = l.take j := by rw [HC.out, ← h1, ← h2]
      have e2 : (cutD d).length = j := by rw [e1, List.length_take]; omega
      refine ⟨by rw [e2, HND.out], HKK.out, _, ?_, HFULL.out, ?_⟩
      · have := HFULL.out.val
        simp only [Value.slice.injEq] at this
        exact this.2.1.symm
      · rw [e2, e1, List.take_append_of_le_length (by omega)]
    rcases Nat.eq_zero_or_pos j with h0 | h0
    · subst h0
      go_wp2_with fail
      have hf := fin 0 HST.out (by simp [strip_nil]) (by omega)
      exact bodyPost_ret (v := .tuple #[.int .i64 ((nd : Int) + p), .int .i64 ((0 : Nat) : Int)]) (by simp [results, Tryd.results61, go_sem]) rfl hf
    · obtain ⟨t, rfl⟩ : ∃ t, j = t + 1 := ⟨j - 1, by omega⟩
      have hc1 := hcell t (by omega)
      have ht1 : ((t + 1 : Nat) : Int) - 1 = (t : Int) := by omega
      have ht2 : (t : Int) < N := by omega
      have ht3 : t < N := by omega
      have ht4 : t < l.length := by omega
      obtain ⟨b, hb⟩ : ∃ b, b = l[t]'ht4 := ⟨_, rfl⟩
      rw [← hb] at hc1
      have HB := Lib.hid hb
      clear hb
      by_cases h48 : b = 48
      · have h48' : (((b.toNat : Int)) == 48) = true := by rw [h48]; rfl
        go_wp2_with fail
        go_roundg (gk - 1)
        case measure => omega
        case rel => exact ⟨t, by go_num, by omega, by omega, by rw [← strip_take_zero l t ht4 (by rw [← HB.out, h48])]; exact HST.out, rfl⟩
      · have h48' : (((b.toNat : Int)) == 48) = false := by
          have : b.toNat ≠ 48 := fun q => h48 (UInt8.toNat_inj.1 q)
          simp; omega
        go_wp2_with fail
        have hf := fin (t + 1) HST.out (by rw [strip_take_end l t ht4 (by rw [← HB.out]; exact h48)]) (by omega)
        exact bodyPost_ret (v := .tuple #[.int .i64 ((nd : Int) + p), .int .i64 ((t + 1 : Nat) : Int)]) (by simp [results, Tryd.results61, go_sem]) rfl hf

end Go.Proofs.YthfjpofbaeeafaaDoor
