/-
  The law FnSharpG: the text of the verb g with the flag #, read back.
-/
import Derived.Test.YthfjpofbaeeafaaDoorFI
import Derived.Test.YthfjpofbaeeafaaDoorGxL
namespace Go.Proofs.YthfjpofbaeeafaaDoor
open Go.RowKit

theorem shF_count (l : List UInt8) : (shF l).2.2 = ((l.filter (· != 46)).dropWhile (· == 48)).length := by
  have h : ∀ (l : List UInt8) (st : Bool × Bool × Nat), (l.foldl shStep st).2.2 = st.2.2 + (if st.2.1 then (l.filter (· != 46)).length else ((l.filter (· != 46)).dropWhile (· == 48)).length) := by
    intro l
    induction l with
    | nil => intro st; simp
    | cons c l ih =>
      rintro ⟨h, saw, n⟩
      rw [List.foldl_cons, ih]
      unfold shStep
      by_cases h1 : c = 46
      · subst h1; simp
      · rw [if_neg h1]
        have f1 : (c :: l).filter (· != 46) = c :: l.filter (· != 46) := by simp [h1]
        rw [f1]
        by_cases h2 : c = 48
        · subst h2
          cases saw
          · simp
          · simp; omega
        · rw [if_neg h2]
          cases saw
          · simp [h2]; omega
          · simp; omega
  have := h l (false, false, 0)
  simpa [shF] using this

theorem filter_digits (l : List UInt8) (h : isD l) : l.filter (· != 46) = l := by
  refine List.filter_eq_self.2 fun c hc => ?_
  have := h c hc
  have : c ≠ 46 := fun e => by rw [e] at this; exact absurd this.1 (by decide)
  simpa using this
theorem filter_mant (a fr : List UInt8) (p : Bool) (ha : isD a) (hf : isD fr) (hp : p = false → fr = []) : (mantOf a p fr).filter (· != 46) = a ++ fr := by
  unfold mantOf
  cases p
  · rw [if_neg (by decide), filter_digits a ha, hp rfl, List.append_nil]
  · rw [if_pos rfl, List.filter_append, filter_digits a ha]
    have : ((46 : UInt8) :: fr).filter (· != 46) = fr.filter (· != 46) := by simp
    rw [this, filter_digits fr hf]

theorem drop_lead (z : Nat) : ∀ (ds : List UInt8) (n : Nat), ds.length = z + n → (∀ j, j < z → ds[j]? = some 48) → (n = 0 ∨ ∃ c, ds[z]? = some c ∧ c ≠ 48) → (ds.dropWhile (· == 48)).length = n := by
  induction z with
  | zero =>
    intro ds n hl _ hs
    cases ds with
    | nil => simp at hl; simp; omega
    | cons c l =>
      rcases hs with h | ⟨x, hx, hne⟩
      · rw [h] at hl; simp at hl
      · simp at hx
        subst hx
        rw [List.dropWhile_cons_of_neg (by simpa using hne), hl, Nat.zero_add]
  | succ z ih =>
    intro ds n hl hld hs
    cases ds with
    | nil => simp at hl; omega
    | cons c l =>
      have h0 := hld 0 (by omega)
      simp at h0
      subst h0
      rw [List.dropWhile_cons_of_pos (by decide)]
      refine ih l n (by simp at hl; omega) (fun j hj => ?_) ?_
      · have := hld (j + 1) (by omega)
        simpa using this
      · simpa using hs

/-- All that the law asks. -/
theorem sg_law (wide : Bool) (bits P : Nat) (hp1 : 1 ≤ P) (hp : P ≤ 40) (K : Int) (hK : fLow wide bits ≠ 0 → Dec (fLow wide bits) (fPow wide bits) K) (h0 : -400 ≤ K) (h1 : K ≤ 400) (hM : fLow wide bits ≠ 0) :
    ∃ (a fr ex : List UInt8) (p : Bool) (T ds : List UInt8) (pw pt xe : Int) (z : Nat), gTextOf false wide bits P K = sgn (fNeg wide bits) ++ (mantOf a p fr ++ ex) ∧ isD a ∧ isD fr ∧ 0 < a.length ∧ a.length ≤ 200 ∧ fr.length ≤ 200 ∧
      (ex = [] ∨ ∃ (V' g : UInt8) (l : List UInt8), ex = V' :: g :: l ∧ (V' = 101 ∨ V' = 69) ∧ (g = 45 ∨ g = 43) ∧ isD l ∧ l.length ≤ 10) ∧
      T = sgn (fNeg wide bits) ++ shp P (mantOf a p fr) ex ∧ ds.length = z + P ∧ z ≤ 500 ∧ (∀ j, j < z → ds[j]? = some 48) ∧ (∃ c, ds[z]? = some c ∧ c ≠ 48) ∧ 0 ≤ pt ∧
      (∀ w, Calls Tryd.prog 14 #[.string ⟨T.toArray⟩] w (RdRes w (fNeg wide bits) ds pw pt xe)) ∧
      (∀ w (ba : ByteArray), ba.data.toList = ds.drop z → Calls Tryd.prog 15 #[.agg #[.bool (fNeg wide bits), .string ba, .int .i64 pw, .int .i64 pt, .int .i64 xe], fAgg wide bits] w (NeaRes w true)) := by
  have hp0 := pow_lt wide bits
  have hl := low_lt wide bits
  obtain ⟨a, fr, ex, p, X, z, n, he2, ha, hf, ha0, ha1, hfr1, hpf, hex, hX, hG, hz0, hz1, hn⟩ := g_all (fNeg wide bits) (exV false) (fLow wide bits) (fPow wide bits) K P hp0.1 hK h0 h1 hp1 (by omega)
  have hn1 := hz1 hM
  obtain ⟨x1, x2, x3, x4⟩ := expD_all X (by omega)
  have hnear := hn (P - n) rfl hM
  have hnP := hG.most
  have hex2 : ex = [] ∨ ∃ (V' g : UInt8) (l : List UInt8), ex = V' :: g :: l ∧ (V' = 101 ∨ V' = 69) ∧ (g = 45 ∨ g = 43) ∧ isD l ∧ l.length ≤ 10 := by
    rcases hex with ⟨h, _⟩ | h
    · exact Or.inl h
    · exact Or.inr ⟨_, _, _, h, Or.inl rfl, by split <;> simp, x1, by omega⟩
  have hexl : ex.length ≤ 5 := by
    rcases hex with ⟨h, _⟩ | h
    · rw [h]; decide
    · rw [h, List.length_cons, List.length_cons]; omega
  -- the count of digits
  have hcnt : (shF (mantOf a p fr)).2.2 = n := by
    rw [shF_count, filter_mant a fr p ha hf hpf]
    exact drop_lead z (a ++ fr) n hG.len hG.lead hG.stop
  have h48 : ¬ mantOf a p fr = [48] := fun e => by
    have h2 := filter_mant a fr p ha hf hpf
    rw [e] at h2
    have h3 : a ++ fr = [48] := by rw [← h2]; rfl
    have hlen := hG.len
    rw [h3] at hlen
    have hz : z = 0 := by simp at hlen; omega
    rcases hG.stop with h | ⟨c, hc, hne⟩
    · omega
    · rw [h3, hz] at hc
      simp at hc
      exact hne hc.symm
  have hZ : shZ (P : Int) (mantOf a p fr) = P - n := by
    unfold shZ
    rw [hcnt, if_neg (fun e => h48 e.2)]
    omega
  obtain ⟨Z, hZd⟩ : ∃ Z, Z = P - n := ⟨_, rfl⟩
  rw [← hZd] at hZ hnear
  have hhas : (shF (mantOf a p fr)).1 = p := by
    rw [shF_has]
    cases p
    · exact decide_eq_false (fun h => by have := ha 46 h; exact absurd this.1 (by decide))
    · exact decide_eq_true (by unfold mantOf; simp)
  have hshp : shp P (mantOf a p fr) ex = mantOf a true (fr ++ List.replicate Z 48) ++ ex := by
    unfold shp
    rw [hZ, hhas]
    cases p
    · rw [if_neg (by decide), hpf rfl]
      unfold mantOf
      simp
    · rw [if_pos rfl]
      unfold mantOf
      simp
  have hf2 : isD (fr ++ List.replicate Z 48) := hf.append (isD_zeros _)
  have hfl2 : (fr ++ List.replicate Z 48).length = fr.length + Z := by rw [List.length_append, List.length_replicate]
  have hsl := sgn_len (fNeg wide bits)
  have hml : (mantOf a true (fr ++ List.replicate Z 48)).length ≤ 600 := by
    unfold mantOf
    rw [if_pos rfl, List.length_append, List.length_cons, hfl2]; omega
  have hF := mantOf_rdF a (fr ++ List.replicate Z 48) true ha hf2 (fun h => by cases h)
  have hH := mantOf_head a (fr ++ List.replicate Z 48) true ha ha0
  rw [if_pos rfl, hfl2] at hF
  obtain ⟨xe, hxe⟩ : ∃ xe : Int, xe = if ex = [] then 0 else ((expD X).length : Int) := ⟨_, rfl⟩
  have hmx : max 0 (((fr.length + Z : Nat) : Int)) = ((fr.length + Z : Nat) : Int) := by omega
  have hlen : (a ++ (fr ++ List.replicate Z 48)).length = z + P := by
    rw [← List.append_assoc, List.length_append, List.length_replicate, hG.len]
    omega
  have hlead : ∀ j, j < z → (a ++ (fr ++ List.replicate Z 48))[j]? = some 48 := fun j hj => by
    rw [← List.append_assoc, List.getElem?_append_left (by rw [hG.len]; omega)]
    exact hG.lead j hj
  have hstop : ∃ c, (a ++ (fr ++ List.replicate Z 48))[z]? = some c ∧ c ≠ 48 := by
    rcases hG.stop with h | ⟨c, hc, hne⟩
    · omega
    · refine ⟨c, ?_, hne⟩
      rw [← List.append_assoc, List.getElem?_append_left (by rw [hG.len]; omega)]
      exact hc
  have hdrop : a ++ (fr ++ List.replicate Z 48) = List.replicate z 48 ++ (a ++ (fr ++ List.replicate Z 48)).drop z := by
    have h2 : (a ++ (fr ++ List.replicate Z 48)).take z = List.replicate z 48 := by
      refine List.ext_getElem? fun j => ?_
      by_cases hj : j < z
      · rw [List.getElem?_take, if_pos hj, hlead j hj, List.getElem?_replicate, if_pos hj]
      · rw [List.getElem?_take, if_neg hj, List.getElem?_replicate, if_neg hj]
    rw [← h2, List.take_append_drop]
  have hlz := hG.len
  rw [List.length_append] at hlz
  refine ⟨a, fr, ex, p, sgn (fNeg wide bits) ++ shp P (mantOf a p fr) ex, a ++ (fr ++ List.replicate Z 48), -((fr.length + Z : Nat) : Int) + X, ((fr.length + Z : Nat) : Int), xe, z, he2, ha, hf, ha0, ha1, hfr1, hex2, rfl, hlen, by omega, hlead, hstop, by omega, fun w => ?_, fun w ba hba => ?_⟩
  · rw [hshp]
    have := rd_any w ⟨(sgn (fNeg wide bits) ++ (mantOf a true (fr ++ List.replicate Z 48) ++ ex)).toArray⟩ (sgn (fNeg wide bits)) (mantOf a true (fr ++ List.replicate Z 48)) ex rfl (by rw [size_list, List.length_append, List.length_append]; omega)
      (by cases fNeg wide bits; exact Or.inl rfl; exact Or.inr ⟨45, rfl, Or.inl rfl⟩) hH.1 hH.2 (mantOf_ok a _ _ ha hf2) (fNeg wide bits) (by cases fNeg wide bits <;> rfl) (-((fr.length + Z : Nat) : Int) + X) xe
      (by
        rw [hF]
        rcases hex with ⟨h, hx⟩ | h
        · exact Or.inl ⟨h, by rw [hmx, hx]; omega, by rw [hxe, if_pos h]⟩
        · refine Or.inr ⟨exV false, _, _, h, by decide, by split <;> decide, by omega, by omega, x1, ?_, by rw [hxe, if_neg (by rw [h]; simp)]⟩
          rw [hmx, x4]
          by_cases hx : X < 0
          · rw [if_pos hx, if_pos rfl]; omega
          · rw [if_neg hx, if_neg (by decide)]; omega) (by rw [hF]; intro h; have := hG.pos; rw [← List.append_assoc] at h; rw [(List.append_eq_nil_iff.1 h).1] at this; simp at this)
    rw [hF] at this
    exact this
  · have hpwe : -(fr.length : Int) + X - Z = -((fr.length + Z : Nat) : Int) + X := by omega
    rw [hpwe, ← dv_tail, List.append_assoc, hdrop, dv_zeros] at hnear
    have hdd : isD ((a ++ (fr ++ List.replicate Z 48)).drop z) := (ha.append hf2).drop z
    obtain ⟨L, hL⟩ : ∃ L : List UInt8, L = (a ++ (fr ++ List.replicate Z 48)).drop z := ⟨_, rfl⟩
    rw [← hL] at hnear hba hdd
    have := nearest_any w (fNeg wide bits) (fNeg wide bits) (fEdge wide bits) ba L hba hdd (by rw [hL, List.length_drop, hlen]; omega) (-((fr.length + Z : Nat) : Int) + X) ((fr.length + Z : Nat) : Int) xe (fPow wide bits) (fLow wide bits) (by omega) (by omega) (by omega) (by omega) (by omega)
    rw [hnear] at this
    have e : (fNeg wide bits == fNeg wide bits && true) = true := by simp
    rw [e] at this
    exact this

end Go.Proofs.YthfjpofbaeeafaaDoor
