/-
  The shortest decimal: what the law asks of a text, and that the texts of all four verbs have it.
-/
import Derived.Test.YthfjpofbaeeafaaDoorShT
import Derived.Test.YthfjpofbaeeafaaDoorShS
import Derived.Test.YthfjpofbaeeafaaDoorId
import Derived.Test.YthfjpofbaeeafaaDoorES
namespace Go.Proofs.YthfjpofbaeeafaaDoor
open Go.RowKit

/-- What the law asks of a text. -/
structure ShOk (neg : Bool) (lo : Nat) (fp : Int) (ed : Bool) (T : List UInt8) (ds : List UInt8) (pw pt xe : Int) (z k : Nat) : Prop where
  num : NumText T
  len : T.length ≤ 1000
  zk : z + ds.length + k ≤ 440
  p0 : -1500 ≤ pw
  p1 : pw ≤ 1500
  d18 : ds.length ≤ 18
  isd : isD ds
  nil : ds = [] → z = 1 ∧ k = 0
  head : ds ≠ [] → ∃ c l, ds = c :: l ∧ c ≠ 48
  last : ds ≠ [] → ∃ l c, ds = l ++ [c] ∧ c ≠ 48
  read : ∀ w, Calls Tryd.prog 14 #[.string ⟨T.toArray⟩] w (RdRes w neg ((List.replicate z 48 ++ ds) ++ List.replicate k 48) pw pt xe)
  yes : ∀ w (ba : ByteArray), ba.data.toList = (List.replicate z 48 ++ ds) ++ List.replicate k 48 → Calls Tryd.prog 21 #[.agg #[.bool neg, .string ba, .int .i64 pw, .int .i64 pt, .int .i64 xe], .agg #[.bool neg, .int .u64 lo, .int .i64 fp, .bool ed]] w (NeaRes w true)
  ten : 2 ≤ ds.length → 10 ≤ decVal ds
  no : 2 ≤ ds.length → ∀ y ∈ shN (decVal ds) 4, ∀ w (ba : ByteArray), ba.data.toList = Lib.decDigits y → Calls Tryd.prog 21 #[.agg #[.bool neg, .string ba, .int .i64 (pw + k + 1), .int .i64 0, .int .i64 0], .agg #[.bool neg, .int .u64 lo, .int .i64 fp, .bool ed]] w (NeaRes w false)

theorem ident_shift (n L : Nat) (P pw : Int) (edge : Bool) (k : Nat) :
    identB L edge (n * 10 ^ k * 10 ^ pw.toNat * 2 ^ (-P).toNat) (L * 2 ^ P.toNat * 10 ^ (-pw).toNat) (2 ^ P.toNat * 10 ^ (-pw).toNat) =
      identB L edge (n * 10 ^ (pw + k).toNat * 2 ^ (-P).toNat) (L * 2 ^ P.toNat * 10 ^ (-(pw + k)).toNat) (2 ^ P.toNat * 10 ^ (-(pw + k)).toNat) := by
  have e : 10 ^ k * 10 ^ pw.toNat * 10 ^ (-(pw + k)).toNat = 10 ^ (pw + k).toNat * 10 ^ (-pw).toNat := by
    rw [← Nat.pow_add, ← Nat.pow_add, ← Nat.pow_add]
    congr 1
    omega
  rw [← identB_scale L edge _ _ _ (10 ^ (-(pw + k)).toNat) (Nat.pow_pos (by decide)), ← identB_scale L edge (n * 10 ^ (pw + k).toNat * _) _ _ (10 ^ (-pw).toNat) (Nat.pow_pos (by decide))]
  generalize 10 ^ (-(pw + k)).toNat = a at *
  generalize 10 ^ (pw + k).toNat = b at *
  generalize 10 ^ (-pw).toNat = c at *
  generalize 10 ^ pw.toNat = d at *
  generalize 10 ^ k = f at *
  generalize 2 ^ (-P).toNat = u at *
  generalize 2 ^ P.toNat = v at *
  have e1 : n * f * d * u * a = n * b * u * c := by
    calc n * f * d * u * a = n * (f * d * a) * u := by ac_rfl
      _ = n * b * u * c := by rw [e]; ac_rfl
  have e2 : L * v * c * a = L * v * a * c := by ac_rfl
  have e3 : v * c * a = v * a * c := by ac_rfl
  rw [e1, e2, e3]

theorem shN_le (n k y : Nat) (h : y ∈ shN n k) : y ≤ n / 10 + k := by
  simp only [shN, List.mem_map, List.mem_range] at h
  obtain ⟨i, hi, rfl⟩ := h
  omega

theorem cutD_ends (u : Nat) (h : 0 < u) : ∃ l c, cutD u = l ++ [c] ∧ c ≠ 48 := by
  unfold cutD strip
  have hp := cutD_pos u h
  unfold cutD strip at hp
  rw [List.length_reverse] at hp
  cases hq : (Lib.decDigits u).reverse.dropWhile (· == 48) with
  | nil => rw [hq] at hp; simp at hp
  | cons c m =>
    refine ⟨m.reverse, c, by simp, fun e => ?_⟩
    have := List.head?_dropWhile_not (· == (48 : UInt8)) (Lib.decDigits u).reverse
    rw [hq, e] at this
    simp at this

theorem sh_ok (wide : Bool) (bits : Nat) (bf : List UInt8 → Int → Bool) (X : UInt8) (hX : X = 101 ∨ X = 69) :
    ∃ (ds : List UInt8) (pw pt xe : Int) (z k : Nat), ShOk (fNeg wide bits) (fLow wide bits) (fPow wide bits) (fEdge wide bits)
      (shTx (fun neg ds dp => shT (bf ds dp) X neg ds dp) (fNeg wide bits) (fLow wide bits) (fPow wide bits) (fEdge wide bits)) ds pw pt xe z k := by
  obtain ⟨hP0, hP1⟩ := pow_lt wide bits
  have hlow := low_lt wide bits
  have hev := edge_even wide bits
  obtain ⟨neg, hneg⟩ : ∃ neg, neg = fNeg wide bits := ⟨_, rfl⟩
  obtain ⟨L, hL⟩ : ∃ L, L = fLow wide bits := ⟨_, rfl⟩
  obtain ⟨P, hP⟩ : ∃ P, P = fPow wide bits := ⟨_, rfl⟩
  obtain ⟨ed, hed⟩ : ∃ ed, ed = fEdge wide bits := ⟨_, rfl⟩
  rw [← hneg, ← hL, ← hP, ← hed]
  rw [← hL] at hlow hev
  rw [← hP] at hP0 hP1
  rw [← hed] at hev
  clear hneg hL hP hed
  have hlo9 : L < 9007199254740992 := by omega
  unfold shTx
  by_cases hL0 : L = 0
  · rw [if_pos hL0]
    obtain ⟨n1, n2, pw, pt, xe, z, k, zk, _, hz, p0, p1, hrd⟩ := shT_read (bf [] 0) X hX neg [] 0 isD_nil (by decide) (by decide) (by decide) (fun _ => rfl)
    refine ⟨[], pw, pt, xe, z, k, n1, n2, zk, p0, p1, by decide, isD_nil, hz, fun h => absurd rfl h, fun h => absurd rfl h, hrd, fun w ba hba => ?_, fun h => absurd h (by decide), fun h => absurd h (by decide)⟩
    obtain ⟨rfl, rfl⟩ := hz rfl
    have := ident_any w neg ed ba _ hba (fun c hc => by rw [List.mem_singleton.1 hc]; decide) (by decide) pw pt xe P L hlo9 p0 p1 (by omega) (by omega)
    subst hL0
    have e0 : decVal ((List.replicate 1 48 ++ []) ++ List.replicate 0 48) = 0 := rfl
    rw [e0] at this
    have e : ∀ G, identB 0 ed (0 * 10 ^ pw.toNat * 2 ^ (-P).toNat) (0 * 2 ^ P.toNat * 10 ^ (-pw).toNat) G = true := fun G => by
      simp [identB]
    rw [e] at this
    exact this
  · rw [if_neg hL0]
    have hL1 : 1 ≤ L := by omega
    obtain ⟨i1, i2, i3, i4, i5⟩ := shRes_law L P ed hL1 hlow (by omega) (by omega) hev
    obtain ⟨s1, s2⟩ := shP_range P ed (by omega) (by omega)
    obtain ⟨d, hd⟩ : ∃ d, d = (shRes L P ed).1 := ⟨_, rfl⟩
    obtain ⟨r, hr⟩ : ∃ r, r = (shRes L P ed).2 := ⟨_, rfl⟩
    rw [← hd, ← hr] at i1 i4 i5 ⊢
    rw [← hd] at i3
    rw [← hr] at i2
    clear hd hr
    have hd18 : d < 10 ^ 18 := Nat.lt_of_le_of_lt (Nat.le_mul_of_pos_right _ (Nat.pow_pos (by decide))) i4
    have hn18 := nDigits_le 18 d hd18 (by decide)
    have hn1 := nDigits_ge 0 d (by rw [Nat.pow_zero]; exact i3)
    obtain ⟨t, ht⟩ := cutD_tail d
    have hcl := cutD_le d
    have hcp := cutD_pos d i3
    have hnl : (cutD d).length + t = Lib.nDigits d := by
      have := congrArg List.length ht
      rw [Lib.decDigits_length, List.length_append, List.length_replicate] at this
      omega
    have hdv : d = decVal (cutD d) * 10 ^ t := by
      have := congrArg decVal ht
      rw [dv_dec, dv_tail] at this
      exact this
    have hpt : pt d (shP P ed - r) = Lib.nDigits d - (shP P ed - r) := by unfold pt; rw [if_neg (by omega)]
    obtain ⟨c0, l0, hc0, hc1⟩ := cutD_head d i3
    obtain ⟨l1, c1, hc2, hc3⟩ := cutD_ends d i3
    have hisd := cutD_isD d
    obtain ⟨ds, hds⟩ : ∃ ds, ds = cutD d := ⟨_, rfl⟩
    rw [← hds] at hcl hcp hnl hdv hc0 hc2 hisd ⊢
    have hne : ds ≠ [] := by rw [hc0]; exact List.cons_ne_nil _ _
    obtain ⟨n1, n2, pw, pt', xe, z, k, zk, hpw, hz, p0, p1, hrd⟩ := shT_read (bf ds (pt d (shP P ed - r))) X hX neg ds (pt d (shP P ed - r)) hisd (by omega) (by omega) (by omega) (fun h => absurd h hne)
    have hpwk := hpw hne
    rw [hpt] at hpwk
    refine ⟨ds, pw, pt', xe, z, k, n1, n2, zk, p0, p1, by omega, hisd, hz, fun _ => ⟨c0, l0, hc0, hc1⟩, fun _ => ⟨l1, c1, hc2, hc3⟩, hrd, fun w ba hba => ?_, fun h2 => ?_, fun h2 y hy w ba hba => ?_⟩
    · have := ident_any w neg ed ba _ hba (((isD_zeros _).append hisd).append (isD_zeros _)) (by rw [List.length_append, List.length_append, List.length_replicate, List.length_replicate]; omega) pw pt' xe P L hlo9 p0 p1 (by omega) (by omega)
      rw [dv_tail, dv_zeros, ident_shift] at this
      have hi := (ident_law (decVal ds) L P (pw + k) ed (t + r) (by omega) (by omega) hL1 (by omega) (by omega)).2 (by
        rw [Nat.pow_add, ← Nat.mul_assoc, ← hdv]
        exact i1)
      rw [hi] at this
      exact this
    · refine Nat.le_of_not_lt fun hlt => ?_
      have h3 : d < 10 ^ (t + 1) := by
        rw [hdv, Nat.pow_succ, Nat.mul_comm (10 ^ t)]
        exact Nat.mul_lt_mul_of_pos_right hlt (Nat.pow_pos (by decide))
      have h4 := nDigits_le (t + 1) d h3 (by omega)
      omega
    · have hyl := shN_le _ _ _ hy
      have hn10 : decVal ds ≤ d := by rw [hdv]; exact Nat.le_mul_of_pos_right _ (Nat.pow_pos (by decide))
      have hyn := nDigits_le 18 y (by omega) (by decide)
      have := ident_any w neg ed ba _ hba (isD_dec y) (by rw [Lib.decDigits_length]; omega) (pw + k + 1) 0 0 P L hlo9 (by omega) (by omega) (by omega) (by omega)
      rw [dv_dec] at this
      have hi : identB L ed (y * 10 ^ (pw + k + 1).toNat * 2 ^ (-P).toNat) (L * 2 ^ P.toNat * 10 ^ (-(pw + k + 1)).toNat) (2 ^ P.toNat * 10 ^ (-(pw + k + 1)).toNat) = false := by
        refine Bool.eq_false_iff.2 fun ht => ?_
        have hin := (ident_law y L P (pw + k + 1) ed (t + r + 1) (by omega) (by omega) hL1 (by omega) (by omega)).1 ht
        have e1 : y * 10 ^ (t + r + 1) = 10 * (y * 10 ^ (t + r)) := by rw [Nat.pow_succ]; ac_rfl
        rw [e1] at hin
        obtain ⟨hr1, hyd⟩ := i5 _ hin
        subst hr1
        have e2 : y * 10 ^ (t + 1) = y * 10 * 10 ^ t := by rw [Nat.pow_succ]; ac_rfl
        rw [e2] at hyd
        have e3 : y * 10 = decVal ds := Nat.eq_of_mul_eq_mul_right (Nat.pow_pos (by decide)) (hyd.trans hdv)
        have hc := hisd c1 (by rw [hc2]; simp)
        rw [hc2, decVal_snoc] at e3
        have hc4 : c1.toNat ≠ 48 := fun e => hc3 (UInt8.toNat_inj.1 e)
        omega
      rw [hi] at this
      exact this

end Go.Proofs.YthfjpofbaeeafaaDoor
