/-
  The law FnG: what the program answers for the verbs g and G.
-/
import Derived.Test.YthfjpofbaeeafaaDoorLX
import Derived.Test.YthfjpofbaeeafaaDoorFGe
import Derived.Test.YthfjpofbaeeafaaDoorFGE
import Derived.Test.YthfjpofbaeeafaaDoorFGf
import Derived.Test.YthfjpofbaeeafaaDoorFGF
import Derived.Test.YthfjpofbaeeafaaDoorFTg64
import Derived.Test.YthfjpofbaeeafaaDoorFTg32
import Derived.Test.YthfjpofbaeeafaaDoorFTgU64
import Derived.Test.YthfjpofbaeeafaaDoorFTgU32
namespace Go.Proofs.YthfjpofbaeeafaaDoor
open Go.RowKit

/-- For the verbs g, G. -/
def gText (neg : Bool) (V : UInt8) (ds : List UInt8) (dp : Int) (prec : Nat) : List UInt8 :=
  if gE false dp ds.length prec then eText neg V ds dp (min prec ds.length - 1) else fText neg ds dp ((if dp < prec then (ds.length : Int) else prec) - dp).toNat

theorem efg_g (prec : Nat) (hp1 : 1 ≤ prec) (hp : prec ≤ 100) : EFG 103 false prec (fun neg ds dp => gText neg 101 ds dp prec) := by
  intro neg sV bs nd dp gs os cs v olds g o c w h1 h2 h3 h4 h5 h6 h7 h8 h9 h10
  have hl : (bs.take nd).length = nd := by rw [List.length_take]; omega
  show Calls _ _ _ _ (AppRes w g o c olds (gText neg 101 (bs.take nd) dp prec))
  unfold gText
  rw [hl]
  cases hg : gE false dp nd prec
  · exact fmtG_f neg false sV bs nd prec dp gs os cs h1 h2 h3 (by omega) (by omega) v olds g o c w h5 h6 h7 h8 h9 h10 hg
  · exact fmtG_e neg false sV bs nd prec dp gs os cs h1 h2 h3 (by omega) hp1 (by omega) v olds g o c w h5 h6 h7 h8 h9 h10 hg
theorem efg_G (prec : Nat) (hp1 : 1 ≤ prec) (hp : prec ≤ 100) : EFG 71 false prec (fun neg ds dp => gText neg 69 ds dp prec) := by
  intro neg sV bs nd dp gs os cs v olds g o c w h1 h2 h3 h4 h5 h6 h7 h8 h9 h10
  have hl : (bs.take nd).length = nd := by rw [List.length_take]; omega
  show Calls _ _ _ _ (AppRes w g o c olds (gText neg 69 (bs.take nd) dp prec))
  unfold gText
  rw [hl]
  cases hg : gE false dp nd prec
  · exact fmtG_F neg false sV bs nd prec dp gs os cs h1 h2 h3 (by omega) (by omega) v olds g o c w h5 h6 h7 h8 h9 h10 hg
  · exact fmtG_E neg false sV bs nd prec dp gs os cs h1 h2 h3 (by omega) hp1 (by omega) v olds g o c w h5 h6 h7 h8 h9 h10 hg

/-- The text. -/
def gTextOf (upper wide : Bool) (bits prec : Nat) (K : Int) : List UInt8 := rTxt (fun neg ds dp => gText neg (exV upper) ds dp prec) (fNeg wide bits) (fLow wide bits) (fPow wide bits) ((prec : Int) - K)

theorem g_af (upper wide : Bool) (bits prec : Nat) (hp1 : 1 ≤ prec) (hp : prec ≤ 40) (hU : U64 bits) (hf : fExp wide bits ≠ fTop wide) (K : Int) (hK : fLow wide bits ≠ 0 → Dec (fLow wide bits) (fPow wide bits) K) (h0 : -400 ≤ K) (h1 : K ≤ 400) :
    AFspec (fDbl wide bits) (if wide then 64 else 32) (if upper then 71 else 103) prec (gTextOf upper wide bits prec K) := by
  cases wide
  · simp only [fDbl, Bool.false_eq_true, if_false]
    cases upper
    · exact af32 (fun w => run_down32 (bits % 2 ^ 32) (by omega) hf w) (ftoa32_103 prec hp hp1 _ (efg_g prec hp1 (by omega)) K bits hf hK h0 h1)
    · exact af32 (fun w => run_down32 (bits % 2 ^ 32) (by omega) hf w) (ftoa32_71 prec hp hp1 _ (efg_G prec hp1 (by omega)) K bits hf hK h0 h1)
  · simp only [fDbl, if_true]
    cases upper
    · exact af64 (ftoa64_103 prec hp hp1 _ (efg_g prec hp1 (by omega)) K bits hU hf hK h0 h1)
    · exact af64 (ftoa64_71 prec hp hp1 _ (efg_G prec hp1 (by omega)) K bits hU hf hK h0 h1)

theorem cutD_last (u : Nat) (h : 0 < u) : ∃ l c, cutD u = l ++ [c] ∧ c ≠ 48 := by
  unfold cutD strip
  have hp := cutD_pos u h
  unfold cutD strip at hp
  rw [List.length_reverse] at hp
  cases hq : (Lib.decDigits u).reverse.dropWhile (· == 48) with
  | nil => rw [hq] at hp; simp at hp
  | cons c m =>
    refine ⟨m.reverse, c, by simp, fun e => ?_⟩
    have := List.head?_dropWhile_not (· == (48 : UInt8)) (Lib.decDigits u).reverse
    rw [hq, e] at this
    simp at this

/-- What the law asks of a text that was read. -/
structure GOk (P : Nat) (ds : List UInt8) (pt : Int) (z n : Nat) : Prop where
  len : ds.length = z + n
  pos : 0 < ds.length
  lead : ∀ j, j < z → ds[j]? = some 48
  stop : n = 0 ∨ ∃ c, ds[z]? = some c ∧ c ≠ 48
  most : n ≤ P
  pt0 : pt = -1 ∨ (0 < pt ∧ ∃ c, ds[ds.length - 1]? = some c ∧ c ≠ 48)

theorem fill_exact (n : Nat) (l : List UInt8) (h : l.length = n) : fill n l = l := by
  unfold fill
  rw [List.take_of_length_le (by omega), h, Nat.sub_self, List.replicate_zero, List.append_nil]

/-- What Decimal says of the text of the verb g, and that it is near. -/
theorem g_all (neg : Bool) (V : UInt8) (M : Nat) (E K : Int) (P : Nat) (hE0 : -1074 ≤ E) (hK : M ≠ 0 → Dec M E K) (h0 : -400 ≤ K) (h1 : K ≤ 400) (hp1 : 1 ≤ P) (hp : P ≤ 100) :
    ∃ (a fr ex : List UInt8) (p : Bool) (X : Int) (z n : Nat), rTxt (fun neg ds dp => gText neg V ds dp P) neg M E ((P : Int) - K) = sgn neg ++ (mantOf a p fr ++ ex) ∧ isD a ∧ isD fr ∧ 0 < a.length ∧ a.length ≤ 200 ∧ fr.length ≤ 200 ∧ (p = false → fr = []) ∧
      (ex = [] ∧ X = 0 ∨ ex = V :: (if X < 0 then 45 else 43) :: expD X) ∧ X.natAbs < 700 ∧ GOk P (a ++ fr) (if p then (fr.length : Int) else -1) z n ∧
      (M = 0 → p = false ∧ n = 0) ∧ (M ≠ 0 → 1 ≤ n) ∧ (∀ Z : Nat, Z = P - n → M ≠ 0 → nearB (decVal (a ++ fr) * 10 ^ Z * 10 ^ (-(fr.length : Int) + X - Z).toNat * 2 ^ (-E).toNat) (M * 2 ^ E.toNat * 10 ^ (-(-(fr.length : Int) + X - Z)).toNat) (10 ^ (-(fr.length : Int) + X - Z).toNat * 2 ^ (-E).toNat) = true) := by
  by_cases hM : M = 0
  · subst hM
    refine ⟨[48], [], [], false, 0, 1, 0, ?_, fun c hc => by rw [List.mem_singleton.1 hc]; decide, isD_nil, by decide, by decide, by decide, fun _ => rfl, Or.inl ⟨rfl, rfl⟩, by decide, ⟨rfl, by decide, fun j hj => ?_, Or.inl rfl, by omega, Or.inl rfl⟩, fun _ => ⟨rfl, rfl⟩, fun h => absurd rfl h, fun Z _ h => absurd rfl h⟩
    · unfold rTxt
      rw [if_pos rfl]
      have hg : gE false 0 ([] : List UInt8).length P = false := by
        unfold gE gEp
        rw [List.length_nil, if_neg (by decide), if_pos ⟨by omega, by omega⟩]
        decide
      show gText neg V [] 0 P = _
      unfold gText
      rw [hg, if_neg (by decide)]
      have h2 : ((if (0 : Int) < P then (([] : List UInt8).length : Int) else P) - 0).toNat = 0 := by rw [if_pos (by omega)]; rfl
      rw [h2]
      unfold fText fracE mantOf
      simp
    · obtain rfl : j = 0 := by omega
      rfl
  · have hD := hK hM
    obtain ⟨q, hq⟩ : ∃ q : Int, q = (P : Int) - K := ⟨_, rfl⟩
    obtain ⟨R, hR⟩ : ∃ R, R = rnd M E q := ⟨_, rfl⟩
    obtain ⟨d1, d2⟩ := dec_digits hD (by omega) (by omega) P hp1
    rw [← hq] at d1 d2
    have r1 : 10 ^ (P - 1) ≤ R := by rw [hR]; exact rh_ge VC_pos (by rw [Nat.mul_comm]; exact d1)
    have r2 : R ≤ 10 ^ P := by rw [hR]; exact rh_le VC_pos (by rw [Nat.mul_comm]; exact Nat.le_of_lt d2)
    have hpw : 0 < 10 ^ (P - 1) := Nat.pow_pos (by decide)
    have R0 : 0 < R := by omega
    obtain ⟨c0, l0, hcl, hc0⟩ := cutD_head R R0
    obtain ⟨lz, cz, hcz, hcz0⟩ := cutD_last R R0
    obtain ⟨k, hk⟩ := cutD_tail R
    obtain ⟨t, ht, ht1, hlen⟩ : ∃ t, Lib.nDigits R = P + t ∧ t ≤ 1 ∧ (cutD R).length ≤ P := by
      have g1 := nDigits_ge (P - 1) R r1
      rcases Nat.lt_or_eq_of_le r2 with h | h
      · have g2 := nDigits_le P R h hp1
        exact ⟨0, by omega, by omega, Nat.le_trans (cutD_le R) g2⟩
      · have g2 := nDigits_le' P R r2
        have g3 := nDigits_ge P R (by omega)
        exact ⟨1, by omega, by omega, by rw [h, cutD_pow]; simp; omega⟩
    have hnl : (cutD R).length + k = P + t := by
      have := congrArg List.length hk
      rw [Lib.decDigits_length, List.length_append, List.length_replicate, ht] at this
      omega
    have hRv : R = decVal (cutD R) * 10 ^ k := by
      have := congrArg decVal hk
      rw [dv_dec, dv_tail] at this
      exact this
    have hpt : pt R q = P + t - q := by unfold pt; rw [if_neg (by omega), ht]; omega
    obtain ⟨n1, n2⟩ := rnd_near M E q
    rw [← hR] at n1 n2
    have htx : rTxt (fun neg ds dp => gText neg V ds dp P) neg M E q = gText neg V (cutD R) (pt R q) P := by rw [rTxt_eq, ← hR]
    have hisd := cutD_isD R
    obtain ⟨ds, hds⟩ : ∃ ds, ds = cutD R := ⟨_, rfl⟩
    obtain ⟨dp, hdp⟩ : ∃ dp, dp = pt R q := ⟨_, rfl⟩
    rw [← hq, htx]
    rw [← hds] at hcl hcz hlen hnl hRv hisd ⊢
    rw [← hdp] at hpt ⊢
    -- near
    have hnear : ∀ pw : Int, pw = dp - P → nearB (decVal ds * 10 ^ (P - ds.length) * 10 ^ pw.toNat * 2 ^ (-E).toNat) (M * 2 ^ E.toNat * 10 ^ (-pw).toNat) (10 ^ pw.toNat * 2 ^ (-E).toNat) = true := by
      intro pw hpw
      obtain ⟨D, hDv⟩ : ∃ D, D = decVal ds * 10 ^ (P - ds.length) := ⟨_, rfl⟩
      have hRD : D * 10 ^ t = R := by
        rw [hDv, hRv, Nat.mul_assoc, ← Nat.pow_add]
        congr 2
        omega
      rw [← hDv]
      rcases Nat.le_one_iff_eq_zero_or_eq_one.1 ht1 with h | h
      · subst h
        rw [Nat.pow_zero, Nat.mul_one] at hRD
        rw [hRD]
        exact near_law R M E q _ (by omega) (by omega) (by omega) n1 n2
      · subst h
        rw [Nat.pow_one] at hRD
        have e10 := VN_ten M E (q - 1) 1 (by omega)
        rw [show q - 1 + ((1 : Nat) : Int) = q by omega, Nat.pow_one] at e10
        rw [e10, ← hRD] at n1 n2
        have k : ∀ v C : Nat, 2 * (v * 10) ≤ 2 * (D * 10 * C) + C → 2 * (D * 10 * C) ≤ 2 * (v * 10) + C → 2 * v ≤ 2 * (D * C) + C ∧ 2 * (D * C) ≤ 2 * v + C := fun v C a b => by
          have e : D * 10 * C = D * C * 10 := Nat.mul_right_comm _ _ _
          rw [e] at a b
          generalize D * C = z at *
          omega
        obtain ⟨k1, k2⟩ := k _ _ n1 n2
        exact near_law D M E (q - 1) _ (by omega) (by omega) (by omega) k1 k2
    have hdl : 0 < ds.length := by rw [hcl]; simp
    have hlast : ∃ c, ds[ds.length - 1]? = some c ∧ c ≠ 48 := ⟨cz, by rw [hcz]; simp, hcz0⟩
    have hfirst : ∃ c, ds[0]? = some c ∧ c ≠ 48 := ⟨c0, by rw [hcl]; rfl, hc0⟩
    have hb : -520 ≤ dp ∧ dp ≤ 520 := by omega
    clear hk hRv hnl hpt n1 n2 htx hR r1 r2 R0 d1 d2 hD hdp hds ht hK hpw
    unfold gText
    cases hg : gE false dp ds.length P
    · rw [if_neg (by decide)]
      have hg2 := gE_no hg
      have hdpP : dp ≤ P := by
        unfold gEp at hg2
        rw [if_neg (by decide)] at hg2
        split at hg2 <;> omega
      by_cases hA : dp ≤ 0
      · -- noughts ahead
        have hpr : ((if dp < P then (ds.length : Int) else P) - dp).toNat = ds.length + (-dp).toNat := by rw [if_pos (by omega)]; omega
        rw [hpr]
        obtain ⟨Z, hZ⟩ : ∃ Z, Z = (-dp).toNat := ⟨_, rfl⟩
        have hdn : dp.toNat = 0 := by omega
        refine ⟨[48], List.replicate Z 48 ++ ds, [], true, 0, Z + 1, ds.length, ?_, fun c hc => by rw [List.mem_singleton.1 hc]; decide, (isD_zeros _).append hisd, by decide, by decide, ?_, fun h => absurd h (by decide), Or.inl ⟨rfl, rfl⟩, by decide, ?_, fun h => absurd h hM, fun _ => hdl, fun Y hY _ => ?_⟩
        · unfold fText fracE mantOf
          rw [if_neg (by omega), if_neg (by omega), if_pos rfl, hdn, List.drop_zero, ← hZ, fill_exact _ _ (by rw [List.length_append, List.length_replicate]; omega)]
          simp
        · rw [List.length_append, List.length_replicate]; omega
        · have e : [48] ++ (List.replicate Z 48 ++ ds) = List.replicate (Z + 1) (48 : UInt8) ++ ds := by rw [List.replicate_succ]; rfl
          rw [e]
          refine ⟨by simp, by rw [List.length_append]; omega, fun j hj => ?_, Or.inr ?_, hlen, Or.inr ⟨?_, ?_⟩⟩
          · rw [List.getElem?_append_left (by rw [List.length_replicate]; exact hj), List.getElem?_replicate, if_pos hj]
          · obtain ⟨c, hc, hc2⟩ := hfirst
            refine ⟨c, ?_, hc2⟩
            rw [List.getElem?_append_right (by rw [List.length_replicate]; omega), List.length_replicate, Nat.sub_self]
            exact hc
          · rw [if_pos rfl, List.length_append]; omega
          · obtain ⟨c, hc, hc2⟩ := hlast
            refine ⟨c, ?_, hc2⟩
            rw [List.length_append, List.length_replicate, List.getElem?_append_right (by rw [List.length_replicate]; omega), List.length_replicate]
            rw [show Z + 1 + ds.length - 1 - (Z + 1) = ds.length - 1 by omega]
            exact hc
        · subst hY
          have e : [48] ++ (List.replicate Z 48 ++ ds) = List.replicate (Z + 1) (48 : UInt8) ++ ds := by rw [List.replicate_succ]; rfl
          rw [e, dv_zeros]
          exact hnear _ (by rw [List.length_append, List.length_replicate]; omega)
      · by_cases hB : dp < ds.length
        · -- a point inside
          have hpr : ((if dp < P then (ds.length : Int) else P) - dp).toNat = ds.length - dp.toNat := by rw [if_pos (by omega)]; omega
          rw [hpr]
          obtain ⟨m, hm⟩ : ∃ m, m = dp.toNat := ⟨_, rfl⟩
          have hnz : (-dp).toNat = 0 := by omega
          rw [← hm]
          refine ⟨ds.take m, ds.drop m, [], true, 0, 0, ds.length, ?_, hisd.take _, hisd.drop _, by rw [List.length_take]; omega, by rw [List.length_take]; omega, by rw [List.length_drop]; omega, fun h => absurd h (by decide), Or.inl ⟨rfl, rfl⟩, by decide, ?_, fun h => absurd h hM, fun _ => hdl, fun Y hY _ => ?_⟩
          · unfold fText fracE mantOf
            rw [if_pos (by omega), if_neg (by omega), if_pos rfl, hnz, ← hm, List.replicate_zero, List.nil_append, fill_exact _ (ds.drop m) (by rw [List.length_drop])]
            unfold fill
            rw [show m - ds.length = 0 by omega, List.replicate_zero, List.append_nil]
            simp
          · rw [List.take_append_drop]
            refine ⟨by omega, hdl, fun j hj => by omega, Or.inr hfirst, hlen, Or.inr ⟨?_, hlast⟩⟩
            rw [if_pos rfl, List.length_drop]; omega
          · subst hY
            rw [List.take_append_drop]
            exact hnear _ (by rw [List.length_drop]; omega)
        · -- a whole number
          have hpr : ((if dp < P then (ds.length : Int) else P) - dp).toNat = 0 := by split <;> omega
          rw [hpr]
          obtain ⟨m, hm⟩ : ∃ m, m = dp.toNat := ⟨_, rfl⟩
          have hf : fill m ds = ds ++ List.replicate (m - ds.length) 48 := by
            unfold fill
            rw [List.take_of_length_le (by omega)]
          have hfl := fill_length m ds
          refine ⟨fill m ds, [], [], false, 0, 0, m, ?_, fill_isD hisd _, isD_nil, by omega, by omega, by decide, fun _ => rfl, Or.inl ⟨rfl, rfl⟩, by decide, ?_, fun h => absurd h hM, fun _ => by omega, fun Y hY _ => ?_⟩
          · unfold fText fracE mantOf
            rw [if_pos (by omega), if_pos rfl, ← hm]
            simp
          · rw [List.append_nil]
            refine ⟨by omega, by omega, fun j hj => by omega, Or.inr ?_, by omega, Or.inl rfl⟩
            obtain ⟨c, hc, hc2⟩ := hfirst
            exact ⟨c, by rw [hf, List.getElem?_append_left hdl]; exact hc, hc2⟩
          · subst hY
            rw [List.append_nil, hf, dv_tail, Nat.mul_assoc (decVal ds), ← Nat.pow_add, show m - ds.length + (P - m) = P - ds.length by omega]
            exact hnear _ (by rw [List.length_nil]; omega)
    · rw [if_pos rfl]
      have hpr : min P ds.length - 1 = ds.length - 1 := by omega
      rw [hpr, eText_eq, if_neg (show ¬ ds.length = 0 by omega)]
      have hfr : (if ds.length - 1 = 0 then [] else fill (ds.length - 1) (ds.drop 1)) = ds.drop 1 := by
        split
        · rw [List.drop_of_length_le (by omega)]
        · exact fill_exact _ _ (by rw [List.length_drop])
      rw [hfr]
      have ha : [ds.headD 48] ++ ds.drop 1 = ds := by rw [hcl]; rfl
      have hal : (ds.drop 1).length = ds.length - 1 := List.length_drop
      refine ⟨[ds.headD 48], ds.drop 1, _, decide (ds.length - 1 ≠ 0), dp - 1, 0, ds.length, rfl, fun c hc => ?_, hisd.drop _, by simp, by simp, by omega, fun h => ?_, Or.inr rfl, by omega, ?_, fun h => absurd h hM, fun _ => hdl, fun Y hY _ => ?_⟩
      · rw [List.mem_singleton.1 hc]
        refine hisd _ ?_
        rw [hcl]; simp
      · have : ds.length - 1 = 0 := by simpa using h
        exact List.length_eq_zero_iff.1 (by omega)
      · rw [ha]
        refine ⟨by omega, hdl, fun j hj => by omega, Or.inr hfirst, hlen, ?_⟩
        by_cases h : ds.length - 1 = 0
        · left; simp [h]
        · right
          refine ⟨?_, hlast⟩
          rw [if_pos (by simpa using h), hal]
          omega
      · subst hY
        rw [ha]
        exact hnear _ (by rw [hal]; omega)

/-- All that the law asks. -/
theorem g_law (upper wide : Bool) (bits P : Nat) (hp1 : 1 ≤ P) (hp : P ≤ 40) (K : Int) (hK : fLow wide bits ≠ 0 → Dec (fLow wide bits) (fPow wide bits) K) (h0 : -400 ≤ K) (h1 : K ≤ 400) :
    NumText (gTextOf upper wide bits P K) ∧ (gTextOf upper wide bits P K).length ≤ 1000 ∧ ∃ (ds : List UInt8) (pw pt xe : Int) (z n : Nat), GOk P ds pt z n ∧ ds.length ≤ 500 ∧ -2000 ≤ pw ∧ pw ≤ 2000 ∧
      (∀ w, Calls Tryd.prog 14 #[.string ⟨(gTextOf upper wide bits P K).toArray⟩] w (RdRes w (fNeg wide bits) ds pw pt xe)) ∧
      (∀ (Z : Nat), Z = (if 0 ≤ pt then P - n else 0) → (0 ≤ pt ∨ n = P) → ∀ w (ba : ByteArray), ba.data.toList = ds ++ List.replicate Z 48 → Calls Tryd.prog 15 #[.agg #[.bool (fNeg wide bits), .string ba, .int .i64 (pw - Z), .int .i64 pt, .int .i64 xe], fAgg wide bits] w (NeaRes w true)) := by
  have hp0 := pow_lt wide bits
  have hl := low_lt wide bits
  obtain ⟨a, fr, ex, p, X, z, n, he2, ha, hf, ha0, ha1, hfr1, hpf, hex, hX, hG, hz0, hz1, hn⟩ := g_all (fNeg wide bits) (exV upper) (fLow wide bits) (fPow wide bits) K P hp0.1 hK h0 h1 hp1 (by omega)
  obtain ⟨x1, x2, x3, x4⟩ := expD_all X (by omega)
  have hsl := sgn_len (fNeg wide bits)
  have hexl : ex.length ≤ 5 := by
    rcases hex with ⟨h, _⟩ | h
    · rw [h]; decide
    · rw [h, List.length_cons, List.length_cons]; omega
  have hml : (mantOf a p fr).length ≤ 500 := by
    unfold mantOf
    split
    · rw [List.length_append, List.length_cons]; omega
    · omega
  change gTextOf upper wide bits P K = _ at he2
  have hL : (gTextOf upper wide bits P K).length ≤ 1000 := by
    rw [he2, List.length_append, List.length_append]; omega
  have hF := mantOf_rdF a fr p ha hf hpf
  have hH := mantOf_head a fr p ha ha0
  have hpt : (rdF (mantOf a p fr)).2 = if p then (fr.length : Int) else -1 := by rw [hF]
  have hdg : (rdF (mantOf a p fr)).1 = a ++ fr := by rw [hF]
  have hmx : max 0 (if p then (fr.length : Int) else -1) = fr.length := by
    cases p
    · rw [hpf rfl]; rfl
    · simp
  have hp2 : (0 : Int) ≤ (if p then (fr.length : Int) else -1) ↔ p = true := by cases p <;> simp
  obtain ⟨xe, hxe⟩ : ∃ xe : Int, xe = if ex = [] then 0 else ((expD X).length : Int) := ⟨_, rfl⟩
  refine ⟨?_, hL, a ++ fr, -(fr.length : Int) + X, if p then (fr.length : Int) else -1, xe, z, n, hG, by rw [List.length_append]; omega, by omega, by omega, fun w => ?_, fun Z hZ hZ2 w ba hba => ?_⟩
  · rw [he2]
    unfold mantOf
    split
    · rw [List.append_assoc]; exact numText_sgn _ a _ ha ha0
    · exact numText_sgn _ a _ ha ha0
  · have := rd_any w ⟨(gTextOf upper wide bits P K).toArray⟩ (sgn (fNeg wide bits)) (mantOf a p fr) ex (by rw [← he2]) (by rw [size_list]; omega)
      (by cases fNeg wide bits; exact Or.inl rfl; exact Or.inr ⟨45, rfl, Or.inl rfl⟩) hH.1 hH.2 (mantOf_ok a fr _ ha hf) (fNeg wide bits) (by cases fNeg wide bits <;> rfl) (-(fr.length : Int) + X) xe
      (by
        rcases hex with ⟨h, hx⟩ | h
        · exact Or.inl ⟨h, by rw [hpt, hmx, hx]; omega, by rw [hxe, if_pos h]⟩
        · refine Or.inr ⟨exV upper, _, _, h, by cases upper <;> decide, by split <;> decide, by omega, by omega, x1, ?_, by rw [hxe, if_neg (by rw [h]; simp)]⟩
          rw [hpt, hmx, x4]
          by_cases hx : X < 0
          · rw [if_pos hx, if_pos rfl]; omega
          · rw [if_neg hx, if_neg (by decide)]; omega) (by rw [hdg]; intro h; have := hG.pos; rw [h] at this; simp at this)
    rw [hpt, hdg] at this
    exact this
  · have hZ' : Z = if p then P - n else 0 := by
      rw [hZ]
      cases p <;> simp
    have hZ3 : p = true ∨ n = P := hZ2.imp hp2.1 id
    have hZl : Z ≤ 40 := by rw [hZ']; split <;> omega
    have hM : fLow wide bits ≠ 0 := fun h => by
      obtain ⟨h2, h3⟩ := hz0 h
      rcases hZ3 with h | h
      · rw [h2] at h; cases h
      · omega
    have hZn : Z = P - n := by
      rw [hZ']
      rcases hZ3 with h | h
      · rw [if_pos h]
      · split <;> omega
    have hnn := hn Z hZn hM
    rw [← dv_tail] at hnn
    have := nearest_any w (fNeg wide bits) (fNeg wide bits) (fEdge wide bits) ba ((a ++ fr) ++ List.replicate Z 48) hba ((ha.append hf).append (isD_zeros _)) (by rw [List.length_append, List.length_append, List.length_replicate]; omega) (-(fr.length : Int) + X - Z) (if p then (fr.length : Int) else -1) xe (fPow wide bits) (fLow wide bits) (by omega) (by omega) (by omega) (by omega) (by omega)
    rw [hnn] at this
    have e : (fNeg wide bits == fNeg wide bits && true) = true := by simp
    rw [e] at this
    exact this

end Go.Proofs.YthfjpofbaeeafaaDoor
