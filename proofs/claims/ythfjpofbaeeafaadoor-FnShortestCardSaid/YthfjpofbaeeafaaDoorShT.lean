/-
  The texts of the shortest decimal: what their digits, their point and their exponent are.
-/
import Derived.Test.YthfjpofbaeeafaaDoorLX
import Derived.Test.YthfjpofbaeeafaaDoorRD
import Derived.Test.YthfjpofbaeeafaaDoorGL
namespace Go.Proofs.YthfjpofbaeeafaaDoor
open Go.RowKit

/-- What is written of these digits and no more: with an exponent, or without one. -/
def shT (b : Bool) (V : UInt8) (neg : Bool) (ds : List UInt8) (dp : Int) : List UInt8 :=
  if b then eText neg V ds dp (ds.length - 1) else fText neg ds dp ((ds.length : Int) - dp).toNat

theorem fill_same (n : Nat) (l : List UInt8) (h : l.length = n) : fill n l = l := by
  unfold fill
  rw [List.take_of_length_le (by omega), h, Nat.sub_self, List.replicate_zero, List.append_nil]

theorem shT_all (b : Bool) (V : UInt8) (neg : Bool) (ds : List UInt8) (dp : Int) (hisd : isD ds) (h18 : ds.length ≤ 18) (hd0 : -400 ≤ dp) (hd1 : dp ≤ 400) (h0 : ds = [] → dp = 0) :
    ∃ (a fr ex : List UInt8) (p : Bool) (X : Int) (z k : Nat), shT b V neg ds dp = sgn neg ++ (mantOf a p fr ++ ex) ∧ isD a ∧ isD fr ∧ 0 < a.length ∧ a.length ≤ 420 ∧ fr.length + a.length ≤ 440 ∧ (p = false → fr = []) ∧
      (ex = [] ∧ X = 0 ∨ ex = V :: (if X < 0 then 45 else 43) :: expD X) ∧ X.natAbs < 1000 ∧ a ++ fr = (List.replicate z 48 ++ ds) ++ List.replicate k 48 ∧ (ds ≠ [] → -(fr.length : Int) + X + k = dp - ds.length) ∧ (ds = [] → z = 1 ∧ k = 0) := by
  unfold shT
  by_cases hn : ds = []
  · subst hn
    obtain rfl := h0 rfl
    cases b
    · rw [if_neg (by decide)]
      exact ⟨[48], [], [], false, 0, 1, 0, by simp [fText, fracE, mantOf], fun c hc => by rw [List.mem_singleton.1 hc]; decide, isD_nil, by decide, by decide, by decide, fun _ => rfl, Or.inl ⟨rfl, rfl⟩, by decide, rfl, fun h => absurd rfl h, fun _ => ⟨rfl, rfl⟩⟩
    · rw [if_pos rfl, eText_eq]
      exact ⟨[48], [], _, false, 0, 1, 0, by simp, fun c hc => by rw [List.mem_singleton.1 hc]; decide, isD_nil, by decide, by decide, by decide, fun _ => rfl, Or.inr rfl, by decide, rfl, fun h => absurd rfl h, fun _ => ⟨rfl, rfl⟩⟩
  have hdl : 0 < ds.length := List.length_pos_iff.2 hn
  cases b
  · rw [if_neg (by decide)]
    by_cases hA : dp ≤ 0
    · have hpr : ((ds.length : Int) - dp).toNat = ds.length + (-dp).toNat := by omega
      rw [hpr]
      obtain ⟨Z, hZ⟩ : ∃ Z, Z = (-dp).toNat := ⟨_, rfl⟩
      have hdn : dp.toNat = 0 := by omega
      have hlen : (List.replicate Z (48 : UInt8) ++ ds).length = ds.length + Z := by rw [List.length_append, List.length_replicate, Nat.add_comm]
      refine ⟨[48], List.replicate Z 48 ++ ds, [], true, 0, Z + 1, 0, ?_, fun c hc => by rw [List.mem_singleton.1 hc]; decide, (isD_zeros _).append hisd, by decide, by decide, by rw [List.length_singleton]; omega, fun h => absurd h (by decide), Or.inl ⟨rfl, rfl⟩, by decide, ?_, fun _ => by omega, fun h => absurd h hn⟩
      · unfold fText fracE mantOf
        rw [if_neg (by omega), if_neg (by omega), if_pos rfl, hdn, List.drop_zero, ← hZ, fill_same _ _ hlen]
        simp
      · rw [List.replicate_succ]; simp
    · by_cases hB : dp < ds.length
      · obtain ⟨m, hm⟩ : ∃ m, m = dp.toNat := ⟨_, rfl⟩
        have hpr : ((ds.length : Int) - dp).toNat = ds.length - m := by omega
        rw [hpr]
        have hnz : (-dp).toNat = 0 := by omega
        have hl2 : (ds.drop m).length = ds.length - m := List.length_drop
        have hl1 : (ds.take m).length = m := by rw [List.length_take]; omega
        refine ⟨ds.take m, ds.drop m, [], true, 0, 0, 0, ?_, hisd.take _, hisd.drop _, by omega, by omega, by omega, fun h => absurd h (by decide), Or.inl ⟨rfl, rfl⟩, by decide, by simp, fun _ => by omega, fun h => absurd h hn⟩
        unfold fText fracE mantOf
        rw [if_pos (by omega), if_neg (by omega), if_pos rfl, hnz, ← hm, List.replicate_zero, List.nil_append, fill_same _ (ds.drop m) hl2]
        unfold fill
        rw [show m - ds.length = 0 by omega, List.replicate_zero, List.append_nil]
        simp
      · obtain ⟨m, hm⟩ : ∃ m, m = dp.toNat := ⟨_, rfl⟩
        have hpr : ((ds.length : Int) - dp).toNat = 0 := by omega
        rw [hpr]
        have hf : fill m ds = ds ++ List.replicate (m - ds.length) 48 := by
          unfold fill
          rw [List.take_of_length_le (by omega)]
        have hfl := fill_length m ds
        refine ⟨fill m ds, [], [], false, 0, 0, m - ds.length, ?_, fill_isD hisd _, isD_nil, by omega, by omega, by rw [List.length_nil]; omega, fun _ => rfl, Or.inl ⟨rfl, rfl⟩, by decide, by rw [hf]; simp, fun _ => by rw [List.length_nil]; omega, fun h => absurd h hn⟩
        unfold fText fracE mantOf
        rw [if_pos (by omega), if_pos rfl, ← hm]
        simp
  · rw [if_pos rfl, eText_eq, if_neg (show ¬ ds.length = 0 by omega)]
    have hfr : (if ds.length - 1 = 0 then [] else fill (ds.length - 1) (ds.drop 1)) = ds.drop 1 := by
      split
      · rw [List.drop_of_length_le (by omega)]
      · exact fill_same _ _ (by rw [List.length_drop])
    rw [hfr]
    obtain ⟨c0, l0, hcl⟩ : ∃ c l, ds = c :: l := by
      cases ds with
      | nil => exact absurd rfl hn
      | cons c l => exact ⟨c, l, rfl⟩
    have ha : [ds.headD 48] ++ ds.drop 1 = ds := by rw [hcl]; rfl
    have hal : (ds.drop 1).length = ds.length - 1 := List.length_drop
    refine ⟨[ds.headD 48], ds.drop 1, _, decide (ds.length - 1 ≠ 0), dp - 1, 0, 0, rfl, fun c hc => ?_, hisd.drop _, by simp, by simp, by rw [List.length_singleton]; omega, fun h => ?_, Or.inr rfl, by omega, by rw [ha]; simp, fun _ => by omega, fun h => absurd h hn⟩
    · rw [List.mem_singleton.1 hc]
      refine hisd _ ?_
      rw [hcl]; simp
    · have : ds.length - 1 = 0 := by simpa using h
      exact List.length_eq_zero_iff.1 (by omega)

/-- What ReadDecimal reads. -/
theorem shT_read (b : Bool) (V : UInt8) (hV : V = 101 ∨ V = 69) (neg : Bool) (ds : List UInt8) (dp : Int) (hisd : isD ds) (h18 : ds.length ≤ 18) (hd0 : -400 ≤ dp) (hd1 : dp ≤ 400) (h0 : ds = [] → dp = 0) :
    NumText (shT b V neg ds dp) ∧ (shT b V neg ds dp).length ≤ 1000 ∧ ∃ (pw pt xe : Int) (z k : Nat), z + ds.length + k ≤ 440 ∧ (ds ≠ [] → pw + k = dp - ds.length) ∧ (ds = [] → z = 1 ∧ k = 0) ∧ -1500 ≤ pw ∧ pw ≤ 1500 ∧
      (∀ w, Calls Tryd.prog 14 #[.string ⟨(shT b V neg ds dp).toArray⟩] w (RdRes w neg ((List.replicate z 48 ++ ds) ++ List.replicate k 48) pw pt xe)) := by
  obtain ⟨a, fr, ex, p, X, z, k, he2, ha, hf, ha0, ha1, hfr1, hpf, hex, hX, hD, hpw, hz⟩ := shT_all b V neg ds dp hisd h18 hd0 hd1 h0
  obtain ⟨T, hT⟩ : ∃ T, T = shT b V neg ds dp := ⟨_, rfl⟩
  rw [← hT] at he2 ⊢
  obtain ⟨x1, x2, x3, x4⟩ := expD_all X hX
  have hsl := sgn_len neg
  have hexl : ex.length ≤ 5 := by
    rcases hex with ⟨h, _⟩ | h
    · rw [h]; decide
    · rw [h, List.length_cons, List.length_cons]; omega
  have hml : (mantOf a p fr).length ≤ 860 := by
    unfold mantOf
    split
    · rw [List.length_append, List.length_cons]; omega
    · omega
  have hL : T.length ≤ 1000 := by
    rw [he2, List.length_append, List.length_append]; omega
  have hF := mantOf_rdF a fr p ha hf hpf
  have hH := mantOf_head a fr p ha ha0
  have hpt : (rdF (mantOf a p fr)).2 = if p then (fr.length : Int) else -1 := by rw [hF]
  have hdg : (rdF (mantOf a p fr)).1 = a ++ fr := by rw [hF]
  have hmx : max 0 (if p then (fr.length : Int) else -1) = fr.length := by
    cases p
    · rw [hpf rfl]; rfl
    · simp
  have hDl := congrArg List.length hD
  rw [List.length_append, List.length_append, List.length_append, List.length_replicate, List.length_replicate] at hDl
  refine ⟨?_, hL, -(fr.length : Int) + X, if p then (fr.length : Int) else -1, if ex = [] then 0 else ((expD X).length : Int), z, k, by omega, hpw, hz, by omega, by omega, fun w => ?_⟩
  · rw [he2]
    unfold mantOf
    split
    · rw [List.append_assoc]; exact numText_sgn _ a _ ha ha0
    · exact numText_sgn _ a _ ha ha0
  · have := rd_any w ⟨T.toArray⟩ (sgn neg) (mantOf a p fr) ex (by rw [← he2]) (by rw [size_list]; omega)
      (by cases neg; exact Or.inl rfl; exact Or.inr ⟨45, rfl, Or.inl rfl⟩) hH.1 hH.2 (mantOf_ok a fr _ ha hf) neg (by cases neg <;> rfl) (-(fr.length : Int) + X) (if ex = [] then 0 else ((expD X).length : Int))
      (by
        rcases hex with ⟨h, hx⟩ | h
        · exact Or.inl ⟨h, by rw [hpt, hmx, hx]; omega, by rw [if_pos h]⟩
        · refine Or.inr ⟨V, _, _, h, hV, by split <;> decide, by omega, by omega, x1, ?_, by rw [if_neg (by rw [h]; simp)]⟩
          rw [hpt, hmx, x4]
          by_cases hx : X < 0
          · rw [if_pos hx, if_pos rfl]; omega
          · rw [if_neg hx, if_neg (by decide)]; omega) (by
        rw [hdg]
        intro h
        have h1 := congrArg List.length h
        rw [List.length_append, List.length_nil] at h1
        omega)
    rw [hpt, hdg, hD] at this
    exact this

end Go.Proofs.YthfjpofbaeeafaaDoor
