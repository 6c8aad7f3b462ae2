/-
  spec.Nearest.
-/
import Derived.Test.YthfjpofbaeeafaaDoorSI
namespace Go.Proofs.YthfjpofbaeeafaaDoor
open Go.RowKit

def NeaRes (W : World) (b : Bool) (e : Ending) (w' : World) : Prop := e = .returned (.bool b) ∧ Still W w'

/-- |D - B| twice is at most U. -/
def nearB (D B U : Nat) : Bool := !decide (U < (D - B + (B - D)) * 2 + 0)

theorem twice_bound (D B T : Nat) (h1 : D * 2 < T) (h2 : B * 2 < T) : (D - B + (B - D)) * 2 + 0 < T := by omega

theorem near_bound (n m a b a2 b2 : Nat) (hn : n < 10 ^ TOP) (hm : m < 10 ^ TOP) (ha : a ≤ 1500) (hb : b ≤ 1500) (ha2 : a2 ≤ 1500) (hb2 : b2 ≤ 1500) :
    (n * 10 ^ a * 2 ^ b - m * 2 ^ b2 * 10 ^ a2 + (m * 2 ^ b2 * 10 ^ a2 - n * 10 ^ a * 2 ^ b)) * 2 + 0 < UN ^ TOP := by
  have h1 := top_bound n a (b + 1) hn (by omega) (by omega)
  have h2 := top_bound3 m a2 (b2 + 1) hm (by omega) (by omega)
  rw [Nat.pow_succ, ← Nat.mul_assoc] at h1
  rw [Nat.pow_succ, ← Nat.mul_assoc, Nat.mul_right_comm _ 2] at h2
  exact twice_bound _ _ _ h1 h2

set_option maxRecDepth 100000 in
set_option maxHeartbeats 8000000 in
theorem nearest_any (W : World) (dm fm ed : Bool) (s : ByteArray) (ds : List UInt8) (hs : s.data.toList = ds) (hd : ∀ c ∈ ds, 48 ≤ c.toNat ∧ c.toNat ≤ 57) (hl : ds.length ≤ 800) (pw ptt ex fp : Int) (lo : Nat) (hlo : lo < 9007199254740992)
    (hp0 : -1500 ≤ pw) (hp1 : pw ≤ 1500) (hf0 : -1500 ≤ fp) (hf1 : fp ≤ 1500) :
    Calls Tryd.prog 15 #[.agg #[.bool dm, .string s, .int .i64 pw, .int .i64 ptt, .int .i64 ex], .agg #[.bool fm, .int .u64 lo, .int .i64 fp, .bool ed]] W
      (NeaRes W (dm == fm && nearB (decVal ds * 10 ^ pw.toNat * 2 ^ (-fp).toNat) (lo * 2 ^ fp.toNat * 10 ^ (-pw).toNat) (10 ^ pw.toNat * 2 ^ (-fp).toNat))) := by
  have hsi := fun w => sides_any w dm fm ed s ds hs hd hl pw ptt ex fp lo hlo hp0 hp1 hf0 hf1
  have hds : decVal ds < 10 ^ TOP := lt_top (decVal_lt ds hd) (by omega)
  have hlo8 : lo < 10 ^ TOP := lt_top (j := 16) (by omega) (by decide)
  have hnb := near_bound (decVal ds) lo pw.toNat (-fp).toNat (-pw).toNat fp.toNat hds hlo8 (by omega) (by omega) (by omega) (by omega)
  obtain ⟨D, hD⟩ : ∃ D, D = decVal ds * 10 ^ pw.toNat * 2 ^ (-fp).toNat := ⟨_, rfl⟩
  obtain ⟨B, hB⟩ : ∃ B, B = lo * 2 ^ fp.toNat * 10 ^ (-pw).toNat := ⟨_, rfl⟩
  obtain ⟨U, hU⟩ : ∃ U, U = 10 ^ pw.toNat * 2 ^ (-fp).toNat := ⟨_, rfl⟩
  obtain ⟨V, hV⟩ : ∃ V, V = 2 ^ fp.toNat * 10 ^ (-pw).toNat := ⟨_, rfl⟩
  rw [← hD, ← hB, ← hU]
  rw [← hD, ← hB] at hnb
  simp only [← hD, ← hB, ← hU, ← hV] at hsi
  have HNB := Lib.hid hnb
  have HSI := Lib.hid hsi
  clear hD hB hU hV hds hlo8 hs hd hl hlo hp0 hp1 hf0 hf1 hnb hsi
  go_enter Tryd.func15, Tryd.ntmps15
  go_wp2_with fail
  refine (HSI.out _).mono ?_
  rintro e w1 ⟨A1, L1, c1, A2, L2, c2, A3, L3, c3, A4, L4, c4, rfl, h1, h2, h3, _, hst⟩
  obtain ⟨G, hG⟩ : ∃ G, G = W.heap.size := ⟨_, rfl⟩
  have d0 : w1.cell? ⟨G, 0, none⟩ = some (.bool dm) := hst.cell (by
    rw [hG, World.cell?_alloc_lt _ _ _ (by simp)]
    exact (World.cell?_alloc_new W _ _ 0).trans (by simp))
  have f0 : w1.cell? ⟨G + 1, 0, none⟩ = some (.bool fm) := hst.cell (by
    have h := World.cell?_alloc_new (W.alloc (.cells #[.bool dm, .string s, .int .i64 pw, .int .i64 ptt, .int .i64 ex] 32)) #[.bool fm, .int .u64 lo, .int .i64 fp, .bool ed] 24 0
    rw [World.size_alloc, ← hG] at h
    exact h.trans (by simp))
  have hS : Still W w1 := (((Still.refl W).alloc _).alloc _).trans hst
  rw [← hG]
  clear hst hG
  by_cases hm : dm = fm
  · subst hm
    have hm1 : (dm == dm) = true := by cases dm <;> rfl
    rw [hm1, Bool.true_and]
    clear hm1
    have hap := apart_core w1 (.slice A1 L1 c1) (.slice A2 L2 c2) D B h1 h2
    have HAP := Lib.hid hap
    have HS := Lib.hid hS
    clear hap h1 h2 hS
    go_wp2_with fail
    refine (HAP.out).mono ?_
    rintro e w2 ⟨A5, L5, c5, rfl, h5, t5⟩
    have ht := times_any w2 (.slice A5 L5 c5) _ 2 0 h5 (by decide) (Or.inl (by decide)) (by decide) HNB.out
    have HT := Lib.hid ht
    clear ht
    go_wp2_with fail
    refine (HT.out).mono ?_
    rintro e w3 ⟨A6, L6, c6, rfl, h6, t6⟩
    have hl := less_any w3 (.slice A3 L3 c3) (.slice A6 L6 c6) U _ ((h3.still t5).still t6) h6
    have HL := Lib.hid hl
    clear hl
    go_wp2_with fail
    refine (HL.out).mono ?_
    rintro e w4 ⟨rfl, k, rfl⟩
    go_wp2_with fail
    refine bodyPost_ret (v := .bool (dm == dm && nearB D B U)) (by simp [results, Tryd.results15, go_sem, nearB]) rfl ⟨rfl, ?_⟩
    exact ((HS.out.trans t5).trans t6).trans ((Still.refl w3).drewN k)
  · have hm1 : (dm == fm) = false := by cases dm <;> cases fm <;> simp_all
    rw [hm1, Bool.false_and]
    clear hm1
    go_wp2_with fail
    refine bodyPost_ret (v := .bool (dm == fm && nearB D B U)) (by simp [results, Tryd.results15, go_sem, hm]) rfl ⟨rfl, hS⟩

end Go.Proofs.YthfjpofbaeeafaaDoor
