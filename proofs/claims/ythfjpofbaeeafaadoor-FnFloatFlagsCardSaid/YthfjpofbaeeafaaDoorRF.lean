/-
  The reference's fillers at ASCII texts: Width, Runes, repeated, Pad; and the law's own clean.
-/
import Derived.Test.YthfjpofbaeeafaaDoorWP
import Derived.Test.YthfjpofbaeeafaaDoorGL
import Derived.Test.YthfjpofbaeeafaaDoorRP
import Derived.Laws.IdiomStrings
namespace Go.Proofs.YthfjpofbaeeafaaDoor
open Go.RowKit
attribute [local go_sem] imax_int imin_int imax_two imin_two

theorem ba_of_list {r : ByteArray} {l : List UInt8} (h : r.data.toList = l) : r = ⟨l.toArray⟩ := by
  rw [← h]

set_option maxRecDepth 100000 in
set_option maxHeartbeats 1000000 in
theorem width_ascii (s : ByteArray) (w : World) (h0 : 0 < s.size) (x : Nat) (hx : ∀ h : 0 < s.size, s[0].toNat = x) (h : x < 128) :
    Calls Tryd.prog 41 #[.string s] w fun e w' => e = .returned (.int .i64 1) ∧ w = w' := by
  have hx2 : ((s[0]).toNat : Int) = (x : Int) := by rw [hx h0]
  have h128 : (x : Int) < 128 := by omega
  clear hx
  go_enter Tryd.func41, Tryd.ntmps41
  go_wp2_with fail
  go_ret
  exact ⟨rfl, rfl⟩

set_option maxRecDepth 100000 in
set_option maxHeartbeats 1000000 in
theorem runes_spec (s : ByteArray) (l : List UInt8) (hs : s.data.toList = l) (ha : ∀ c ∈ l, c.toNat < 128) (hl : l.length ≤ 100000) (w : World) :
    Calls Tryd.prog 32 #[.string s] w fun e w' => e = .returned (.int .i64 l.length) ∧ w = w' := by
  obtain ⟨N, hN⟩ : ∃ N, N = l.length := ⟨_, rfl⟩
  have HS := Lib.hid hs
  have HA := Lib.hid ha
  have HN := Lib.hid hN
  rw [← hN] at hl ⊢
  clear hs ha hN
  go_enter Tryd.func32, Tryd.ntmps32
  go_wp2_with fail
  go_loopg [0, 3] N (fun q v0 v3 wr => ∃ (k : Nat) (r : ByteArray), v0 = .string r ∧ Hid (r.data.toList = l.drop k) ∧ v3 = .int .i64 k ∧ k + q = N ∧ w = wr)
  case atStart => exact ⟨0, s, rfl, Lib.hid (by rw [List.drop_zero]; exact HS.out), rfl, by omega, rfl⟩
  case round =>
    obtain ⟨k, r, rfl, hr, rfl, hkq, rfl⟩ := hrel
    have hsz : r.size = N - k := by rw [list_size hr.out, List.length_drop, HN.out]
    by_cases hk : k < N
    · have h0 : 0 < r.size := by omega
      have h1I : (1 : Int) ≤ r.size := by omega
      have hkl : k < l.length := by have := HN.out; omega
      have hw := fun w => width_ascii r w h0 (l[k]).toNat (fun h => by
        have h1 := list_idx hr.out h
        rw [List.getElem?_drop, Nat.add_zero, List.getElem?_eq_getElem hkl] at h1
        rw [Option.some.inj h1]) (HA.out _ (List.getElem_mem hkl))
      have hd := Lib.hid (drop_extract hr.out 1)
      have HW := Lib.hid hw
      have hszb : (r.size : Int) ≤ 100000 := by omega
      clear hw hr hkl hsz
      go_wp2_with fail
      refine (HW.out _).mono ?_
      rintro e w1 ⟨rfl, rfl⟩
      go_wp2_with fail
      go_roundg (gk - 1)
      case measure => omega
      case rel => exact ⟨k + 1, r.extract 1 r.size, rfl, Lib.hid (by rw [hd.out, List.drop_drop, Nat.add_comm]), by go_num, by omega, rfl⟩
    · obtain rfl : k = N := by omega
      have h0 : ¬ (0 : Int) < r.size := by omega
      clear hr
      go_wp2_with fail
      go_ret
      exact ⟨rfl, rfl⟩

/-- A new block of noughts as a row with room. -/
theorem row_room (w : World) (N : Nat) (hN : N ≤ 1000000) : Row (w.alloc (.cells (madeCells #[.int .u8 0] N) 5)) (.slice (some ⟨w.heap.size, 0, none⟩) 0 N) [] w.heap.size 0 N := by
  refine ⟨rfl, by simp, by unfold maxLen; omega, fun i hi => by simp at hi, fun j hj => ⟨?_, World.frozen?_alloc_new _ _ _ _⟩⟩
  rw [Nat.zero_add, World.cell?_alloc_new, ← Array.getElem?_toList, toList_madeCells_one, List.getElem?_replicate, if_pos hj]
  rfl

set_option maxRecDepth 100000 in
set_option maxHeartbeats 1000000 in
theorem repeated_any (c : UInt8) (n : Int) (hn : -1000000 ≤ n) (hn1 : n ≤ 10000) (w : World) :
    Calls Tryd.prog 33 #[.int .u8 c.toNat, .int .i64 n] w fun e w' => e = .returned (.string ⟨(List.replicate n.toNat c).toArray⟩) ∧ Still w w' := by
  obtain ⟨i0, hi0, hz0, hz1, hz2⟩ := info_parts info5
  obtain ⟨N, hN⟩ : ∃ N, N = n.toNat := ⟨_, rfl⟩
  have hmx : (if (0 : Int) < n then n else 0) = N := by split <;> omega
  have hNb : N ≤ 10000 := by omega
  obtain ⟨C, hC⟩ : ∃ C : Int, C = c.toNat := ⟨_, rfl⟩
  rw [← hN, ← hC]
  have HC := Lib.hid hC
  clear hC hN hn hn1
  go_enter Tryd.func33, Tryd.ntmps33
  go_wp2_with (refine wpList_make_row _ rfl _ _ 62 rfl 5 i0 (.int .u8 0) Tryd.underlying62 hi0 hz0 hz1 rfl .i64 .i64 N rfl rfl (by rw [hz2]; omega) (by omega) ?_)
  have hr0 := row_room w N (by omega)
  have hs0 : Still w (w.alloc (.cells (madeCells #[.int .u8 0] N) 5)) := (Still.refl w).alloc _
  obtain ⟨G, hG⟩ : ∃ G, G = w.heap.size := ⟨_, rfl⟩
  obtain ⟨w0, hw0⟩ : ∃ w0, w0 = w.alloc (.cells (madeCells #[.int .u8 0] N) 5) := ⟨_, rfl⟩
  rw [← hw0, ← hG] at hr0
  rw [← hw0] at hs0
  rw [← hw0, ← hG]
  have hGw : w.heap.size ≤ G := by omega
  have HR0 := Lib.hid hr0
  have HS0 := Lib.hid hs0
  clear hw0 hG hr0 hs0
  go_wp2_with fail
  go_loopg [12] N (fun q iv wr => ∃ k : Nat, iv = .int .i64 k ∧ k + q = N ∧ Row wr (.slice (some ⟨G, 0, none⟩) k N) (List.replicate k c) G 0 N ∧ Still w wr)
  case atStart => exact ⟨0, rfl, by omega, HR0.out, HS0.out⟩
  case round =>
    obtain ⟨k, rfl, hkq, hr, hs⟩ := hrel
    by_cases hk : k < N
    · have hth := hr.there k hk
      rw [Nat.zero_add] at hth
      obtain ⟨hth1, hth2⟩ := hth
      obtain ⟨y, hy⟩ := Option.isSome_iff_exists.1 hth1
      have HR := Lib.hid hr
      have HS := Lib.hid hs
      clear hr hs hth1
      go_wp2_with fail
      go_roundg (gk - 1)
      case measure => omega
      case rel =>
        refine ⟨k + 1, by go_num, by omega, ?_, HS.out.setCell hGw _⟩
        have h1 := HR.out.push (by rw [List.length_replicate]; exact hk) c _ HC.out
        rw [List.length_replicate, Nat.zero_add, ← List.replicate_succ'] at h1
        exact h1
    · obtain rfl : k = N := by omega
      have hconv := run_convert_bytes_back (P := Tryd.prog) wr 62 9 5 ⟨G, 0, none⟩ k (List.replicate k c) Tryd.underlying62 Tryd.underlying5 Tryd.underlying9 (fun j hj => by
        rw [Addr.add_lit, hr.get j hj, bc_get _ j hj])
      rw [List.length_replicate] at hconv
      have HS := Lib.hid hs
      clear hr hs
      go_wp2_with fail
      go_ret
      exact ⟨rfl, HS.out⟩

theorem str_append (a b : ByteArray) : (a ++ b).data.toList = a.data.toList ++ b.data.toList := by simp

set_option maxRecDepth 100000 in
set_option maxHeartbeats 2000000 in
/-- spec.Pad. -/
theorem pad_spec (s : ByteArray) (l : List UInt8) (hs : s.data.toList = l) (ha : ∀ c ∈ l, c.toNat < 128) (hl : l.length ≤ 30000) (wid p : Nat) (hwid : wid ≤ 5000) (hw hp mi pl sh sp ze : Bool) (w : World) :
    Calls Tryd.prog 17 #[.agg #[.int .i64 wid, .int .i64 p, .bool hw, .bool hp, .bool mi, .bool pl, .bool sh, .bool sp, .bool ze], .string s] w fun e w' =>
      ∃ r : ByteArray, r.data.toList = padTxt hw mi ze wid l ∧ e = .returned (.string r) ∧ Still w w' := by
  have hru := fun w => (runes_spec s l hs ha (by omega) w).mono fun _ _ h => (⟨h.1, h.2.symm⟩ : _ ∧ _)
  obtain ⟨L, hL⟩ : ∃ L, L = l.length := ⟨_, rfl⟩
  have hsz := list_size hs
  rw [← hL] at hru hsz
  obtain ⟨d, hd⟩ : ∃ d : Int, d = (wid : Int) - L := ⟨_, rfl⟩
  have hd2 : IntKind.i64.wrap ((wid : Int) - L) = d := by rw [hd]; exact IntWalk.i64_in _ (by omega)
  have hd3 : d.toNat = wid - l.length := by omega
  have hrep : ∀ (c : UInt8) (w : World), Calls Tryd.prog 33 #[.int .u8 c.toNat, .int .i64 d] w fun e w' => e = .returned (.string ⟨(List.replicate d.toNat c).toArray⟩) ∧ Still w w' := fun c w => repeated_any c d (by omega) (by omega) w
  have hr32 : ∀ w, Calls Tryd.prog 33 #[.int .u8 32, .int .i64 d] w fun e w' => e = .returned (.string ⟨(List.replicate d.toNat 32).toArray⟩) ∧ Still w w' := fun w => hrep 32 w
  have hr48 : ∀ w, Calls Tryd.prog 33 #[.int .u8 48, .int .i64 d] w fun e w' => e = .returned (.string ⟨(List.replicate d.toNat 48).toArray⟩) ∧ Still w w' := fun w => hrep 48 w
  have hcc : ∀ n : Nat, n ≤ 40000 → ¬ ((n : Nat) : Int) > IntKind.i64.max := fun n hn => by rw [show IntKind.i64.max = 9223372036854775807 from rfl]; omega
  have hdl : d.toNat ≤ 5000 := by omega
  obtain ⟨Y32, hY32⟩ : ∃ Y : ByteArray, Y = ⟨(List.replicate d.toNat 32).toArray⟩ := ⟨_, rfl⟩
  obtain ⟨Y48, hY48⟩ : ∃ Y : ByteArray, Y = ⟨(List.replicate d.toNat 48).toArray⟩ := ⟨_, rfl⟩
  have y32 : Y32.data.toList = List.replicate d.toNat 32 := by rw [hY32]
  have y48 : Y48.data.toList = List.replicate d.toNat 48 := by rw [hY48]
  have z32 : Y32.size ≤ 5000 := by rw [list_size y32, List.length_replicate]; exact hdl
  have z48 : Y48.size ≤ 5000 := by rw [list_size y48, List.length_replicate]; exact hdl
  rw [← hY32] at hr32
  rw [← hY48] at hr48
  have c1 : ¬ ((s.size + Y32.size : Nat) : Int) > IntKind.i64.max := hcc _ (by omega)
  have c2 : ¬ ((Y32.size + s.size : Nat) : Int) > IntKind.i64.max := hcc _ (by omega)
  have c3 : ¬ ((Y48.size + s.size : Nat) : Int) > IntKind.i64.max := hcc _ (by omega)
  have s1 : (s.size : Int) ≤ 30000 := by omega
  have s2 : (Y32.size : Int) ≤ 5000 := by omega
  have s3 : (Y48.size : Int) ≤ 5000 := by omega
  have HRU := Lib.hid hru
  have HR32 := Lib.hid hr32
  have HR48 := Lib.hid hr48
  have HS := Lib.hid hs
  have HY32 := Lib.hid y32
  have HY48 := Lib.hid y48
  have HD3 := Lib.hid hd3
  clear hru hr32 hr48 hs y32 y48 hd3 hY32 hY48 hrep hcc hL hsz hd hdl z32 z48 ha hl
  cases hw
  · go_enter Tryd.func17, Tryd.ntmps17
    go_wp2_with fail
    refine bodyPost_ret (v := .string s) (by simp [results, Tryd.results17, go_sem]) rfl ⟨s, by rw [HS.out]; rfl, rfl, ?_⟩
    repeat (first | exact Still.refl _ | (with_reducible refine Still.setCell ?_ (Nat.le_refl _) _) | (with_reducible refine Still.alloc ?_ _))
  · go_enter Tryd.func17, Tryd.ntmps17
    go_upto_region 3 with fail
    obtain ⟨w0, hw0⟩ : ∃ w0, w0 = w.alloc (.cells #[.int .i64 wid, .int .i64 p, .bool true, .bool hp, .bool mi, .bool pl, .bool sh, .bool sp, .bool ze] 40) := ⟨_, rfl⟩
    obtain ⟨G, hG⟩ : ∃ G, G = w.heap.size := ⟨_, rfl⟩
    have hs0 : Still w w0 := by rw [hw0]; exact (Still.refl w).alloc _
    have b0 : w0.cell? ⟨G, 0, none⟩ = some (.int .i64 wid) := by rw [hw0, hG]; exact World.cell?_alloc_new _ _ _ _
    have b4 : w0.cell? ⟨G, 4, none⟩ = some (.bool mi) := by rw [hw0, hG]; exact World.cell?_alloc_new _ _ _ _
    have b8 : w0.cell? ⟨G, 8, none⟩ = some (.bool ze) := by rw [hw0, hG]; exact World.cell?_alloc_new _ _ _ _
    rw [← hw0, ← hG]
    clear hw0 hG
    go_wp2_with fail
    go_quiet ((go_at_call 32; exact Calls.quiet_of_same (HRU.out _)))
    obtain ⟨w1, hw1⟩ : ∃ w1, w1 = w0.drewN nq := ⟨_, rfl⟩
    have hs1 : Still w0 w1 := by rw [hw1]; exact (Still.refl w0).drewN nq
    rw [← hw1]
    have d4 := hs1.cell b4
    have d8 := hs1.cell b8
    have HS1 := Lib.hid (hs0.trans hs1)
    clear hw1 hs1 hs0 b0 b4 b8 hd2
    have hpt : padTxt true mi ze wid l = if mi then l ++ List.replicate d.toNat 32 else List.replicate d.toNat (if ze then 48 else 32) ++ l := by
      unfold padTxt
      rw [if_pos rfl, HD3.out]
    have HPT := Lib.hid hpt
    clear hpt
    cases mi
    · cases ze
      · go_wp2_with fail
        refine (HR32.out _).mono ?_
        rintro e w2 ⟨rfl, hk2⟩
        go_wp2_with fail
        refine bodyPost_ret (v := .string (Y32 ++ s)) (by simp [results, Tryd.results17, go_sem]) rfl ⟨Y32 ++ s, ?_, rfl, HS1.out.trans hk2⟩
        rw [str_append, HY32.out, HS.out, HPT.out]; rfl
      · go_wp2_with fail
        refine (HR48.out _).mono ?_
        rintro e w2 ⟨rfl, hk2⟩
        go_wp2_with fail
        refine bodyPost_ret (v := .string (Y48 ++ s)) (by simp [results, Tryd.results17, go_sem]) rfl ⟨Y48 ++ s, ?_, rfl, HS1.out.trans hk2⟩
        rw [str_append, HY48.out, HS.out, HPT.out]; rfl
    · go_wp2_with fail
      refine (HR32.out _).mono ?_
      rintro e w2 ⟨rfl, hk2⟩
      go_wp2_with fail
      refine bodyPost_ret (v := .string (s ++ Y32)) (by simp [results, Tryd.results17, go_sem]) rfl ⟨s ++ Y32, ?_, rfl, HS1.out.trans hk2⟩
      rw [str_append, HY32.out, HS.out, HPT.out]; rfl

set_option maxRecDepth 100000 in
set_option maxHeartbeats 1000000 in
theorem below_neg (p m t : Int) (w : World) (hm1 : m ≤ 10000) (hmz : ¬ m = 0) (ht : p.tmod m = t) (h0 : t < 0) (h2 : -m < t) : Calls Tryd.prog 12 #[.int .i64 p, .int .i64 m] w fun e w' => e = .returned (.int .i64 (t + m)) ∧ w = w' := by
  go_enter Tryd.func12, Tryd.ntmps12
  go_wp2_with fail
  exact bodyPost_ret (v := .int .i64 (t + m)) (by simp [results, Tryd.results12, go_sem]) rfl ⟨rfl, rfl⟩
set_option maxRecDepth 100000 in
set_option maxHeartbeats 1000000 in
theorem below_pos (p m t : Int) (w : World) (hmz : ¬ m = 0) (ht : p.tmod m = t) (h0 : ¬ t < 0) : Calls Tryd.prog 12 #[.int .i64 p, .int .i64 m] w fun e w' => e = .returned (.int .i64 t) ∧ w = w' := by
  go_enter Tryd.func12, Tryd.ntmps12
  go_wp2_with fail
  exact bodyPost_ret (v := .int .i64 t) (by simp [results, Tryd.results12, go_sem]) rfl ⟨rfl, rfl⟩
theorem below_det (p m : Int) (hm0 : 0 < m) (hm1 : m ≤ 10000) : ∃ v : Nat, (v : Int) < m ∧ ∀ w, Calls Tryd.prog 12 #[.int .i64 p, .int .i64 m] w fun e w' => e = .returned (.int .i64 v) ∧ w = w' := by
  have h1 : p.tmod m < m := Int.tmod_lt_of_pos p hm0
  have h2 : -m < p.tmod m := Int.lt_tmod_of_pos p hm0
  have hmz : ¬ m = 0 := by omega
  obtain ⟨t, ht⟩ : ∃ t, p.tmod m = t := ⟨_, rfl⟩
  rw [ht] at h1 h2
  by_cases h0 : t < 0
  · refine ⟨(t + m).toNat, by omega, fun w => ?_⟩
    rw [Int.toNat_of_nonneg (by omega)]
    exact below_neg p m t w hm1 hmz ht h0 h2
  · refine ⟨t.toNat, by omega, fun w => ?_⟩
    rw [Int.toNat_of_nonneg (by omega)]
    exact below_pos p m t w hmz ht h0

set_option maxRecDepth 100000 in
set_option maxHeartbeats 1000000 in
/-- The law's clean. -/
theorem clean_any (wid p : Int) (v q : Nat) (h1 : ∀ w, Calls Tryd.prog 12 #[.int .i64 wid, .int .i64 4096] w fun e w' => e = .returned (.int .i64 v) ∧ w = w') (h2 : ∀ w, Calls Tryd.prog 12 #[.int .i64 p, .int .i64 4096] w fun e w' => e = .returned (.int .i64 q) ∧ w = w') (hw hp mi pl sh sp ze : Bool) (w : World) :
    Calls Tryd.prog 16 #[.agg #[.int .i64 wid, .int .i64 p, .bool hw, .bool hp, .bool mi, .bool pl, .bool sh, .bool sp, .bool ze]] w fun e w' =>
      e = .returned (.agg #[.int .i64 v, .int .i64 q, .bool hw, .bool hp, .bool mi, .bool pl, .bool sh, .bool sp, .bool (ze && !mi)]) ∧ Still w w' := by
  have H1 := Lib.hid h1
  have H2 := Lib.hid h2
  clear h1 h2
  cases ze
  all_goals
    cases mi
    all_goals
      go_enter Tryd.func16, Tryd.ntmps16
      go_wp2_with fail
      go_region_with (go_at_call 12; first | (with_reducible refine Calls.mono (H1.out _) ?_; rintro e w' ⟨rfl, rfl⟩) | (with_reducible refine Calls.mono (H2.out _) ?_; rintro e w' ⟨rfl, rfl⟩))
      all_goals
        go_wp2_with fail
        refine bodyPost_ret (by simp [results, Tryd.results16, go_sem]) rfl ⟨rfl, ?_⟩
        repeat (first | exact Still.refl _ | (with_reducible refine Still.setCell ?_ (Nat.le_refl _) _) | (with_reducible refine Still.drewN ?_ _) | (with_reducible refine Still.drew ?_) | (with_reducible refine Still.alloc ?_ _))

theorem clean_all (wid p : Int) (hw hp mi pl sh sp ze : Bool) : ∃ v q : Nat, v < 4096 ∧ ∀ w, Calls Tryd.prog 16 #[.agg #[.int .i64 wid, .int .i64 p, .bool hw, .bool hp, .bool mi, .bool pl, .bool sh, .bool sp, .bool ze]] w fun e w' =>
      e = .returned (.agg #[.int .i64 v, .int .i64 q, .bool hw, .bool hp, .bool mi, .bool pl, .bool sh, .bool sp, .bool (ze && !mi)]) ∧ Still w w' := by
  obtain ⟨v, hv, h1⟩ := below_det wid 4096 (by decide) (by decide)
  obtain ⟨q, hq, h2⟩ := below_det p 4096 (by decide) (by decide)
  exact ⟨v, q, by omega, fun w => clean_any wid p v q h1 h2 hw hp mi pl sh sp ze w⟩

end Go.Proofs.YthfjpofbaeeafaaDoor
