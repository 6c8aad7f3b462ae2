/-
  The buffer's writers with a width: the count of code points of an ASCII text, writePadding, pad.
-/
import Derived.Test.YthfjpofbaeeafaaDoorBuf
import Derived.Test.YthfjpofbaeeafaaDoorInts
import Derived.Laws.CopyOwn
import Derived.LoopTactic
import Derived.Deep.LoopGhost
import Derived.Deep.DeepCutAuto
import Derived.Deep.OwnRows
import Derived.StillTailTactics
import Derived.IntWalk
namespace Go.Proofs.YthfjpofbaeeafaaDoor
open Go.RowKit

set_option maxRecDepth 100000 in
set_option maxHeartbeats 1000000 in
/-- utf8.RuneCount of ASCII: the length. -/
theorem runes_ascii (v : Value) (xs : List UInt8) (g o c : Nat) (w : World) (hr : Row w v xs g o c) (ha : ∀ c ∈ xs, c.toNat < 128) (hl : xs.length ≤ 1000000) :
    Calls Tryd.prog 50 #[v] w fun e w' => e = .returned (.int .i64 xs.length) ∧ w = w' := by
  have hv := hr.val
  subst hv
  have hle := hr.le
  obtain ⟨N, hN⟩ : ∃ N, N = xs.length := ⟨_, rfl⟩
  have hcell : ∀ i, i < N → ∃ x : Nat, x < 128 ∧ w.cell? ⟨g, o + i, none⟩ = some (.int .u8 (x : Int)) := fun i hi => by
    have hi' : i < xs.length := by omega
    refine ⟨(xs[i]).toNat, ha _ (List.getElem_mem hi'), ?_⟩
    rw [hr.get i hi', bc_get]
  rw [← hN] at hl hle ⊢
  have HC := Lib.hid hcell
  clear hr ha hcell hN
  go_enter Tryd.func50, Tryd.ntmps50
  go_wp2_with fail
  go_loopg [4] N (fun q iv wr => ∃ i : Nat, iv = .int .i64 i ∧ i + q = N ∧ w = wr)
  case atStart => exact ⟨0, rfl, by omega, rfl⟩
  case round =>
    obtain ⟨i, rfl, hi, rfl⟩ := hrel
    by_cases h : i < N
    · obtain ⟨x, hx, hc⟩ := HC.out i h
      go_wp2_with fail
      go_roundg (gk - 1)
      case measure => omega
      case rel => exact ⟨i + 1, by go_num, by omega, rfl⟩
    · obtain rfl : i = N := by omega
      go_wp2_with fail
      go_ret
      exact ⟨rfl, rfl⟩

/-- One byte more. -/
theorem Row.push {w : World} {v : Value} {xs : List UInt8} {g o c : Nat} (h : Row w v xs g o c) (hlt : xs.length < c) (b : UInt8) (x : Int) (hxb : x = (b.toNat : Int)) :
    Row (w.setCell ⟨g, o + xs.length, none⟩ (.int .u8 x)) (.slice (some ⟨g, o, none⟩) (xs.length + 1) c) (xs ++ [b]) g o c := by
  obtain ⟨y, hx⟩ := Option.isSome_iff_exists.1 (h.there xs.length hlt).1
  refine ⟨by simp, by simp; omega, h.max, fun i hi => ?_, fun j hj => ?_⟩
  · by_cases hi2 : i < xs.length
    · rw [cell_other (by intro e; have := congrArg Addr.off e; simp at this; omega), h.get i hi2]
      rw [bc_append, List.getElem?_append_left (by rw [bc_length]; exact hi2)]
    · have : i = xs.length := by simp at hi; omega
      subst this
      rw [cell_same hx, hxb]
      simp [bc]
  · refine ⟨?_, by rw [World.frozen?_setCell]; exact (h.there j hj).2⟩
    by_cases e : j = xs.length
    · rw [e, cell_same hx]; rfl
    · rw [cell_other (by intro e2; have := congrArg Addr.off e2; simp at this; omega)]
      exact (h.there j hj).1

/-- A store elsewhere. -/
theorem Row.other {w : World} {v : Value} {xs : List UInt8} {g o c : Nat} (h : Row w v xs g o c) (a : Addr) (ha : a.block ≠ g) (u : Value) : Row (w.setCell a u) v xs g o c := by
  have hn : ∀ j, (⟨g, j, none⟩ : Addr) ≠ a := fun j e => ha (by rw [← e])
  exact ⟨h.val, h.le, h.max, fun i hi => by rw [cell_other (hn _)]; exact h.get i hi, fun j hj => ⟨by rw [cell_other (hn _)]; exact (h.there j hj).1, by rw [World.frozen?_setCell]; exact (h.there j hj).2⟩⟩

theorem info5 : (Tryd.prog.info? 5).map (fun i => (i.zero, i.size, i.bytes)) = some (some (.int .u8 0), 1, 1) := by kernel_rfl

/-- What fills up. -/
def padB (ze mi : Bool) : UInt8 := if ze && !mi then 48 else 32

/-- A new block of noughts, whose head holds xs. -/
theorem row_made (w : World) (G : Nat) (t : TypeId) (xs : List UInt8) (C : Nat) (hC : xs.length ≤ C) (hm : C ≤ maxLen) (cur : List Value) (hcur : cur = List.replicate C (Value.int .u8 0))
    (h : w.heap[G]? = some (.cells (splice cur 0 (bc xs)).toArray t (0, 0))) : Row w (.slice (some ⟨G, 0, none⟩) xs.length C) xs G 0 C := by
  have hc : ∀ j, w.cell? ⟨G, j, none⟩ = (splice cur 0 (bc xs))[j]? := fun j => by
    simp [World.cell?, h]
  have hz : ∀ j, w.frozen? ⟨G, j, none⟩ = false := fun j => by simp [World.frozen?, h]
  have hsp : splice cur 0 (bc xs) = bc xs ++ List.replicate (C - xs.length) (Value.int .u8 0) := by
    unfold splice
    rw [hcur, bc_length]
    simp
  refine ⟨rfl, hC, hm, fun i hi => ?_, fun j hj => ⟨?_, hz _⟩⟩
  · rw [Nat.zero_add, hc, hsp, List.getElem?_append_left (by rw [bc_length]; exact hi)]
  · rw [Nat.zero_add, hc, hsp]
    rw [List.getElem?_eq_getElem (by rw [List.length_append, bc_length, List.length_replicate]; omega)]
    rfl

set_option maxRecDepth 100000 in
set_option maxHeartbeats 2000000 in
/-- (*fmt).writePadding. -/
theorem wpad_any (S bb f : Nat) (xs : List UInt8) (n : Int) (mi ze : Bool) (w : World) (hbb : bb < S) (hS : S ≤ w.heap.size) (hf : f < S) (hfb : f ≠ bb) (hb : BufIs w S bb xs)
    (h0 : w.cell? ⟨f, 0, none⟩ = some (.pointer (some ⟨bb, 0, none⟩))) (h3 : w.cell? ⟨f, 3, none⟩ = some (.bool mi)) (h7 : w.cell? ⟨f, 7, none⟩ = some (.bool ze))
    (hn : n ≤ 10000) (hn0 : -1000000 ≤ n) (hl : xs.length ≤ 1000000) :
    Calls Tryd.prog 46 #[.pointer (some ⟨f, 0, none⟩), .int .i64 n] w fun e w' =>
      e = .returned (.tuple #[]) ∧ BufIs w' S bb (xs ++ List.replicate n.toNat (padB ze mi)) ∧ w.keptBut w' (BufMay S bb) := by
  by_cases hpos : 0 < n
  · obtain ⟨N, rfl⟩ : ∃ N : Nat, n = (N : Int) := ⟨n.toNat, by omega⟩
    rw [Int.toNat_natCast]
    have hN : 0 < N := by omega
    have hN2 : N ≤ 10000 := by omega
    obtain ⟨i0, hi0, hz0, hz1, hz2⟩ := info_parts info5
    obtain ⟨L, hL⟩ : ∃ L, L = xs.length := ⟨_, rfl⟩
    obtain ⟨pb, hpb⟩ : ∃ pb, pb = padB ze mi := ⟨_, rfl⟩
    rw [← hpb]
    have hz := hb.1
    have hfw : f < w.heap.size := by omega
    have HFB := Lib.hid hfb
    obtain ⟨ao, c, hc0, hrow⟩ : ∃ ao c, w.cell? ⟨bb, 0, none⟩ = some (.slice ao L c) ∧ (c = 0 ∧ L = 0 ∨ ∃ g, ao = some ⟨g, 0, none⟩ ∧ S ≤ g ∧ Row w (.slice (some ⟨g, 0, none⟩) L c) xs g 0 c) := by
      rcases hb.2 with ⟨h1, h2⟩ | ⟨g, c, bv, h1, h2, h4, h5⟩
      · refine ⟨none, 0, ?_, Or.inl ⟨rfl, by rw [hL, h2]; rfl⟩⟩
        rw [hL, h2]; exact h1
      · refine ⟨some ⟨g, 0, none⟩, c, ?_, Or.inr ⟨g, rfl, h4, ?_⟩⟩
        · rw [hL, ← h2.val]; exact h1
        · rw [hL, ← h2.val]; exact h2
    have hLb : L ≤ 1000000 := by omega
    have HL := Lib.hid hL
    have HPB := Lib.hid hpb
    have HROW := Lib.hid hrow
    clear hb hrow hl hL hpb hpos hn hn0 hfb
    go_enter Tryd.func46, Tryd.ntmps46
    go_upto_if 26 with fail
    go_cut [4] (fun v wx => ∃ g c m, v = .slice (some ⟨g, 0, none⟩) m c ∧ m ≤ c ∧ L + N ≤ c ∧ S ≤ g ∧ Row wx (.slice (some ⟨g, 0, none⟩) L c) xs g 0 c ∧ Still w wx)
    case first =>
      by_cases hfit : L + N ≤ c
      · have hcI : (L : Int) + N ≤ c := by omega
        go_wp2_with fail
        go_meet
        rcases HROW.out with ⟨a, b⟩ | ⟨g, rfl, hg, hr⟩
        · omega
        · exact ⟨g, c, L, rfl, by omega, hfit, hg, hr, Still.refl _⟩
      · have hcI : (c : Int) < (L : Int) + N := by omega
        have hcB : (c : Int) ≤ 2000000 := by omega
        obtain ⟨M, hM⟩ : ∃ M : Nat, (c : Int) * 2 + N = M := ⟨c * 2 + N, by omega⟩
        have hMb : M ≤ 5000000 := by omega
        have hLc0 : L ≤ c := by
          rcases HROW.out with ⟨a, b⟩ | ⟨g, e, hg, hr⟩
          · omega
          · have := hr.le; have := HL.out; omega
        have hLM : L + N ≤ M := by omega
        have hmc : madeCells #[Value.int .u8 0] M = (List.replicate M (Value.int .u8 0)).toArray := Array.ext' (by rw [toList_madeCells_one])
        have hsz1 : (Tryd.prog.info? 5).map (·.size) = some 1 := by rw [hi0]; exact congrArg some hz1
        have hLc : (bc xs).length = L := by rw [bc_length]; exact HL.out.symm
        have hmade : ∀ w1, w1 = w.alloc (.cells (madeCells #[Value.int .u8 0] M) 5) → Still w w1 ∧ Below w.heap.size w w1 ∧ w1.heap[w.heap.size]? = some (.cells (List.replicate M (Value.int .u8 0)).toArray 5 (0, 0)) := fun w1 hw1 => by
          rw [hw1]
          refine ⟨(Still.refl w).alloc _, (Below.refl _ _).alloc (Nat.le_refl _) _, ?_⟩
          rw [hmc]
          exact Array.getElem?_push_size
        have hsrc : ∀ w1, Still w w1 → 0 < (bc xs).length → ∃ ad, ao = some ad ∧ ∀ j v, (bc xs)[j]? = some v → w1.cell? (ad.add j) = some v := fun w1 hk hp => by
          rcases HROW.out with ⟨a, b⟩ | ⟨g, e, hg, hr⟩
          · omega
          · refine ⟨_, e, fun j v hv => ?_⟩
            have hj : j < (bc xs).length := (List.getElem?_eq_some_iff.1 hv).1
            rw [bc_length] at hj
            rw [Addr.add_lit]
            exact hk.cell ((hr.get j hj).trans hv)
        have HS := Lib.hid hsrc
        have HM := Lib.hid hmade
        clear hsrc hmade hmc
        go_wp2_with (first
          | (refine wpList_make_row _ rfl _ _ 74 rfl 5 i0 (.int .u8 0) Tryd.underlying74 hi0 hz0 hz1 rfl .i64 .i64 M rfl rfl (by rw [hz2]; omega) (by omega) ?_
             obtain ⟨w1, hw1⟩ : ∃ w1, w1 = w.alloc (.cells (madeCells #[Value.int .u8 0] M) 5) := ⟨_, rfl⟩
             obtain ⟨s1, s2, s3⟩ := HM.out w1 hw1
             rw [← hw1]
             have f0 := s1.cell h0
             have f1 := s1.cell hc0
             have S1 := Lib.hid s1
             have S2 := Lib.hid s2
             have S3 := Lib.hid s3
             clear hw1 s1 s2 s3)
          | (refine wpList_copy_splice rfl _ _ 74 74 rfl 5 Tryd.underlying74 hsz1 _ _ _ _ _ _ rfl rfl w.heap.size 0 (List.replicate M (Value.int .u8 0)) 5 S3.out (bc xs) (by rw [hLc]; show L = min L M; omega) (fun hp => ⟨rfl, HS.out _ S1.out hp⟩) (by rw [hLc, List.length_replicate]; omega) (bc_one xs) w.heap.size w S2.out (Nat.le_refl _) ?_; intro w2 hw2 hbw2))
        go_meet
        refine ⟨w.heap.size, M, M, rfl, Nat.le_refl _, hLM, hS, ?_, Still.below hbw2⟩
        have := row_made w2 w.heap.size 5 xs M (by have := HL.out; omega) (by unfold maxLen; omega) _ rfl hw2.out
        rw [← HL.out] at this
        exact this
    case rest =>
      obtain ⟨g, c, m, rfl, hmc, hfit, hgS, hr, hk⟩ := hcut
      have e0 := hk.cell h0
      have e3 := hk.cell h3
      have e7 := hk.cell h7
      have HR := Lib.hid hr
      have HK := Lib.hid hk
      have H0 := Lib.hid h0
      have HC0 := Lib.hid hc0
      clear hr hk h0 h3 h7 hc0 HROW
      have hpB : (if ze && !mi then (48 : Int) else 32) = (pb.toNat : Int) := by rw [HPB.out]; cases mi <;> cases ze <;> rfl
      have hlt : (L : Int) + 1 ≤ c := by omega
      have hfI : (L : Int) + N ≤ c := by omega
      have HPI := Lib.hid hpB
      have hLN : L + N - L = N := by omega
      have hcz : ∃ x, w.cell? ⟨bb, 0, none⟩ = some x := ⟨_, HC0.out⟩
      have HCZ := Lib.hid hcz
      have HZ := Lib.hid hz
      clear hpB hcz hz
      cases mi
      all_goals
        cases ze
        all_goals
          go_wp2_with fail
          go_loopg [60] N (fun q iv wr => ∃ i : Nat, iv = .int .i64 i ∧ i + q = N ∧ Row wr (.slice (some ⟨g, 0, none⟩) (L + i) c) (xs ++ List.replicate i pb) g 0 c ∧ w.keptBut wr (fun p => S ≤ p.block))
          case atStart => exact ⟨0, rfl, by omega, by simpa using HR.out, World.keptBut_mono (fun _ h => h.elim) HK.out⟩
          case round =>
            obtain ⟨i, rfl, hi, hr, hk⟩ := hrel
            have f0 := (hk.cell (off := 0) hfw (by show ¬ S ≤ f; omega)).trans H0.out
            have hlen : (xs ++ List.replicate i pb).length = L + i := by rw [List.length_append, List.length_replicate, HL.out]
            by_cases h : i < N
            · have hth := hr.there (L + i) (by omega)
              rw [Nat.zero_add] at hth
              obtain ⟨hth1, hth2⟩ := hth
              obtain ⟨y, hy⟩ := Option.isSome_iff_exists.1 hth1
              have HR2 := Lib.hid hr
              have HK2 := Lib.hid hk
              have HLN := Lib.hid hlen
              clear hr hk hth1 hlen
              go_wp2_with fail
              go_roundg (gk - 1)
              case measure => omega
              case rel =>
                refine ⟨i + 1, by go_num, by omega, ?_, ?_⟩
                · have h1 := HR2.out.push (by rw [HLN.out]; omega) pb _ (by simpa using HPI.out)
                  rw [HLN.out, Nat.zero_add, List.append_assoc, ← List.replicate_succ'] at h1
                  exact h1
                · exact keptBut_then HK2.out (World.keptBut_setCell wr ⟨g, L + i, none⟩ _ (may := fun p => p = .cell g (L + i)) rfl) (fun p hp => Or.inl (by rw [hp]; exact hgS))
            · obtain rfl : i = N := by omega
              have hbw : bb < w.heap.size := by omega
              obtain ⟨x, hx⟩ := HCZ.out
              have b0 := (hk.cell (off := 0) hbw (by show ¬ S ≤ bb; omega)).trans hx
              have bz : wr.frozen? ⟨bb, 0, none⟩ = false := (keptBut_frozen hk (a := ⟨bb, 0, none⟩) hbw).trans HZ.out
              have HR2 := Lib.hid hr
              have HK2 := Lib.hid hk
              have HB0 := Lib.hid b0
              clear hr hk hlen hx
              go_wp2_with fail
              go_region
              go_end0
              refine ⟨rfl, ⟨by show (wr.setCell _ _).frozen? _ = false; rw [World.frozen?_setCell]; exact bz, Or.inr ⟨g, c, _, cell_same HB0.out, (HR2.out.other _ (by show bb ≠ g; omega) _).still ((Still.refl _).drew), hgS, by omega⟩⟩, ?_⟩
              have h9 : w.keptBut (wr.setCell ⟨bb, 0, none⟩ (.slice (some ⟨g, 0, none⟩) (L + i) c)) (BufMay S bb) := keptBut_then (World.keptBut_mono (fun p h => Or.inr h) HK2.out) (World.keptBut_setCell wr ⟨bb, 0, none⟩ _ (may := fun p => p = .cell bb 0) rfl) (fun p hp => Or.inl (Or.inl (by rw [hp]; rfl)))
              exact h9
  · have hz : n.toNat = 0 := by omega
    rw [hz, List.replicate_zero, List.append_nil]
    have HB := Lib.hid hb
    clear hb hz
    go_enter Tryd.func46, Tryd.ntmps46
    go_wp2_with fail
    refine bodyPost_ret (results_none rfl _ _ _) rfl ?_
    exact ⟨rfl, HB.out, World.keptBut_refl _ _⟩

theorem BufIs.still {w w' : World} {S bb : Nat} {xs : List UInt8} (h : BufIs w S bb xs) (hs : Still w w') (hbb : bb < w.heap.size) : BufIs w' S bb xs := by
  obtain ⟨h1, h2⟩ := h
  refine ⟨(keptBut_frozen hs (a := ⟨bb, 0, none⟩) hbb).trans h1, ?_⟩
  rcases h2 with ⟨h2, h3⟩ | ⟨g, c, bv, h2, h3, h4, h5⟩
  · exact Or.inl ⟨hs.cell h2, h3⟩
  · exact Or.inr ⟨g, c, bv, hs.cell h2, h3.still hs, h4, h5⟩

/-- What pad writes. -/
def padTxt (hw mi ze : Bool) (wid : Nat) (l : List UInt8) : List UInt8 :=
  if hw then (if mi then l ++ List.replicate (wid - l.length) 32 else List.replicate (wid - l.length) (if ze then 48 else 32) ++ l) else l

theorem Row.bufKept {w w' : World} {v : Value} {xs : List UInt8} {g o c S bb : Nat} (h : Row w v xs g o c) (hk : w.keptBut w' (BufMay S bb)) (hS : S ≤ w.heap.size) (hg : g < S) (hgb : g ≠ bb) : Row w' v xs g o c := by
  have hl : g < w.heap.size := by omega
  have hn : ∀ off, ¬ BufMay S bb (.cell g off) := fun off h => by
    rcases h with h | h
    · exact hgb h
    · have : S ≤ g := h
      omega
  exact ⟨h.val, h.le, h.max, fun i hi => (hk.cell hl (hn _)).trans (h.get i hi), fun j hj => ⟨by rw [hk.cell hl (hn _)]; exact (h.there j hj).1, (keptBut_frozen hk (a := ⟨g, _, none⟩) hl).trans (h.there j hj).2⟩⟩

set_option maxRecDepth 100000 in
set_option maxHeartbeats 2000000 in
/-- (*fmt).pad. -/
theorem pad_any (S bb f : Nat) (xs ps : List UInt8) (pv : Value) (hw mi ze : Bool) (wid : Nat) (g o c : Nat) (w : World) (hbb : bb < S) (hS : S ≤ w.heap.size) (hf : f < S) (hfb : f ≠ bb) (hb : BufIs w S bb xs)
    (h0 : w.cell? ⟨f, 0, none⟩ = some (.pointer (some ⟨bb, 0, none⟩))) (h1 : w.cell? ⟨f, 1, none⟩ = some (.bool hw)) (h3 : w.cell? ⟨f, 3, none⟩ = some (.bool mi)) (h7 : w.cell? ⟨f, 7, none⟩ = some (.bool ze)) (h10 : w.cell? ⟨f, 10, none⟩ = some (.int .i64 wid))
    (hwid : wid ≤ 5000) (hr : Row w pv ps g o c) (hg : g < S) (hgb : g ≠ bb) (ha : ∀ c ∈ ps, c.toNat < 128) (hn : xs.length + ps.length ≤ 100000) :
    Calls Tryd.prog 44 #[.pointer (some ⟨f, 0, none⟩), pv] w fun e w' => e = .returned (.tuple #[]) ∧ BufIs w' S bb (xs ++ padTxt hw mi ze wid ps) ∧ w.keptBut w' (BufMay S bb) := by
  have hs : Src Tryd.prog 1 62 pv ps.length (bc ps) w := hr.src 62 Tryd.underlying62
  have hps : ps.length ≤ 100000 := by omega
  have hrc : ∀ n, Calls Tryd.prog 50 #[pv] (w.drewN n) fun e w' => e = .returned (.int .i64 ps.length) ∧ w' = w.drewN n := fun n => (runes_ascii pv ps g o c (w.drewN n) (hr.still ((Still.refl w).drewN n)) ha (by omega)).mono fun _ _ h => ⟨h.1, h.2.symm⟩
  have hwr := bwrite_any S bb xs ps pv w hbb hS hb hs (by omega)
  cases hw
  · have HW := Lib.hid hwr
    clear hwr hrc hs hr ha hb
    go_enter Tryd.func44, Tryd.ntmps44
    go_wp2_with fail
    refine HW.out.mono ?_
    rintro e w' ⟨rfl, hb', hk'⟩
    go_wp2_with fail
    refine bodyPost_ret (results_none rfl _ _ _) rfl ?_
    exact ⟨rfl, hb', hk'⟩
  · by_cases hw0 : wid = 0
    · have ht : padTxt true mi ze wid ps = ps := by
        unfold padTxt
        rw [hw0, Nat.zero_sub]
        cases mi <;> simp
      rw [ht]
      subst hw0
      have HW := Lib.hid hwr
      clear hwr hrc hs hr ha hb ht
      go_enter Tryd.func44, Tryd.ntmps44
      go_wp2_with fail
      refine HW.out.mono ?_
      rintro e w' ⟨rfl, hb', hk'⟩
      go_wp2_with fail
      refine bodyPost_ret (results_none rfl _ _ _) rfl ?_
      exact ⟨rfl, hb', hk'⟩
    · have hwI : ((wid : Int) == 0) = false := by simp; omega
      obtain ⟨L, hL⟩ : ∃ L, L = ps.length := ⟨_, rfl⟩
      have hLb : L ≤ 100000 := by omega
      obtain ⟨d, hd⟩ : ∃ d : Int, d = (wid : Int) - L := ⟨_, rfl⟩
      have hd2 : IntKind.i64.wrap ((wid : Int) - L) = d := by rw [hd]; exact IntWalk.i64_in _ (by omega)
      have hd3 : d.toNat = wid - ps.length := by omega
      have hdb : -100000 ≤ d ∧ d ≤ 5000 := by omega
      rw [← hL] at hrc
      have hwp : ∀ (ys : List UInt8) (w1 : World), S ≤ w1.heap.size → BufIs w1 S bb ys → w1.cell? ⟨f, 0, none⟩ = some (.pointer (some ⟨bb, 0, none⟩)) → w1.cell? ⟨f, 3, none⟩ = some (.bool mi) → w1.cell? ⟨f, 7, none⟩ = some (.bool ze) → ys.length ≤ 1000000 →
          Calls Tryd.prog 46 #[.pointer (some ⟨f, 0, none⟩), .int .i64 d] w1 fun e w' => e = .returned (.tuple #[]) ∧ BufIs w' S bb (ys ++ List.replicate d.toNat (padB ze mi)) ∧ w1.keptBut w' (BufMay S bb) :=
        fun ys w1 q1 q2 q3 q4 q5 q6 => wpad_any S bb f ys d mi ze w1 hbb q1 hf hfb q2 q3 q4 q5 (by omega) (by omega) q6
      have hfw : f < w.heap.size := by omega
      have hfn : ∀ off, ¬ BufMay S bb (.cell f off) := fun off h => by
        rcases h with h | h
        · exact hfb h
        · have : S ≤ f := h
          omega
      have HRC := Lib.hid hrc
      have HWP := Lib.hid hwp
      have HR := Lib.hid hr
      have HB := Lib.hid hb
      have HD3 := Lib.hid hd3
      have HHL := Lib.hid hL
      have HH0 := Lib.hid h0
      have HH3 := Lib.hid h3
      have HH7 := Lib.hid h7
      have HFN := Lib.hid hfn
      have HFB := Lib.hid hfb
      clear hwr hrc hs hr ha hb hwp hd3 hL hfn hd
      go_enter Tryd.func44, Tryd.ntmps44
      go_wp2_with fail
      go_quiet ((go_at_call 50; exact Calls.quiet_of_same (HRC.out _)))
      obtain ⟨w1, hw1⟩ : ∃ w1, w1 = w.drewN nq := ⟨_, rfl⟩
      have hs1 : Still w w1 := by rw [hw1]; exact (Still.refl w).drewN nq
      have S1 : S ≤ w1.heap.size := by rw [hw1]; exact hS
      have HB1 : Hid (BufIs w1 S bb xs) := Lib.hid (HB.out.still hs1 (by omega))
      rw [← hw1]
      have n0 := hs1.cell HH0.out
      have n3 := hs1.cell HH3.out
      have n7 := hs1.cell HH7.out
      have HS1 := Lib.hid hs1
      have hfw1 : f < w1.heap.size := Nat.lt_of_lt_of_le hfw hs1.size
      clear hw1 hs1 hd2
      have hxl : xs.length ≤ 100000 := by omega
      have hpl : ps.length ≤ 100000 := by omega
      cases mi
      · have hc := HWP.out xs w1 S1 HB1.out n0 n3 n7 (by omega)
        have HC := Lib.hid hc
        clear hc
        go_wp2_with fail
        refine HC.out.mono ?_
        rintro e w2 ⟨rfl, hb2, hk2⟩
        have r2 := (HR.out.still HS1.out).bufKept hk2 S1 hg hgb
        have p0 := (hk2.cell (off := 0) hfw1 (HFN.out _)).trans n0
        have hc2 := bwrite_any S bb _ ps pv w2 hbb (Nat.le_trans S1 hk2.size) hb2 (r2.src 62 Tryd.underlying62) (by rw [List.length_append, List.length_replicate]; omega)
        have HC2 := Lib.hid hc2
        have HK2 := Lib.hid hk2
        clear hc2 hb2 hk2 r2
        go_wp2_with fail
        refine HC2.out.mono ?_
        rintro e w3 ⟨rfl, hb3, hk3⟩
        go_wp2_with fail
        go_end0
        refine ⟨rfl, ?_, World.keptBut_trans (World.keptBut_trans (World.keptBut_mono (fun _ h => h.elim) HS1.out) HK2.out) hk3⟩
        rw [List.append_assoc, HD3.out] at hb3
        unfold padTxt
        rw [if_pos rfl, if_neg (by decide)]
        unfold padB at hb3
        cases ze <;> exact hb3
      · have hc := bwrite_any S bb xs ps pv w1 hbb S1 HB1.out ((HR.out.still HS1.out).src 62 Tryd.underlying62) (by omega)
        have HC := Lib.hid hc
        clear hc
        go_wp2_with fail
        refine HC.out.mono ?_
        rintro e w2 ⟨rfl, hb2, hk2⟩
        have p0 := (hk2.cell (off := 0) hfw1 (HFN.out _)).trans n0
        have p3 := (hk2.cell (off := 3) hfw1 (HFN.out _)).trans n3
        have p7 := (hk2.cell (off := 7) hfw1 (HFN.out _)).trans n7
        have hc2 := HWP.out _ w2 (Nat.le_trans S1 hk2.size) hb2 p0 p3 p7 (by rw [List.length_append]; omega)
        have HC2 := Lib.hid hc2
        have HK2 := Lib.hid hk2
        clear hc2 hb2 hk2
        go_wp2_with fail
        refine HC2.out.mono ?_
        rintro e w3 ⟨rfl, hb3, hk3⟩
        go_wp2_with fail
        go_end0
        refine ⟨rfl, ?_, World.keptBut_trans (World.keptBut_trans (World.keptBut_mono (fun _ h => h.elim) HS1.out) HK2.out) hk3⟩
        rw [List.append_assoc, HD3.out] at hb3
        unfold padTxt
        rw [if_pos rfl, if_pos rfl]
        unfold padB at hb3
        cases ze <;> exact hb3

end Go.Proofs.YthfjpofbaeeafaaDoor
