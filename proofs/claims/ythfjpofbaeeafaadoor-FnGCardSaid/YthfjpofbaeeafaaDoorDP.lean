/-
  prefixIsLessThan, over the decimal's digits.
-/
import Derived.Test.YthfjpofbaeeafaaDoorDM
namespace Go.Proofs.YthfjpofbaeeafaaDoor
open Go.RowKit

/-- The first n digits. -/
def dl (f : Nat → Nat) (n : Nat) : List Nat := (List.range n).map fun i => f i - 48
theorem dl_length (f : Nat → Nat) (n : Nat) : (dl f n).length = n := by simp [dl]
theorem dl_getD (f : Nat → Nat) (n i : Nat) (h : i < n) : (dl f n).getD i 0 = f i - 48 := by
  rw [List.getD_eq_getElem?_getD, List.getElem?_eq_getElem (by rw [dl_length]; exact h)]
  simp [dl]
theorem dl_succ (f : Nat → Nat) (n : Nat) : dl f (n + 1) = dl f n ++ [f n - 48] := by
  unfold dl
  rw [List.range_succ, List.map_append]
  rfl
theorem dl_take (f : Nat → Nat) (n j : Nat) (h : j ≤ n) : (dl f n).take j = dl f j := by
  unfold dl
  rw [← List.map_take, List.take_range, Nat.min_eq_left h]
theorem dl_congr {f f' : Nat → Nat} {n : Nat} (h : ∀ i, i < n → f i = f' i) : dl f n = dl f' n := by
  unfold dl
  exact List.map_congr_left fun i hi => by rw [h i (List.mem_range.1 hi)]

/-- The bytes of the first n digits from i on. -/
def rawFrom (f : Nat → Nat) (n i : Nat) : List Nat := (List.range (n - i)).map fun t => f (i + t)
theorem rawFrom_cons (f : Nat → Nat) (n i : Nat) (h : i < n) : rawFrom f n i = f i :: rawFrom f n (i + 1) := by
  unfold rawFrom
  rw [show n - i = (n - (i + 1)) + 1 by omega, List.range_succ_eq_map, List.map_cons, List.map_map]
  congr 1
  exact List.map_congr_left fun t _ => by simp only [Function.comp]; congr 1; omega
theorem rawFrom_end (f : Nat → Nat) (n i : Nat) (h : n ≤ i) : rawFrom f n i = [] := by
  unfold rawFrom
  rw [show n - i = 0 by omega]; rfl

theorem ltP_map : ∀ (b s : List Nat), (∀ x ∈ b, 48 ≤ x) → (∀ x ∈ s, 48 ≤ x) → ltP (b.map (· - 48)) (s.map (· - 48)) = ltP b s
  | b, [], _, _ => by cases b <;> rfl
  | [], s :: ss, _, _ => rfl
  | b :: bs, s :: ss, hb, hs => by
    have h1 := hb b (by simp)
    have h2 := hs s (by simp)
    rw [List.map_cons, List.map_cons]
    unfold ltP
    rw [ltP_map bs ss (fun x hx => hb x (List.mem_cons_of_mem _ hx)) (fun x hx => hs x (List.mem_cons_of_mem _ hx))]
    by_cases e : b = s
    · rw [if_pos e, if_pos (by omega)]
    · rw [if_neg e, if_neg (by omega)]
      exact decide_eq_decide.2 (by omega)

theorem ltP_dl (f : Nat → Nat) (n : Nat) (s : List UInt8) (hf : ∀ i, i < n → 48 ≤ f i) (hs : ∀ c ∈ s, 48 ≤ c.toNat) : ltP (rawFrom f n 0) (s.map UInt8.toNat) = ltP (dl f n) (s.map fun c => c.toNat - 48) := by
  have := ltP_map (rawFrom f n 0) (s.map UInt8.toNat) (fun x hx => by
    obtain ⟨i, hi, rfl⟩ := List.mem_map.1 hx
    have := List.mem_range.1 hi
    exact hf _ (by omega)) (fun x hx => by
    obtain ⟨c, hc, rfl⟩ := List.mem_map.1 hx
    exact hs c hc)
  rw [← this, List.map_map]
  unfold rawFrom dl
  rw [List.map_map]
  congr 1
  rw [Nat.sub_zero]
  exact List.map_congr_left fun t _ => by simp

theorem bytes_idx {s : ByteArray} {l : List UInt8} (hs : s.data.toList = l) {k : Nat} (hk : k < s.size) (hk' : k < l.length) : s[k] = l[k] := by
  subst hs
  rfl
theorem bytes_size {s : ByteArray} {l : List UInt8} (hs : s.data.toList = l) : s.size = l.length := by
  rw [← hs]; rfl

def PrefRes (W : World) (b : Bool) (e : Ending) (w' : World) : Prop := e = .returned (.bool b) ∧ ∃ n, w' = W.drewN n

set_option maxRecDepth 100000 in
set_option maxHeartbeats 1000000 in
theorem prefix_any (W : World) (g : Nat) (f : Nat → Nat) (nd : Nat) (dp : Int) (h : Dm W g f nd dp) (hnd : nd ≤ 800) (s : ByteArray) (l : List UInt8) (hs : s.data.toList = l) (hl : l.length ≤ 100) :
    Calls Tryd.prog 95 #[.slice (some ⟨g, 0, none⟩) nd 800, .string s] W (PrefRes W (ltP (rawFrom f nd 0) (l.map UInt8.toNat))) := by
  have HD := Lib.hid h
  have HS := Lib.hid hs
  have hsz := bytes_size hs
  have hsz1 : s.size ≤ 100 := by omega
  have hsz2 : (s.size : Int) ≤ 100 := by omega
  have HSZ := Lib.hid hsz
  obtain ⟨R, hR⟩ : ∃ R, R = ltP (rawFrom f nd 0) (l.map UInt8.toNat) := ⟨_, rfl⟩
  rw [← hR]
  have HR := Lib.hid hR
  have hndI : (nd : Int) ≤ 800 := by omega
  clear h hs hsz hR
  go_enter Tryd.func95, Tryd.ntmps95
  go_wp2_with fail
  go_loopg [5] (l.length) (fun q v wr => ∃ i n : Nat, v = .int .i64 i ∧ i + q = l.length ∧ ltP (rawFrom f nd i) ((l.drop i).map UInt8.toNat) = R ∧ wr = W.drewN n)
  case atStart => exact ⟨0, 0, rfl, by omega, by rw [HR.out]; rfl, rfl⟩
  case round =>
    obtain ⟨i, n, rfl, hi, hq, rfl⟩ := hrel
    have HQ := Lib.hid hq
    have hszl := HSZ.out
    clear hq
    by_cases hlt : i < l.length
    · have his : i < s.size := by omega
      have hisI : (i : Int) < s.size := by omega
      clear hszl
      have hld : l.drop i = l[i] :: l.drop (i + 1) := List.drop_eq_getElem_cons hlt
      by_cases hin : i < nd
      · have hinI : (i : Int) < nd := by omega
        have hge : decide ((nd : Int) ≤ (i : Int)) = false := decide_eq_false (by omega)
        have hge' : decide (nd ≤ i) = false := decide_eq_false (by omega)
        have hc := HD.out.cell i (by omega)
        have hsi : s[i] = l[i] := bytes_idx HS.out his hlt
        obtain ⟨b, hb⟩ : ∃ b, b = f i := ⟨_, rfl⟩
        rw [← hb] at hc
        have HB := Lib.hid hb
        have HLD := Lib.hid hld
        have HSI := Lib.hid hsi
        clear hb hld hsi
        by_cases hne : b = s[i].toNat
        · have hn1 : ((b : Int) != (s[i].toNat : Int)) = false := by rw [hne]; exact bne_self_eq_false _
          have HNE := Lib.hid hne
          clear hne
          go_wp2_with fail
          go_quiet (fail)
          go_wp2_with fail
          go_roundg (gk - 1)
          case measure => omega
          case rel =>
            refine ⟨i + 1, _, rfl, by omega, ?_, rfl⟩
            have := HQ.out
            rw [HLD.out, List.map_cons, rawFrom_cons f nd i hin] at this
            unfold ltP at this
            rw [if_pos (by rw [← HB.out, HNE.out, HSI.out])] at this
            exact this
        · have hn1 : ((b : Int) != (s[i].toNat : Int)) = true := bne_iff_ne.2 (by omega)
          go_wp2_with fail
          go_quiet (fail)
          go_wp2_with fail
          go_quiet (fail)
          go_wp2_with fail
          go_ret
          refine ⟨?_, _, (by rw [World.drewN_drewN, World.drewN_drewN])⟩
          have := HQ.out
          rw [HLD.out, List.map_cons, rawFrom_cons f nd i hin] at this
          unfold ltP at this
          rw [if_neg (by rw [← HB.out, ← HSI.out]; exact hne), ← HB.out, ← HSI.out] at this
          rw [← this]
          rfl
      · have hge : decide ((nd : Int) ≤ (i : Int)) = true := decide_eq_true (by omega)
        have hge' : decide (nd ≤ i) = true := decide_eq_true (by omega)
        have HLD := Lib.hid hld
        clear hld
        go_wp2_with fail
        go_ret
        refine ⟨?_, n, rfl⟩
        have := HQ.out
        rw [HLD.out, List.map_cons, rawFrom_end f nd i (by omega)] at this
        unfold ltP at this
        rw [← this]
        rfl
    · have hil : l.length = i := by omega
      have hfin : ltP (rawFrom f nd i) ((l.drop i).map UInt8.toNat) = false := by
        rw [← hil, List.drop_length]
        cases rawFrom f nd l.length <;> rfl
      have hisI : ¬ (i : Int) < s.size := by omega
      have his : ¬ i < s.size := by omega
      have HF := Lib.hid hfin
      clear hfin hil hszl
      go_wp2_with fail
      go_ret
      exact ⟨by rw [← HQ.out, HF.out]; rfl, n, rfl⟩

end Go.Proofs.YthfjpofbaeeafaaDoor
