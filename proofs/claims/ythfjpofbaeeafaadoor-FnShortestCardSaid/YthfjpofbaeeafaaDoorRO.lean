/-
  The decimal in memory, and trim: noughts at the end are struck.
  prefixIsLessThan, over the decimal's digits.
  leftShift: the decimal times a power of two.
  rightShift: the decimal divided by a power of two.
  Shift: the decimal times a power of two, to either side.
  Assign: a whole number as a decimal.
  Round: the decimal, to n digits.
-/
import Derived.Test.YthfjpofbaeeafaaDoorSD
import Derived.LoopTactic
import Derived.Deep.LoopGhost
import Derived.Deep.DeepCutAuto
import Derived.Test.YthfjpofbaeeafaaDoorInts
import Derived.Test.YthfjpofbaeeafaaDoorNum2
import Derived.Deep.CutBlock
import Derived.RegionTactic
import Derived.ChangeAlike
namespace Go.Proofs.YthfjpofbaeeafaaDoor
open Go.RowKit

/-- The decimal in block g: its 800 bytes are f's, nd of them count, the point stands behind dp. -/
structure Dm (w : World) (g : Nat) (f : Nat → Nat) (nd : Nat) (dp : Int) : Prop where
  cell : ∀ i, i < 800 → w.cell? ⟨g, i, none⟩ = some (.int .u8 (f i : Int))
  byte : ∀ i, i < 800 → f i < 256
  nd : w.cell? ⟨g, 800, none⟩ = some (.int .i64 nd)
  dp : w.cell? ⟨g, 801, none⟩ = some (.int .i64 dp)
  tr : w.cell? ⟨g, 803, none⟩ = some (.bool false)
  free : ∀ i, w.frozen? ⟨g, i, none⟩ = false
  lt : g < w.heap.size

/-- Nothing but the block g has turned. -/
def Kp (g : Nat) (w w' : World) : Prop := w.keptBut w' (fun p => p.block = g)
theorem Kp.refl (g : Nat) (w : World) : Kp g w w := World.keptBut_refl _ _
theorem Kp.trans {g : Nat} {a b c : World} (h : Kp g a b) (h' : Kp g b c) : Kp g a c := World.keptBut_trans h h'
theorem Kp.set {g : Nat} {a b : World} (h : Kp g a b) (o : Nat) (v : Value) : Kp g a (b.setCell ⟨g, o, none⟩ v) := World.keptBut_trans h (World.keptBut_setCell b ⟨g, o, none⟩ v rfl)
theorem Kp.drewN {g : Nat} {a b : World} (h : Kp g a b) (n : Nat) : Kp g a (b.drewN n) := h
theorem Kp.drew {g : Nat} {a b : World} (h : Kp g a b) : Kp g a b.drew := h
theorem Kp.still {g : Nat} {a b c : World} (h : Kp g a b) (h' : Still b c) : Kp g a c := World.keptBut_trans h (World.keptBut_mono (fun _ f => f.elim) h')
theorem Kp.tabs {B g : Nat} {a b : World} (h : Kp g a b) (hT : Tabs B a) (hB : B ≤ g) : Tabs B b := hT.kept h (fun p hp e => by omega)
theorem Kp.since {g : Nat} {W a b : World} (h : Still W a) (h' : Kp g a b) (hg : W.heap.size ≤ g) : Still W b := keptBut_then h h' (fun p hp => Or.inr (by rw [show p.block = g from hp]; exact hg))

section
variable {w : World} {g : Nat} {f : Nat → Nat} {nd : Nat} {dp : Int}
theorem ne_off {g a b : Nat} (h : a ≠ b) : (⟨g, a, none⟩ : Addr) ≠ ⟨g, b, none⟩ := fun q => h (by have := congrArg Addr.off q; simpa using this)
theorem Dm.drewN (h : Dm w g f nd dp) (n : Nat) : Dm (w.drewN n) g f nd dp := ⟨h.cell, h.byte, h.nd, h.dp, h.tr, h.free, h.lt⟩
theorem Dm.drew (h : Dm w g f nd dp) : Dm w.drew g f nd dp := ⟨h.cell, h.byte, h.nd, h.dp, h.tr, h.free, h.lt⟩
theorem Dm.setD (h : Dm w g f nd dp) {i v : Nat} (hi : i < 800) (hv : v < 256) {x : Int} (hx : x = (v : Int)) : Dm (w.setCell ⟨g, i, none⟩ (.int .u8 x)) g (fun j => if j = i then v else f j) nd dp := by
  subst hx
  refine ⟨fun j hj => ?_, fun j hj => ?_, ?_, ?_, ?_, fun j => by rw [World.frozen?_setCell]; exact h.free j, by rw [World.size_setCell]; exact h.lt⟩
  · by_cases e : j = i
    · subst e
      rw [World.cell?_setCell_same _ _ _ (h.cell j hj), if_pos rfl]
    · rw [World.cell?_setCell_other _ _ _ _ (ne_off e).symm, if_neg e]
      exact h.cell j hj
  · by_cases e : j = i
    · rw [if_pos e]; exact hv
    · rw [if_neg e]; exact h.byte j hj
  · rw [World.cell?_setCell_other _ _ _ _ (ne_off (by omega)), h.nd]
  · rw [World.cell?_setCell_other _ _ _ _ (ne_off (by omega)), h.dp]
  · rw [World.cell?_setCell_other _ _ _ _ (ne_off (by omega)), h.tr]
theorem Dm.setNd (h : Dm w g f nd dp) (n : Nat) {x : Int} (hx : x = (n : Int)) : Dm (w.setCell ⟨g, 800, none⟩ (.int .i64 x)) g f n dp := by
  subst hx
  refine ⟨fun j hj => ?_, h.byte, ?_, ?_, ?_, fun j => by rw [World.frozen?_setCell]; exact h.free j, by rw [World.size_setCell]; exact h.lt⟩
  · rw [World.cell?_setCell_other _ _ _ _ (ne_off (by omega)), h.cell j hj]
  · rw [World.cell?_setCell_same _ _ _ h.nd]
  · rw [World.cell?_setCell_other _ _ _ _ (ne_off (by omega)), h.dp]
  · rw [World.cell?_setCell_other _ _ _ _ (ne_off (by omega)), h.tr]
theorem Dm.setDp (h : Dm w g f nd dp) (d : Int) : Dm (w.setCell ⟨g, 801, none⟩ (.int .i64 d)) g f nd d := by
  refine ⟨fun j hj => ?_, h.byte, ?_, ?_, ?_, fun j => by rw [World.frozen?_setCell]; exact h.free j, by rw [World.size_setCell]; exact h.lt⟩
  · rw [World.cell?_setCell_other _ _ _ _ (ne_off (by omega)), h.cell j hj]
  · rw [World.cell?_setCell_other _ _ _ _ (ne_off (by omega)), h.nd]
  · rw [World.cell?_setCell_same _ _ _ h.dp]
  · rw [World.cell?_setCell_other _ _ _ _ (ne_off (by omega)), h.tr]
theorem Dm.still {w' : World} (h : Dm w g f nd dp) (hs : Still w w') : Dm w' g f nd dp :=
  ⟨fun i hi => hs.cell (h.cell i hi), h.byte, hs.cell h.nd, hs.cell h.dp, hs.cell h.tr, fun i => (keptBut_frozen hs (a := ⟨g, i, none⟩) h.lt).trans (h.free i), Nat.lt_of_lt_of_le h.lt hs.size⟩
theorem Dm.same (h : Dm w g f nd dp) {f' : Nat → Nat} (hf : ∀ i, i < 800 → f' i = f i) : Dm w g f' nd dp :=
  ⟨fun i hi => by rw [hf i hi]; exact h.cell i hi, fun i hi => by rw [hf i hi]; exact h.byte i hi, h.nd, h.dp, h.tr, h.free, h.lt⟩
end

/-- What trim leaves. -/
def TrimRes (W : World) (g : Nat) (f : Nat → Nat) (nd : Nat) (dp : Int) (e : Ending) (w' : World) : Prop :=
  e = .returned (.tuple #[]) ∧ Kp g W w' ∧ ∃ j, j ≤ nd ∧ (∀ i, j ≤ i → i < nd → f i = 48) ∧ (0 < j → f (j - 1) ≠ 48) ∧ Dm w' g f j (if j = 0 then 0 else dp)

set_option maxRecDepth 100000 in
set_option maxHeartbeats 1000000 in
theorem trim_any (W : World) (g : Nat) (f : Nat → Nat) (nd : Nat) (dp : Int) (h : Dm W g f nd dp) (hnd : nd ≤ 800) :
    Calls Tryd.prog 84 #[.pointer (some ⟨g, 0, none⟩)] W (TrimRes W g f nd dp) := by
  have HD := Lib.hid h
  clear h
  go_enter Tryd.func84, Tryd.ntmps84
  go_wp2_with fail
  go_loopg [] nd (fun q wr => ∃ j : Nat, j ≤ q ∧ j ≤ nd ∧ (∀ i, j ≤ i → i < nd → f i = 48) ∧ Dm wr g f j dp ∧ Kp g W wr)
  case atStart => exact ⟨nd, Nat.le_refl _, Nat.le_refl _, fun i h1 h2 => by omega, HD.out, Kp.refl _ _⟩
  case round =>
    obtain ⟨j, hjq, hj, hz, hD, hK⟩ := hrel
    have HZ := Lib.hid hz
    have c800 := hD.nd
    have c801 := hD.dp
    have f800 := hD.free 800
    have f801 := hD.free 801
    have hlt := hD.lt
    rcases Nat.eq_zero_or_pos j with h0 | h0
    · subst h0
      have HDD := Lib.hid hD
      have HKK := Lib.hid hK
      clear hz hD hK
      go_wp2_with fail
      go_quiet (fail)
      go_wp2_with fail
      go_end0
      exact ⟨rfl, (HKK.out.drewN nq).set _ _, 0, by omega, HZ.out, fun h => by omega, by rw [if_pos rfl]; exact (HDD.out.drewN nq).setDp 0⟩
    · obtain ⟨t, rfl⟩ : ∃ t, j = t + 1 := ⟨j - 1, by omega⟩
      have hct := hD.cell t (by omega)
      have ht1 : ((t + 1 : Nat) : Int) - 1 = (t : Int) := by omega
      have ht2 : (t : Int) < 800 := by omega
      have ht3 : t < 800 := by omega
      have hne0 : (((t + 1 : Nat) : Int) == 0) = false := by simp; omega
      have HDD := Lib.hid hD
      have HKK := Lib.hid hK
      clear hz hD hK
      obtain ⟨b, hb⟩ : ∃ b, b = f t := ⟨_, rfl⟩
      rw [← hb] at hct
      have HB := Lib.hid hb
      clear hb
      by_cases h48 : b = 48
      · have h48' : ((b : Int) == 48) = true := by rw [h48]; rfl
        go_wp2_with fail
        go_quiet (fail)
        go_wp2_with fail
        go_roundg (gk - 1)
        case measure => omega
        case rel => exact ⟨t, by omega, by omega, fun i h1 h2 => (by
            by_cases e : i = t
            · rw [e, ← HB.out, h48]
            · exact HZ.out i (by omega) h2), (HDD.out.drewN nq).setNd t (by omega), (HKK.out.drewN nq).set _ _⟩
      · have h48' : ((b : Int) == 48) = false := by simp; omega
        go_wp2_with fail
        go_quiet (fail)
        go_wp2_with fail
        go_end0
        exact ⟨rfl, HKK.out.drewN nq, t + 1, by omega, HZ.out, fun _ => (by rw [Nat.add_sub_cancel, ← HB.out]; exact h48), by rw [if_neg (by omega)]; exact HDD.out.drewN nq⟩


/-- The first n digits. -/
def dl (f : Nat → Nat) (n : Nat) : List Nat := (List.range n).map fun i => f i - 48
theorem dl_length (f : Nat → Nat) (n : Nat) : (dl f n).length = n := by simp [dl]
theorem dl_getD (f : Nat → Nat) (n i : Nat) (h : i < n) : (dl f n).getD i 0 = f i - 48 := by
  rw [List.getD_eq_getElem?_getD, List.getElem?_eq_getElem (by rw [dl_length]; exact h)]
  simp [dl]
theorem dl_succ (f : Nat → Nat) (n : Nat) : dl f (n + 1) = dl f n ++ [f n - 48] := by
  unfold dl
  rw [List.range_succ, List.map_append]
  rfl
theorem dl_take (f : Nat → Nat) (n j : Nat) (h : j ≤ n) : (dl f n).take j = dl f j := by
  unfold dl
  rw [← List.map_take, List.take_range, Nat.min_eq_left h]
theorem dl_congr {f f' : Nat → Nat} {n : Nat} (h : ∀ i, i < n → f i = f' i) : dl f n = dl f' n := by
  unfold dl
  exact List.map_congr_left fun i hi => by rw [h i (List.mem_range.1 hi)]

/-- The bytes of the first n digits from i on. -/
def rawFrom (f : Nat → Nat) (n i : Nat) : List Nat := (List.range (n - i)).map fun t => f (i + t)
theorem rawFrom_cons (f : Nat → Nat) (n i : Nat) (h : i < n) : rawFrom f n i = f i :: rawFrom f n (i + 1) := by
  unfold rawFrom
  rw [show n - i = (n - (i + 1)) + 1 by omega, List.range_succ_eq_map, List.map_cons, List.map_map]
  congr 1
  exact List.map_congr_left fun t _ => by simp only [Function.comp]; congr 1; omega
theorem rawFrom_end (f : Nat → Nat) (n i : Nat) (h : n ≤ i) : rawFrom f n i = [] := by
  unfold rawFrom
  rw [show n - i = 0 by omega]; rfl

theorem ltP_map : ∀ (b s : List Nat), (∀ x ∈ b, 48 ≤ x) → (∀ x ∈ s, 48 ≤ x) → ltP (b.map (· - 48)) (s.map (· - 48)) = ltP b s
  | b, [], _, _ => by cases b <;> rfl
  | [], s :: ss, _, _ => rfl
  | b :: bs, s :: ss, hb, hs => by
    have h1 := hb b (by simp)
    have h2 := hs s (by simp)
    rw [List.map_cons, List.map_cons]
    unfold ltP
    rw [ltP_map bs ss (fun x hx => hb x (List.mem_cons_of_mem _ hx)) (fun x hx => hs x (List.mem_cons_of_mem _ hx))]
    by_cases e : b = s
    · rw [if_pos e, if_pos (by omega)]
    · rw [if_neg e, if_neg (by omega)]
      exact decide_eq_decide.2 (by omega)

theorem ltP_dl (f : Nat → Nat) (n : Nat) (s : List UInt8) (hf : ∀ i, i < n → 48 ≤ f i) (hs : ∀ c ∈ s, 48 ≤ c.toNat) : ltP (rawFrom f n 0) (s.map UInt8.toNat) = ltP (dl f n) (s.map fun c => c.toNat - 48) := by
  have := ltP_map (rawFrom f n 0) (s.map UInt8.toNat) (fun x hx => by
    obtain ⟨i, hi, rfl⟩ := List.mem_map.1 hx
    have := List.mem_range.1 hi
    exact hf _ (by omega)) (fun x hx => by
    obtain ⟨c, hc, rfl⟩ := List.mem_map.1 hx
    exact hs c hc)
  rw [← this, List.map_map]
  unfold rawFrom dl
  rw [List.map_map]
  congr 1
  rw [Nat.sub_zero]
  exact List.map_congr_left fun t _ => by simp

theorem bytes_idx {s : ByteArray} {l : List UInt8} (hs : s.data.toList = l) {k : Nat} (hk : k < s.size) (hk' : k < l.length) : s[k] = l[k] := by
  subst hs
  rfl
theorem bytes_size {s : ByteArray} {l : List UInt8} (hs : s.data.toList = l) : s.size = l.length := by
  rw [← hs]; rfl

def PrefRes (W : World) (b : Bool) (e : Ending) (w' : World) : Prop := e = .returned (.bool b) ∧ ∃ n, w' = W.drewN n

set_option maxRecDepth 100000 in
set_option maxHeartbeats 1000000 in
theorem prefix_any (W : World) (g : Nat) (f : Nat → Nat) (nd : Nat) (dp : Int) (h : Dm W g f nd dp) (hnd : nd ≤ 800) (s : ByteArray) (l : List UInt8) (hs : s.data.toList = l) (hl : l.length ≤ 100) :
    Calls Tryd.prog 95 #[.slice (some ⟨g, 0, none⟩) nd 800, .string s] W (PrefRes W (ltP (rawFrom f nd 0) (l.map UInt8.toNat))) := by
  have HD := Lib.hid h
  have HS := Lib.hid hs
  have hsz := bytes_size hs
  have hsz1 : s.size ≤ 100 := by omega
  have hsz2 : (s.size : Int) ≤ 100 := by omega
  have HSZ := Lib.hid hsz
  obtain ⟨R, hR⟩ : ∃ R, R = ltP (rawFrom f nd 0) (l.map UInt8.toNat) := ⟨_, rfl⟩
  rw [← hR]
  have HR := Lib.hid hR
  have hndI : (nd : Int) ≤ 800 := by omega
  clear h hs hsz hR
  go_enter Tryd.func95, Tryd.ntmps95
  go_wp2_with fail
  go_loopg [5] (l.length) (fun q v wr => ∃ i n : Nat, v = .int .i64 i ∧ i + q = l.length ∧ ltP (rawFrom f nd i) ((l.drop i).map UInt8.toNat) = R ∧ wr = W.drewN n)
  case atStart => exact ⟨0, 0, rfl, by omega, by rw [HR.out]; rfl, rfl⟩
  case round =>
    obtain ⟨i, n, rfl, hi, hq, rfl⟩ := hrel
    have HQ := Lib.hid hq
    have hszl := HSZ.out
    clear hq
    by_cases hlt : i < l.length
    · have his : i < s.size := by omega
      have hisI : (i : Int) < s.size := by omega
      clear hszl
      have hld : l.drop i = l[i] :: l.drop (i + 1) := List.drop_eq_getElem_cons hlt
      by_cases hin : i < nd
      · have hinI : (i : Int) < nd := by omega
        have hge : decide ((nd : Int) ≤ (i : Int)) = false := decide_eq_false (by omega)
        have hge' : decide (nd ≤ i) = false := decide_eq_false (by omega)
        have hc := HD.out.cell i (by omega)
        have hsi : s[i] = l[i] := bytes_idx HS.out his hlt
        obtain ⟨b, hb⟩ : ∃ b, b = f i := ⟨_, rfl⟩
        rw [← hb] at hc
        have HB := Lib.hid hb
        have HLD := Lib.hid hld
        have HSI := Lib.hid hsi
        clear hb hld hsi
        by_cases hne : b = s[i].toNat
        · have hn1 : ((b : Int) != (s[i].toNat : Int)) = false := by rw [hne]; exact bne_self_eq_false _
          have HNE := Lib.hid hne
          clear hne
          go_wp2_with fail
          go_quiet (fail)
          go_wp2_with fail
          go_roundg (gk - 1)
          case measure => omega
          case rel =>
            refine ⟨i + 1, _, rfl, by omega, ?_, rfl⟩
            have := HQ.out
            rw [HLD.out, List.map_cons, rawFrom_cons f nd i hin] at this
            unfold ltP at this
            rw [if_pos (by rw [← HB.out, HNE.out, HSI.out])] at this
            exact this
        · have hn1 : ((b : Int) != (s[i].toNat : Int)) = true := bne_iff_ne.2 (by omega)
          go_wp2_with fail
          go_quiet (fail)
          go_wp2_with fail
          go_quiet (fail)
          go_wp2_with fail
          go_ret
          refine ⟨?_, _, (by rw [World.drewN_drewN, World.drewN_drewN])⟩
          have := HQ.out
          rw [HLD.out, List.map_cons, rawFrom_cons f nd i hin] at this
          unfold ltP at this
          rw [if_neg (by rw [← HB.out, ← HSI.out]; exact hne), ← HB.out, ← HSI.out] at this
          rw [← this]
          rfl
      · have hge : decide ((nd : Int) ≤ (i : Int)) = true := decide_eq_true (by omega)
        have hge' : decide (nd ≤ i) = true := decide_eq_true (by omega)
        have HLD := Lib.hid hld
        clear hld
        go_wp2_with fail
        go_ret
        refine ⟨?_, n, rfl⟩
        have := HQ.out
        rw [HLD.out, List.map_cons, rawFrom_end f nd i (by omega)] at this
        unfold ltP at this
        rw [← this]
        rfl
    · have hil : l.length = i := by omega
      have hfin : ltP (rawFrom f nd i) ((l.drop i).map UInt8.toNat) = false := by
        rw [← hil, List.drop_length]
        cases rawFrom f nd l.length <;> rfl
      have hisI : ¬ (i : Int) < s.size := by omega
      have his : ¬ i < s.size := by omega
      have HF := Lib.hid hfin
      clear hfin hil hszl
      go_wp2_with fail
      go_ret
      exact ⟨by rw [← HQ.out, HF.out]; rfl, n, rfl⟩


/-- The decimal in block g tells M times 2 to the E. -/
structure Dd (w : World) (g : Nat) (f : Nat → Nat) (nd : Nat) (dp : Int) (M : Nat) (E : Int) : Prop where
  m : Dm w g f nd dp
  dig : ∀ i, i < nd → 48 ≤ f i ∧ f i < 58
  v : Dv (dl f nd) dp M E

theorem Dd.pos {w : World} {g : Nat} {f : Nat → Nat} {nd : Nat} {dp : Int} {M : Nat} {E : Int} (h : Dd w g f nd dp M E) : 0 < nd := by
  have := List.length_pos_iff.2 h.v.ne
  rwa [dl_length] at this

/-- Digits from s on. -/
def dlr (f : Nat → Nat) (s n : Nat) : List Nat := (List.range n).map fun t => f (s + t) - 48
theorem dlr_zero (f : Nat → Nat) (n : Nat) : dlr f 0 n = dl f n := by
  unfold dlr dl
  exact List.map_congr_left fun t _ => by rw [Nat.zero_add]
theorem dlr_cons (f : Nat → Nat) (s n : Nat) : dlr f s (n + 1) = (f s - 48) :: dlr f (s + 1) n := by
  unfold dlr
  rw [List.range_succ_eq_map, List.map_cons, List.map_map]
  congr 1
  exact List.map_congr_left fun t _ => by simp only [Function.comp]; congr 2; omega
theorem dlr_congr {f f' : Nat → Nat} {s n : Nat} (h : ∀ i, s ≤ i → i < s + n → f i = f' i) : dlr f s n = dlr f' s n := by
  unfold dlr
  exact List.map_congr_left fun t ht => by rw [h (s + t) (by omega) (by have := List.mem_range.1 ht; omega)]

/-- What stands in memory while the digits go: j of T digits have been put down. -/
structure LMem (W : World) (g : Nat) (f0 : Nat → Nat) (nd : Nat) (dp : Int) (k T j n : Nat) (f : Nat → Nat) (w : World) : Prop where
  m : Dm w g f nd dp
  kp : Kp g W w
  old : ∀ i, i + j < T → f i = f0 i
  dig : ∀ i, T ≤ i + j → i < T → 48 ≤ f i ∧ f i < 58
  st : LSt (dl f0 nd) k j n (dlr f (T - j) j)

theorem LMem.put {W w : World} {g : Nat} {f0 f : Nat → Nat} {nd : Nat} {dp : Int} {k T j n t m R : Nat} (h : LMem W g f0 nd dp k T j n f w) (ht : t + 1 + j = T) (hT : T ≤ 800) (hR : R < 10) {x : Int} (hx : x = (R : Int) + 48)
    (hst : ∀ l, LSt (dl f0 nd) k j n l → LSt (dl f0 nd) k (j + 1) m (R :: l)) : LMem W g f0 nd dp k T (j + 1) m (fun i => if i = t then R + 48 else f i) (w.setCell ⟨g, t, none⟩ (.int .u8 x)) := by
  refine ⟨h.m.setD (by omega) (by omega) (by omega), h.kp.set _ _, fun i hi => ?_, fun i hi1 hi2 => ?_, ?_⟩
  · show (if i = t then R + 48 else f i) = f0 i
    rw [if_neg (by omega)]
    exact h.old i (by omega)
  · by_cases e : i = t
    · rw [if_pos e]; omega
    · rw [if_neg e]; exact h.dig i (by omega) hi2
  · rw [dlr_cons, show T - (j + 1) = t by omega, if_pos rfl, Nat.add_sub_cancel]
    have e : dlr (fun i => if i = t then R + 48 else f i) (t + 1) j = dlr f (T - j) j := by
      rw [show T - j = t + 1 by omega]
      exact dlr_congr fun i h1 _ => by rw [if_neg (by omega)]
    rw [e]
    exact hst _ h.st

/-- What a shift leaves. -/
def ShRes (W : World) (g M : Nat) (E : Int) (ndMax : Nat) (dpLo dpHi : Int) (e : Ending) (w' : World) : Prop :=
  e = .returned (.tuple #[]) ∧ Kp g W w' ∧ ∃ f nd dp, Dd w' g f nd dp M E ∧ nd ≤ ndMax ∧ dpLo ≤ dp ∧ dp ≤ dpHi

/-- Behind trim. -/
theorem Dd.trim {W w1 w' : World} {g : Nat} {f : Nat → Nat} {n : Nat} {dp : Int} {M : Nat} {E : Int} {e : Ending} (hk : Kp g W w1) (hdg : Dg (dl f n)) (hn : 0 < n) (hdig : ∀ i, i < n → 48 ≤ f i ∧ f i < 58) (hv : VN M E (n - dp) = VC * nv (dl f n)) (hdp : dp ≤ 800) {dpLo dpHi : Int} (h1 : dpLo ≤ dp) (h2 : dp ≤ dpHi)
    (h : TrimRes w1 g f n dp e w') : ShRes W g M E n dpLo dpHi e w' := by
  obtain ⟨he, hk', j, hj, hz, hl, hm⟩ := h
  have hne : dl f n ≠ [] := by
    intro q
    have := congrArg List.length q
    rw [dl_length] at this
    simp at this; omega
  have hpos := hdg.pos hne
  have hz' : ∀ i, j ≤ i → i < (dl f n).length → (dl f n).getD i 0 = 0 := fun i h3 h4 => by
    rw [dl_length] at h4
    rw [dl_getD f n i h4, hz i h3 h4]
  have hj0 : 0 < j := by
    rcases Nat.eq_zero_or_pos j with g0 | g0
    · exfalso
      subst g0
      have := nv_take_zero (out := dl f n) (j := 0) (Nat.zero_le _) hz'
      rw [List.take_zero, nv_nil, Nat.zero_mul] at this
      omega
    · exact g0
  rw [if_neg (by omega)] at hm
  have hd : Dv (dl f j) dp M E := by
    have := Dv.trim (j := j) hdg (by rw [dl_length]; exact hv) hj0 (by rw [dl_length]; exact hj) hz' (by
      rw [dl_getD f n (j - 1) (by omega)]
      have h5 := hl hj0
      have := (hdig (j - 1) (by omega)).1
      omega) hdp
    rwa [dl_take f n j hj] at this
  exact ⟨he, hk.trans hk', f, j, dp, ⟨hm, fun i hi => hdig i (by omega), hd⟩, hj, h1, h2⟩

set_option maxRecDepth 100000 in
set_option maxHeartbeats 4000000 in
theorem leftShift_any {B : Nat} (W : World) (g : Nat) (f : Nat → Nat) (nd : Nat) (dp : Int) (M : Nat) (E : Int) (h : Dd W g f nd dp M E) (hT : Tabs B W) (hB : B ≤ g) (hnd : nd + 19 < 800) (hdp0 : -900 ≤ dp) (hdp1 : dp ≤ 700) (hE : -1200 ≤ E) (k : Nat) (hk0 : 0 < k) (hk1 : k ≤ 60) :
    Calls Tryd.prog 85 #[.pointer (some ⟨g, 0, none⟩), .int .u64 k] W (ShRes W g M (E + k) (nd + 19) dp (dp + 19)) := by
  have hpos := h.pos
  obtain ⟨c1, c2, c3, c4, c5, c6⟩ := ch_at k hk0 hk1
  obtain ⟨ab, ao, ac, hab, hg4, hch⟩ := hT.cheats
  obtain ⟨hcd, hcs⟩ := hch k (by omega)
  have hab2 : ab ≠ g := by omega
  have hglt := h.m.lt
  obtain ⟨CD, hCD⟩ : ∃ CD, CD = chDelta k := ⟨_, rfl⟩
  have hCD2 : CD = chD k := hCD
  rw [← hCD] at hcd
  obtain ⟨s, hs⟩ : ∃ s : ByteArray, s = ⟨(chCut k).toArray⟩ := ⟨_, rfl⟩
  rw [← hs] at hcs
  have hsl : s.data.toList = chS k := by rw [hs]; rfl
  have hslen : (chS k).length ≤ 100 := by
    have : (chN k).length = (chS k).length := by unfold chN; rw [List.length_map]
    omega
  have hpre := fun w1 (hD1 : Dm w1 g f nd dp) => prefix_any w1 g f nd dp hD1 (by omega) s (chS k) hsl hslen
  rw [ltP_dl f nd (chS k) (fun i hi => (h.dig i hi).1) (fun c hc => (c6 c hc).1)] at hpre
  obtain ⟨R, hR⟩ : ∃ R, R = ltP (dl f nd) (chN k) := ⟨_, rfl⟩
  have hR' : ltP (dl f nd) ((chS k).map fun c => c.toNat - 48) = R := hR.symm
  rw [hR'] at hpre
  obtain ⟨T, hTT⟩ : ∃ T, T = lsT (dl f nd) k := ⟨_, rfl⟩
  obtain ⟨t1, t2⟩ := lsT_law h.v.dg h.v.ne k hk0 hk1
  rw [← hTT] at t1 t2
  have hTe : T = if R then nd + CD - 1 else nd + CD := by
    rw [hTT, hCD2]; unfold lsT; rw [← hR, dl_length]
  have hTn : nd ≤ T ∧ T ≤ nd + 19 := by rw [hTe]; split <;> omega
  have hal : Tryd.prog.arrayLen 111 = 800 := by kernel_rfl
  have hsl2 : ∀ W', (Instr.sliceAt 111 (.pointer (some ⟨g, 0, none⟩)) (some (.int .i64 0)) (some (.int .i64 (nd : Int))) none).run Tryd.prog W' = .ok (.slice (some ⟨g, 0, none⟩) nd 800) W' := fun W' => by
    rw [run_sliceAt_array_lh W' 111 ⟨g, 0, none⟩ (by simp [Program.arrayLen, Program.elem, Tryd.underlying111]) .i64 .i64 0 (nd : Int) (by omega) (by omega) (by rw [hal]; omega)]
    rw [hal]
    go_simp
  have HD := Lib.hid h
  have HTE := Lib.hid hTe
  have HT1 := Lib.hid t1
  have HT2 := Lib.hid t2
  have hkI : (k : Int) < 61 := by omega
  have hndI : (nd : Int) ≤ 800 := by omega
  have hao : ao + k * 2 = ao + 2 * k := by omega
  rw [← hao] at hcd hcs
  have hnd0 := h.m.nd
  have hdp00 := h.m.dp
  clear hal
  clear c1 c2 c3 c4 c5 c6 hCD hCD2 hs hsl hslen hR hR' hTT t1 t2 hTe h hch hao
  go_enter Tryd.func85, Tryd.ntmps85
  go_wp2_with fail
  go_quiet ((go_at_call 95; exact Calls.quiet_of (hpre _ (HD.out.m.drewN _))))
  have hD1 : Dm (W.drewN nq) g f nd dp := HD.out.m.drewN nq
  have hK1 : Kp g W (W.drewN nq) := (Kp.refl g W).drewN nq
  obtain ⟨w1, hw1⟩ : ∃ w1, w1 = W.drewN nq := ⟨_, rfl⟩
  rw [← hw1] at hD1 hK1 ⊢
  clear hw1
  obtain ⟨DL, hDL⟩ : ∃ DL : Nat, nd + DL = T := ⟨T - nd, by omega⟩
  go_upto_if 30 with fail
  go_cut [4] (fun d wx => d = .int .i64 (DL : Int) ∧ w1 = wx)
  case first =>
    have hTE := HTE.out
    cases R
    · have e : CD = DL := by simp at hTE; omega
      subst e
      go_wp2_with fail
      go_meet
      exact ⟨rfl, rfl⟩
    · have e : (CD : Int) - 1 = (DL : Int) := by simp at hTE; omega
      have hcd1 : (1 : Int) ≤ CD := by omega
      clear hTE
      go_wp2_with fail
      go_meet
      exact ⟨by first | rfl | rw [e], rfl⟩
  case rest =>
    obtain ⟨rfl, rfl⟩ := hcut
    have c800 := hD1.nd
    have c801 := hD1.dp
    have hTI : (nd : Int) + (DL : Int) = (T : Int) := by omega
    have hT8 : T < 800 := by omega
    have HD1 := Lib.hid hD1
    have HK1 := Lib.hid hK1
    have HDL := Lib.hid hDL
    have hlm : LMem W g f nd dp k T 0 0 f w1 := ⟨hD1, hK1, fun i _ => rfl, fun i h1 h2 => by omega, LSt.start _ _⟩
    have HLM := Lib.hid hlm
    have hd10 : ∀ i, i < nd → 48 ≤ f i ∧ f i < 58 := HD.out.dig
    have HDIG := Lib.hid hd10
    clear hD1 hK1 hDL hlm hd10 hnd0 hdp00 hcd hcs hpre hsl2
    go_wp2_with fail
    go_loopg [5, 6, 7] nd (fun q r wv nv1 wr => ∃ (j n wj : Nat) (rj : Int) (f1 : Nat → Nat), r = .int .i64 rj ∧ wv = .int .i64 wj ∧ nv1 = .int .u64 n ∧ j + q = nd ∧ rj + 1 + j = nd ∧ wj + j = T ∧ LMem W g f nd dp k T j n f1 wr)
    case atStart => exact ⟨0, 0, T, _, f, rfl, rfl, rfl, by omega, by omega, by omega, HLM.out⟩
    case round =>
      obtain ⟨j, n, wj, rj, f1, rfl, rfl, rfl, hjq, hrj, hwj, hL⟩ := hrel
      by_cases hr0 : 0 ≤ rj
      · obtain ⟨r, rfl⟩ : ∃ r : Nat, rj = (r : Int) := ⟨rj.toNat, by omega⟩
        obtain ⟨t, rfl⟩ : ∃ t, wj = t + 1 := ⟨wj - 1, by omega⟩
        have hrn : r < nd := by omega
        have hr8 : r < 800 := by omega
        have hr8I : (r : Int) < 800 := by omega
        have ht8 : t < 800 := by omega
        have ht8I : (t : Int) < 800 := by omega
        have hcr := hL.m.cell r hr8
        have hfr : f1 r = f r := hL.old r (by omega)
        rw [hfr] at hcr
        obtain ⟨hd1, hd2⟩ := HDIG.out r hrn
        obtain ⟨b, hb⟩ : ∃ b, b = f r := ⟨_, rfl⟩
        rw [← hb] at hcr hd1 hd2
        obtain ⟨d, hd⟩ : ∃ d, b = 48 + d := ⟨b - 48, by omega⟩
        have hd9 : d < 10 := by omega
        have hbd : (b : Int) - 48 = (d : Int) := by omega
        obtain ⟨DK, hDK⟩ : ∃ DK, DK = d * 2 ^ k := ⟨_, rfl⟩
        have h2k : 2 ^ k ≤ 1152921504606846976 := Nat.le_trans (Nat.pow_le_pow_right (by decide) hk1) (by decide)
        have hDKb : DK ≤ 9 * 2 ^ k := by rw [hDK]; exact Nat.mul_le_mul_right _ (by omega)
        have hnlt := hL.st.lt HD.out.v.dg.lt (by rw [dl_length]; omega)
        have hsh : IntKind.u64.wrap ((d : Int) * 2 ^ k) = (DK : Int) := by
          have e : (d : Int) * 2 ^ k = ((d * 2 ^ k : Nat) : Int) := by simp
          rw [e, ← hDK, IntKind.wrap_u64]; omega
        obtain ⟨m, hm⟩ : ∃ m, m = n + DK := ⟨_, rfl⟩
        have hmI : (n : Int) + (DK : Int) = (m : Int) := by omega
        have hmU : m < 18446744073709551616 := by omega
        have hmUI : (m : Int) < 18446744073709551616 := by omega
        have hw1 : ((t + 1 : Nat) : Int) - 1 = (t : Int) := by omega
        obtain ⟨Q, hQ⟩ : ∃ Q, Q = m / 10 := ⟨_, rfl⟩
        obtain ⟨R', hR'⟩ : ∃ R', R' = m % 10 := ⟨_, rfl⟩
        have hQI : (m : Int) / 10 = (Q : Int) := by omega
        have hRI : (m : Int) - 10 * (Q : Int) = (R' : Int) := by omega
        have hR10 : R' < 10 := by omega
        have hR10I : (R' : Int) < 10 := by omega
        have hQU : 10 * (Q : Int) < 18446744073709551616 := by omega
        have hfz := hL.m.free t
        have hct := hL.m.cell t ht8
        have hlt1 := hL.m.lt
        have hput := hL.put (t := t) (m := Q) (R := R') (x := (R' : Int) + 48) (by omega) (by omega) hR10 rfl (fun l hl => by
          have := hl.step (by rw [dl_length]; omega)
          rw [dl_length, show nd - 1 - j = r by omega, dl_getD f nd r hrn, ← hb, show b - 48 = d by omega, ← hDK, ← hm, ← hQ, ← hR'] at this
          exact this)
        have HP := Lib.hid hput
        have HL := Lib.hid hL
        have hr1 : (r : Int) - 1 + 1 + ((j + 1 : Nat) : Int) = nd := by omega
        clear hput hL hfr hb hd hDK h2k hDKb hnlt hm hQ hR' hd1 hd2
        go_wp2_with fail
        go_roundg (gk - 1)
        case measure => omega
        case rel => exact ⟨j + 1, Q, t, (r : Int) - 1, _, rfl, rfl, rfl, by omega, hr1, by omega, HP.out⟩
      · obtain rfl : nd = j := by omega
        have hrneg : decide ((0 : Int) ≤ rj) = false := decide_eq_false hr0
        have HL := Lib.hid hL
        clear hL hrneg
        go_wp2_with fail
        go_loopg [6, 7] (T - nd) (fun q wv nv1 wr => ∃ (j n wj : Nat) (f1 : Nat → Nat), wv = .int .i64 wj ∧ nv1 = .int .u64 n ∧ nd ≤ j ∧ j + q = T ∧ wj + j = T ∧ n < 18446744073709551616 ∧ LMem W g f nd dp k T j n f1 wr)
        case atStart =>
          have hnlt := HL.out.st.lt HD.out.v.dg.lt (by rw [dl_length]; omega)
          have h2k : 2 ^ k ≤ 1152921504606846976 := Nat.le_trans (Nat.pow_le_pow_right (by decide) hk1) (by decide)
          exact ⟨nd, n, wj, f1, rfl, rfl, by omega, by omega, by omega, by omega, HL.out⟩
        case round =>
          obtain ⟨j, n, wj, f2, rfl, rfl, hj, hjq, hwj2, hn64, hL⟩ := hrel
          have hn64I : (n : Int) < 18446744073709551616 := by omega
          by_cases hn0 : 0 < n
          · have hroom := hL.st.room (by rw [dl_length]; exact hj) hn0 HT2.out
            obtain ⟨t, rfl⟩ : ∃ t, wj = t + 1 := ⟨wj - 1, by omega⟩
            have hn0I : (0 : Int) < n := by omega
            have ht8 : t < 800 := by omega
            have ht8I : (t : Int) < 800 := by omega
            have hw1 : ((t + 1 : Nat) : Int) - 1 = (t : Int) := by omega
            obtain ⟨Q, hQ⟩ : ∃ Q, Q = n / 10 := ⟨_, rfl⟩
            obtain ⟨R', hR'⟩ : ∃ R', R' = n % 10 := ⟨_, rfl⟩
            have hQI : (n : Int) / 10 = (Q : Int) := by omega
            have hRI : (n : Int) - 10 * (Q : Int) = (R' : Int) := by omega
            have hR10 : R' < 10 := by omega
            have hR10I : (R' : Int) < 10 := by omega
            have hQU : 10 * (Q : Int) < 18446744073709551616 := by omega
            have hQ64 : Q < 18446744073709551616 := by omega
            have hfz := hL.m.free t
            have hct := hL.m.cell t ht8
            have hlt1 := hL.m.lt
            have hput := hL.put (t := t) (m := Q) (R := R') (x := (R' : Int) + 48) (by omega) (by omega) hR10 rfl (fun l hl => by
              have := hl.more (by rw [dl_length]; exact hj)
              rw [← hQ, ← hR'] at this
              exact this)
            have HP := Lib.hid hput
            clear hput hL hQ hR'
            go_wp2_with fail
            go_roundg (gk - 1)
            case measure => omega
            case rel => exact ⟨j + 1, Q, t, _, rfl, rfl, by omega, by omega, by omega, hQ64, HP.out⟩
          · obtain rfl : n = 0 := by omega
            have hjT : j ≤ T := by omega
            obtain ⟨e1, e2, e3⟩ := hL.st.fin (by rw [dl_length]; exact hj) hjT HT1.out (by omega) HD.out.v.val hE
            subst e1
            have c800b := hL.m.nd
            have c801b := hL.m.dp
            have f800 := hL.m.free 800
            have f801 := hL.m.free 801
            have hltw := hL.m.lt
            rw [Nat.sub_self, dlr_zero] at e2 e3
            rw [dl_length] at e3
            have hdlT : (dlr f2 0 j).length = j := by rw [dlr_zero, dl_length]
            have hm2 := (hL.m.setNd j (x := (j : Int)) rfl).setDp (dp + (DL : Int))
            have hk2 := (hL.kp.set 800 (.int .i64 (j : Int))).set 801 (.int .i64 (dp + (DL : Int)))
            have HM2 := Lib.hid hm2
            have HK2 := Lib.hid hk2
            have HL2 := Lib.hid hL
            have H2 := Lib.hid e2
            have H3 := Lib.hid e3
            have hge8 : decide ((800 : Int) ≤ (j : Int)) = false := decide_eq_false (by omega)
            have hge9 : decide (800 ≤ j) = false := decide_eq_false (by omega)
            clear hm2 hk2 hL e2 e3 hdlT HL
            go_wp2_with fail
            refine (trim_any _ g f2 j _ HM2.out (by omega)).mono ?_
            intro e w' htr
            have htr0 := htr.1
            subst htr0
            have hfin := Dd.trim (M := M) (E := E + k) HK2.out H2.out (by omega) (fun i hi => HL2.out.dig i (by omega) hi) (by
              have := H3.out
              rw [dl_length, show dp + ((j : Int) - nd) = dp + (DL : Int) by omega] at this
              exact this) (by omega) (dpLo := dp) (dpHi := dp + 19) (by omega) (by omega) htr
            have HF := Lib.hid hfin
            clear hfin htr
            go_wp2_with fail
            go_end0
            obtain ⟨h1, h2, f3, nd3, dp3, h3, h4, h5, h6⟩ := HF.out
            exact ⟨h1, h2, f3, nd3, dp3, h3, by omega, h5, h6⟩


theorem NN_lt {ds : List Nat} (h : ∀ d ∈ ds, d < 10) (r : Nat) : NN ds r < 10 ^ r := by
  rcases Nat.lt_or_ge ds.length r with g | g
  · rw [NN_out ds r (by omega)]
    have h1 := nv_lt ds h
    have h2 := Nat.mul_lt_mul_of_pos_right h1 (show 0 < 10 ^ (r - ds.length) from Nat.pow_pos (by decide))
    rwa [← Nat.pow_add, show ds.length + (r - ds.length) = r by omega] at h2
  · rw [NN_in ds r g]
    have h1 := nv_lt (ds.take r) fun d hd => h d (List.take_subset _ _ hd)
    rwa [List.length_take, Nat.min_eq_left g] at h1

/-- What stands in memory while the digits go. -/
structure RMem (W : World) (g : Nat) (f0 : Nat → Nat) (nd : Nat) (dp : Int) (k r0 r n t : Nat) (f : Nat → Nat) (w : World) : Prop where
  m : Dm w g f nd dp
  kp : Kp g W w
  old : ∀ i, t ≤ i → i < 800 → f i = f0 i
  dig : ∀ i, i < t → 48 ≤ f i ∧ f i < 58
  st : RSt (dl f0 nd) k r0 r n (dl f t)

theorem RMem.put {W w : World} {g : Nat} {f0 f : Nat → Nat} {nd : Nat} {dp : Int} {k r0 r n t m D : Nat} (h : RMem W g f0 nd dp k r0 r n t f w) (hd : ∀ d ∈ dl f0 nd, d < 10) (ht : t < 800) (hD : D = n / 2 ^ k) (hm : m = n % 2 ^ k * 10 + (dl f0 nd).getD r 0) {x : Int} (hx : x = (D : Int) + 48) :
    RMem W g f0 nd dp k r0 (r + 1) m (t + 1) (fun i => if i = t then D + 48 else f i) (w.setCell ⟨g, t, none⟩ (.int .u8 x)) := by
  have h10 : D < 10 := by rw [hD]; exact h.st.dlt
  refine ⟨h.m.setD (by omega) (by omega) (by omega), h.kp.set _ _, fun i h1 h2 => ?_, fun i h1 => ?_, ?_⟩
  · show (if i = t then D + 48 else f i) = f0 i
    rw [if_neg (by omega)]
    exact h.old i (by omega) h2
  · by_cases e : i = t
    · rw [if_pos e]; omega
    · rw [if_neg e]; exact h.dig i (by omega)
  · have := h.st.step hd
    rw [← hm, ← hD] at this
    rw [dl_succ, if_pos rfl, Nat.add_sub_cancel]
    have e : dl (fun i => if i = t then D + 48 else f i) t = dl f t := dl_congr fun i hi => by rw [if_neg (by omega)]
    rw [e]
    exact this

set_option maxRecDepth 100000 in
set_option maxHeartbeats 4000000 in
theorem rightShift_any (W : World) (g : Nat) (f : Nat → Nat) (nd : Nat) (dp : Int) (M : Nat) (E : Int) (h : Dd W g f nd dp M E) (hnd : nd + 42 < 800) (hdp0 : -800 ≤ dp) (hdp1 : dp ≤ 800) (k : Nat) (hk0 : 0 < k) (hk1 : k ≤ 60) (hE : -1200 ≤ E - k) :
    Calls Tryd.prog 86 #[.pointer (some ⟨g, 0, none⟩), .int .u64 k] W (ShRes W g M (E - k) (nd + 42) (dp - 20) dp) := by
  have hpos := h.pos
  have HD := Lib.hid h
  have hkI : (k : Int) < 61 := by omega
  have hndI : (nd : Int) ≤ 758 := by omega
  have hd10 : ∀ d ∈ dl f nd, d < 10 := h.v.dg.lt
  have hdl : (dl f nd).length = nd := dl_length f nd
  have h2k : 2 ^ k ≤ 1152921504606846976 := Nat.le_trans (Nat.pow_le_pow_right (by decide) hk1) (by decide)
  have h2p : 0 < 2 ^ k := Nat.two_pow_pos k
  have hlo : ∀ r, 1 ≤ r → 10 ^ (r - 1) ≤ NN (dl f nd) r := fun r hr => NN_lo h.v.dg h.v.ne r hr
  have hdig := h.dig
  have HDIG := Lib.hid hdig
  have HD10 := Lib.hid hd10
  have HDL := Lib.hid hdl
  have HLO := Lib.hid hlo
  have c800 := h.m.nd
  have c801 := h.m.dp
  have hglt := h.m.lt
  have hm0 := h.m
  have HM0 := Lib.hid hm0
  obtain ⟨P, hP⟩ : ∃ P, P = 2 ^ k := ⟨_, rfl⟩
  have HP := Lib.hid hP
  rw [← hP] at h2k h2p
  have hshr : ∀ n : Nat, (n : Int) / 2 ^ k = ((n / P : Nat) : Int) := fun n => by rw [hP]; simp
  have HSHR := Lib.hid hshr
  clear h hd10 hdl hlo hdig hm0 hP hshr
  go_enter Tryd.func86, Tryd.ntmps86
  go_upto_block 0 with (fail)
  go_cut [4, 6] (fun rv nv1 wx => ∃ r0 n : Nat, rv = .int .i64 r0 ∧ nv1 = .int .u64 n ∧ 1 ≤ r0 ∧ NN (dl f nd) (r0 - 1) < P ∧ P ≤ n ∧ n = NN (dl f nd) r0 ∧ W = wx)
  case first =>
    go_wp2_with fail
    go_loopg [4, 6] nd (fun q rv nv1 wr => ∃ r n : Nat, rv = .int .i64 r ∧ nv1 = .int .u64 n ∧ r + q = nd ∧ n = NN (dl f nd) r ∧ (0 < r → NN (dl f nd) (r - 1) < P) ∧ W = wr)
    case atStart => exact ⟨0, 0, rfl, rfl, by omega, (NN_zero _).symm, fun h => by omega, rfl⟩
    case round =>
      obtain ⟨r, n, rfl, rfl, hrq, hn, hpr, rfl⟩ := hrel
      have HN := Lib.hid hn
      have HPR := Lib.hid hpr
      clear hn hpr
      by_cases hnP : n < P
      · have hsh : (n : Int) / 2 ^ k = 0 := by rw [HSHR.out, Nat.div_eq_of_lt hnP]; rfl
        by_cases hrn : r < nd
        · have hrnI : (r : Int) < nd := by omega
          have hge : decide ((nd : Int) ≤ (r : Int)) = false := decide_eq_false (by omega)
          have hge' : decide (nd ≤ r) = false := decide_eq_false (by omega)
          have hr8 : r < 800 := by omega
          have hr8I : (r : Int) < 800 := by omega
          have hcr := HM0.out.cell r hr8
          obtain ⟨hd1, hd2⟩ := HDIG.out r hrn
          obtain ⟨b, hb⟩ : ∃ b, b = f r := ⟨_, rfl⟩
          rw [← hb] at hcr hd1 hd2
          obtain ⟨m, hm⟩ : ∃ m, m = NN (dl f nd) (r + 1) := ⟨_, rfl⟩
          have hm2 : m = n * 10 + (b - 48) := by rw [hm, NN_succ, HN.out, dl_getD f nd r hrn, hb]
          have hmI : (n : Int) * 10 + (b : Int) - 48 = (m : Int) := by omega
          have hn10 : (n : Int) * 10 < 18446744073709551616 := by omega
          have hnb : (n : Int) * 10 + (b : Int) < 18446744073709551616 := by omega
          have hnb0 : (0 : Int) ≤ (n : Int) * 10 + (b : Int) - 48 := by omega
          have HM := Lib.hid hm
          clear hb hm hm2
          go_wp2_with fail
          go_roundg (gk - 1)
          case measure => omega
          case rel => exact ⟨r + 1, m, by go_num, rfl, by omega, HM.out, fun _ => (by rw [Nat.add_sub_cancel, ← HN.out]; exact hnP), rfl⟩
        · obtain rfl : nd = r := by omega
          have hn0 : ((n : Int) == 0) = false := by
            have h1 := HLO.out nd (by omega)
            have h2 : 0 < 10 ^ (nd - 1) := Nat.pow_pos (by decide)
            have h3 := HN.out
            simp; omega
          have hle19 : ∀ r, 1 ≤ r → NN (dl f nd) r < P → r ≤ 19 := fun r h1 h2 => by
            have h3 := HLO.out r h1
            rcases Nat.lt_or_ge 19 r with g1 | g1
            · exfalso
              have : 10 ^ 19 ≤ 10 ^ (r - 1) := Nat.pow_le_pow_right (by decide) (by omega)
              omega
            · exact g1
          have HLE := Lib.hid hle19
          have hnd19 := hle19 nd hpos (by rw [← HN.out]; exact hnP)
          clear hle19
          go_wp2_with fail
          go_loopg [4, 6] (25 - nd) (fun q rv nv1 wr => ∃ r n : Nat, rv = .int .i64 r ∧ nv1 = .int .u64 n ∧ r + q = 25 ∧ nd ≤ r ∧ n = NN (dl f nd) r ∧ (n < P ∨ NN (dl f nd) (r - 1) < P) ∧ n < 18446744073709551616 ∧ W = wr)
          case atStart => exact ⟨nd, n, rfl, rfl, by omega, Nat.le_refl _, HN.out, Or.inl hnP, by omega, rfl⟩
          case round =>
            obtain ⟨r, n, rfl, rfl, hrq, hndr, hn, hpr, hn64, rfl⟩ := hrel
            have HN := Lib.hid hn
            have HPR := Lib.hid hpr
            clear hn hpr hsh
            by_cases hnP : n < P
            · have hsh : (n : Int) / 2 ^ k = 0 := by rw [HSHR.out, Nat.div_eq_of_lt hnP]; rfl
              have hr19 := HLE.out r (by omega) (by rw [← HN.out]; exact hnP)
              have hn10 : (n : Int) * 10 < 18446744073709551616 := by omega
              have hm2 : n * 10 = NN (dl f nd) (r + 1) := by
                rw [NN_succ, ← HN.out, List.getD_eq_getElem?_getD, List.getElem?_eq_none (by rw [dl_length]; exact hndr)]
                rfl
              have HM := Lib.hid hm2
              clear hm2
              go_wp2_with fail
              go_roundg (gk - 1)
              case measure => omega
              case rel => exact ⟨r + 1, n * 10, by go_num, by go_num, by omega, by omega, HM.out, Or.inr (by rw [Nat.add_sub_cancel, ← HN.out]; exact hnP), by omega, rfl⟩
            · have hsh : ((n : Int) / 2 ^ k == 0) = false := by
                rw [HSHR.out]
                have : 1 ≤ n / P := (Nat.le_div_iff_mul_le h2p).2 (by omega)
                simp; omega
              go_wp2_with fail
              go_meet
              have h4 : NN (dl f nd) (r - 1) < P := by
                rcases HPR.out with h | h
                · omega
                · exact h
              exact ⟨r, n, rfl, rfl, by omega, h4, by omega, HN.out, rfl⟩
      · have hsh : ((n : Int) / 2 ^ k == 0) = false := by
          rw [HSHR.out]
          have : 1 ≤ n / P := (Nat.le_div_iff_mul_le h2p).2 (by omega)
          simp; omega
        have hr1 : 1 ≤ r := by
          rcases Nat.eq_zero_or_pos r with h0 | h0
          · exfalso
            have h1 := HN.out
            rw [h0, NN_zero] at h1
            omega
          · exact h0
        go_wp2_with fail
        go_meet
        exact ⟨r, n, rfl, rfl, hr1, HPR.out hr1, by omega, HN.out, rfl⟩
  case rest =>
    obtain ⟨r0, n0, rfl, rfl, hr1, hlt0, hge0, hn0, rfl⟩ := hcut
    have h10r := NN_lt HD10.out r0
    have hr20 : r0 ≤ 20 := by
      rcases Nat.lt_or_ge 20 r0 with g1 | g1
      · exfalso
        have h1 := HLO.out (r0 - 1) (by omega)
        have : 10 ^ 19 ≤ 10 ^ (r0 - 1 - 1) := Nat.pow_le_pow_right (by decide) (by omega)
        omega
      · exact g1
    have hkr := r0_big k r0 hk1 (by rw [← HP.out]; omega)
    have hn0lt : n0 < 10 * P := by
      have e := NN_succ (dl f nd) (r0 - 1)
      rw [Nat.sub_add_cancel hr1] at e
      have := getD_lt HD10.out (r0 - 1)
      omega
    have hst0 : RSt (dl f nd) k r0 r0 n0 [] := by
      rw [hn0]
      exact RSt.start hr1 (by rw [← HP.out]; exact hlt0) (by rw [← HP.out, ← hn0]; exact hge0) HD10.out
    have hm1 := HM0.out.setDp (dp - ((r0 : Int) - 1))
    have hk1' := (Kp.refl g W).set 801 (.int .i64 (dp - ((r0 : Int) - 1)))
    have hrm : RMem W g f nd (dp - ((r0 : Int) - 1)) k r0 r0 n0 0 f (W.setCell ⟨g, 801, none⟩ (.int .i64 (dp - ((r0 : Int) - 1)))) := ⟨hm1, hk1', fun i _ _ => rfl, fun i h => by omega, hst0⟩
    have HRM := Lib.hid hrm
    have f801 := HM0.out.free 801
    have hMK1 : IntKind.u64.wrap (2 ^ k) = (P : Int) := by
      have e : (2 : Int) ^ k = (P : Int) := by rw [HP.out]; simp
      rw [e, IntKind.wrap_u64]; omega
    obtain ⟨MK, hMK⟩ : ∃ MK, MK = P - 1 := ⟨_, rfl⟩
    have hMK2 : IntKind.u64.wrap ((P : Int) - 1) = (MK : Int) := by rw [IntKind.wrap_u64]; omega
    have hMK3 : (P : Int) - 1 = (MK : Int) := by omega
    have hand : ∀ n : Nat, n < 18446744073709551616 → bits .and .u64 (n : Int) (MK : Int) = ((n % P : Nat) : Int) := fun n hn => by
      have := and_mask_u64 n k hn (by omega)
      rw [hMK, HP.out]
      exact this
    have HAND := Lib.hid hand
    clear hn0 hst0 hm1 hk1' hrm h10r hMK hand
    go_upto_block 4 with (fail)
    clear hMK1 hMK2 hMK3
    go_wp2_with fail
    go_loopg [4, 5, 6] nd (fun q rv tv nv1 wr => ∃ (r t n : Nat) (f1 : Nat → Nat), rv = .int .i64 r ∧ tv = .int .i64 t ∧ nv1 = .int .u64 n ∧ nd ≤ r + q ∧ (r ≤ nd ∨ t = 0) ∧ t + r0 = r ∧ RMem W g f nd (dp - ((r0 : Int) - 1)) k r0 r n t f1 wr)
    case atStart => exact ⟨r0, 0, n0, f, rfl, rfl, rfl, by omega, by omega, by omega, HRM.out⟩
    case round =>
      obtain ⟨r, t, n, f1, rfl, rfl, rfl, hrq, hrt, htr, hR⟩ := hrel
      have c800r := hR.m.nd
      have hlt1 := hR.m.lt
      have hn10P : n < 10 * P := by rw [HP.out]; exact hR.st.lt
      by_cases hrn : r < nd
      · have hrnI : (r : Int) < nd := by omega
        have hr8 : r < 800 := by omega
        have hr8I : (r : Int) < 800 := by omega
        have ht8 : t < 800 := by omega
        have ht8I : (t : Int) < 800 := by omega
        have hcr := hR.m.cell r hr8
        rw [hR.old r (by omega) hr8] at hcr
        have hct := hR.m.cell t ht8
        have hfz := hR.m.free t
        obtain ⟨hd1, hd2⟩ := HDIG.out r hrn
        have hgd : (dl f nd).getD r 0 = f r - 48 := dl_getD f nd r hrn
        obtain ⟨b, hb⟩ : ∃ b, b = f r := ⟨_, rfl⟩
        rw [← hb] at hcr hd1 hd2 hgd
        obtain ⟨D, hD⟩ : ∃ D, D = n / P := ⟨_, rfl⟩
        have hD10 : D < 10 := by rw [hD, HP.out]; exact hR.st.dlt
        have hDI : (n : Int) / 2 ^ k = (D : Int) := by rw [HSHR.out, ← hD]
        have hD10I : (D : Int) < 10 := by omega
        obtain ⟨L, hL⟩ : ∃ L, L = n % P := ⟨_, rfl⟩
        have hLP : L < P := by rw [hL]; exact Nat.mod_lt _ h2p
        have han : bits .and .u64 (n : Int) (MK : Int) = (L : Int) := by rw [HAND.out n (by omega), ← hL]
        obtain ⟨m, hm⟩ : ∃ m, m = L * 10 + (b - 48) := ⟨_, rfl⟩
        have hmI : (L : Int) * 10 + (b : Int) - 48 = (m : Int) := by omega
        have hL10 : (L : Int) * 10 < 18446744073709551616 := by omega
        have hLb : (L : Int) * 10 + (b : Int) < 18446744073709551616 := by omega
        have hLb0 : (0 : Int) ≤ (L : Int) * 10 + (b : Int) - 48 := by omega
        have hput := hR.put (m := m) (D := D) (x := (D : Int) + 48) HD10.out ht8 (by rw [hD, HP.out]) (by rw [hgd, hm, hL, HP.out]) rfl
        have HPUT := Lib.hid hput
        clear hput hR hb hD hL hm hgd
        go_wp2_with fail
        go_roundg (gk - 1)
        case measure => omega
        case rel => exact ⟨r + 1, t + 1, m, _, by go_num, by go_num, rfl, by omega, by omega, by omega, HPUT.out⟩
      · have hge : decide ((r : Int) < (nd : Int)) = false := decide_eq_false (by omega)
        have hge' : decide (r < nd) = false := decide_eq_false (by omega)
        have HR := Lib.hid hR
        clear hR
        go_wp2_with fail
        go_loopg [5, 6] (nd + k + 1) (fun q tv nv1 wr => ∃ (r t n : Nat) (f1 : Nat → Nat), tv = .int .i64 t ∧ nv1 = .int .u64 n ∧ nd ≤ r ∧ nd + k + 1 ≤ r + q ∧ (r ≤ nd + k + 1 ∨ t = 0) ∧ t + r0 = r ∧ RMem W g f nd (dp - ((r0 : Int) - 1)) k r0 r n t f1 wr)
        case atStart => exact ⟨r, t, n, f1, rfl, rfl, by omega, by omega, by omega, by omega, HR.out⟩
        case round =>
          clear hn10P c800r hlt1 HR
          obtain ⟨r, t, n, f2, rfl, rfl, hrn, hrq, hrt, htr, hR⟩ := hrel
          have hn10P : n < 10 * P := by rw [HP.out]; exact hR.st.lt
          have hlt1 := hR.m.lt
          by_cases hn0 : 0 < n
          · have hbd := hR.st.bound hn0
            rw [HDL.out] at hbd
            have hn0I : (0 : Int) < n := by omega
            have ht8 : t < 800 := by omega
            have ht8I : (t : Int) < 800 := by omega
            have hct := hR.m.cell t ht8
            have hfz := hR.m.free t
            obtain ⟨D, hD⟩ : ∃ D, D = n / P := ⟨_, rfl⟩
            have hD10 : D < 10 := by rw [hD, HP.out]; exact hR.st.dlt
            have hDI : (n : Int) / 2 ^ k = (D : Int) := by rw [HSHR.out, ← hD]
            have hD10I : (D : Int) < 10 := by omega
            obtain ⟨L, hL⟩ : ∃ L, L = n % P := ⟨_, rfl⟩
            have hLP : L < P := by rw [hL]; exact Nat.mod_lt _ h2p
            have han : bits .and .u64 (n : Int) (MK : Int) = (L : Int) := by rw [HAND.out n (by omega), ← hL]
            have hL10 : (L : Int) * 10 < 18446744073709551616 := by omega
            have hput := hR.put (m := L * 10) (D := D) (x := (D : Int) + 48) HD10.out ht8 (by rw [hD, HP.out]) (by
              rw [List.getD_eq_getElem?_getD, List.getElem?_eq_none (by rw [dl_length]; exact hrn), hL, HP.out]
              rfl) rfl
            have HPUT := Lib.hid hput
            clear hput hR hD hL
            go_wp2_with fail
            go_roundg (gk - 1)
            case measure => omega
            case rel => exact ⟨r + 1, t + 1, L * 10, _, by go_num, by go_num, by omega, by omega, by omega, by omega, HPUT.out⟩
          · obtain rfl : n = 0 := by omega
            have hne : dl f2 t ≠ [] := by
              intro q
              have := hR.st.lead
              rw [if_pos q] at this
              rw [← HP.out] at this
              omega
            have htp : 0 < t := by
              have := List.length_pos_iff.2 hne
              rwa [dl_length] at this
            obtain ⟨e2, e3⟩ := hR.st.fin (by rw [HDL.out]; exact hrn) hne HD.out.v.val hdp1 hE
            rw [dl_length] at e3
            have f800 := hR.m.free 800
            have c800b := hR.m.nd
            have hm2 := hR.m.setNd t (x := (t : Int)) rfl
            have hk2 := hR.kp.set 800 (.int .i64 (t : Int))
            have HM2 := Lib.hid hm2
            have HK2 := Lib.hid hk2
            have HR2 := Lib.hid hR
            have H2 := Lib.hid e2
            have H3 := Lib.hid e3
            have ht42 : t ≤ nd + 42 := by omega
            clear hm2 hk2 hR e2 e3 hne
            go_wp2_with fail
            refine (trim_any _ g f2 t _ HM2.out (by omega)).mono ?_
            intro e w' htr
            have htr0 := htr.1
            subst htr0
            have hfin := Dd.trim (M := M) (E := E - k) HK2.out H2.out htp (fun i hi => HR2.out.dig i hi) H3.out (by omega) (dpLo := dp - 20) (dpHi := dp) (by omega) (by omega) htr
            have HF := Lib.hid hfin
            clear hfin htr
            go_wp2_with fail
            go_end0
            obtain ⟨h1, h2, f3, nd3, dp3, h3, h4, h5, h6⟩ := HF.out
            exact ⟨h1, h2, f3, nd3, dp3, h3, by omega, h5, h6⟩


set_option maxRecDepth 100000 in
set_option maxHeartbeats 2000000 in
theorem shift_pos {B : Nat} (W : World) (g : Nat) (f : Nat → Nat) (nd : Nat) (dp : Int) (M : Nat) (h : Dd W g f nd dp M 0) (hT : Tabs B W) (hB : B ≤ g) (hnd : nd ≤ 17) (hdp0 : 0 ≤ dp) (hdp1 : dp ≤ 17) (k : Nat) (hk0 : 0 < k) (hk1 : k ≤ 1000) :
    Calls Tryd.prog 66 #[.pointer (some ⟨g, 0, none⟩), .int .i64 k] W (ShRes W g M k 780 (-400) 400) := by
  have hpos := h.pos
  have HD := Lib.hid h
  have HT := Lib.hid hT
  have c800 := h.m.nd
  have hne : ((nd : Int) == 0) = false := by simp; omega
  have hkI : (0 : Int) < k := by omega
  clear h hT
  go_enter Tryd.func66, Tryd.ntmps66
  go_wp2_with fail
  go_loopg [1] k (fun q kv wr => ∃ (j c : Nat) (f1 : Nat → Nat) (nd1 : Nat) (dp1 : Int), kv = .int .i64 j ∧ 0 < j ∧ j ≤ q ∧ j + 60 * c = k ∧ nd1 ≤ 17 + 19 * c ∧ 0 ≤ dp1 ∧ dp1 ≤ 17 + 19 * c ∧ Dd wr g f1 nd1 dp1 M (60 * c : Nat) ∧ Kp g W wr)
  case atStart => exact ⟨k, 0, f, nd, dp, rfl, hk0, Nat.le_refl _, by omega, by omega, hdp0, by omega, HD.out, Kp.refl _ _⟩
  case round =>
    obtain ⟨j, c, f1, nd1, dp1, rfl, hj0, hjq, hjc, hn1, hd0, hd1, hDd, hKp⟩ := hrel
    have HDd := Lib.hid hDd
    have HKp := Lib.hid hKp
    clear hDd hKp
    have hTr : Tabs B wr := HKp.out.tabs HT.out hB
    have HTr := Lib.hid hTr
    clear hTr
    by_cases hgt : 60 < j
    · have hgtI : (60 : Int) < j := by omega
      go_wp2_with fail
      refine (leftShift_any wr g f1 nd1 dp1 M _ HDd.out HTr.out hB (by omega) (by omega) (by omega) (by omega) 60 (by decide) (by decide)).mono ?_
      rintro e w2 ⟨rfl, hk2, f2, nd2, dp2, hD2, hn2, hp2, hq2⟩
      have HK2 := Lib.hid hk2
      have HD2 := Lib.hid hD2
      clear hk2 hD2
      go_wp2_with fail
      go_roundg (gk - 1)
      case measure => omega
      case rel => exact ⟨j - 60, c + 1, f2, nd2, dp2, by go_num, by omega, by omega, by omega, by omega, by omega, by omega, (by have := HD2.out; rwa [show ((60 * (c + 1) : Nat) : Int) = ((60 * c : Nat) : Int) + ((60 : Nat) : Int) by omega]), HKp.out.trans HK2.out⟩
    · have hgtI : (j : Int) ≤ 60 := by omega
      have hcv : IntKind.u64.wrap (j : Int) = (j : Int) := by rw [IntKind.wrap_u64]; omega
      go_wp2_with fail
      refine (leftShift_any wr g f1 nd1 dp1 M _ HDd.out HTr.out hB (by omega) (by omega) (by omega) (by omega) j hj0 (by omega)).mono ?_
      rintro e w2 ⟨rfl, hk2, f2, nd2, dp2, hD2, hn2, hp2, hq2⟩
      have HK2 := Lib.hid hk2
      have HD2 := Lib.hid hD2
      clear hk2 hD2
      go_wp2_with fail
      go_end0
      exact ⟨rfl, HKp.out.trans HK2.out, f2, nd2, dp2, (by have := HD2.out; rwa [show ((60 * c : Nat) : Int) + (j : Int) = (k : Int) by omega] at this), by omega, by omega, by omega⟩

set_option maxRecDepth 100000 in
set_option maxHeartbeats 2000000 in
theorem shift_neg (W : World) (g : Nat) (f : Nat → Nat) (nd : Nat) (dp : Int) (M : Nat) (h : Dd W g f nd dp M 0) (hnd : nd ≤ 17) (hdp0 : 0 ≤ dp) (hdp1 : dp ≤ 17) (k : Nat) (hk0 : 0 < k) (hk1 : k ≤ 1075) :
    Calls Tryd.prog 66 #[.pointer (some ⟨g, 0, none⟩), .int .i64 (-(k : Int))] W (ShRes W g M (-(k : Int)) 780 (-400) 400) := by
  have hpos := h.pos
  have HD := Lib.hid h
  have c800 := h.m.nd
  have hne : ((nd : Int) == 0) = false := by simp; omega
  have hkI : (0 : Int) < k := by omega
  have hkd : decide ((0 : Int) < -(k : Int)) = false := decide_eq_false (by omega)
  have hkd2 : decide (-(k : Int) < 0) = true := decide_eq_true (by omega)
  clear h
  go_enter Tryd.func66, Tryd.ntmps66
  go_wp2_with fail
  go_loopg [1] k (fun q kv wr => ∃ (j c : Nat) (f1 : Nat → Nat) (nd1 : Nat) (dp1 : Int), kv = .int .i64 (-(j : Int)) ∧ 0 < j ∧ j ≤ q ∧ j + 60 * c = k ∧ nd1 ≤ 17 + 42 * c ∧ -(20 * c : Nat) ≤ dp1 ∧ dp1 ≤ 17 ∧ Dd wr g f1 nd1 dp1 M (-(60 * c : Nat)) ∧ Kp g W wr)
  case atStart => exact ⟨k, 0, f, nd, dp, rfl, hk0, Nat.le_refl _, by omega, by omega, by omega, by omega, HD.out, Kp.refl _ _⟩
  case round =>
    obtain ⟨j, c, f1, nd1, dp1, rfl, hj0, hjq, hjc, hn1, hd0, hd1, hDd, hKp⟩ := hrel
    have HDd := Lib.hid hDd
    have HKp := Lib.hid hKp
    clear hDd hKp
    by_cases hgt : 60 < j
    · have hgtI : (60 : Int) < j := by omega
      have hjj : -(j : Int) + 60 = -((j - 60 : Nat) : Int) := by omega
      go_wp2_with fail
      refine (rightShift_any wr g f1 nd1 dp1 M _ HDd.out (by omega) (by omega) (by omega) 60 (by decide) (by decide) (by omega)).mono ?_
      rintro e w2 ⟨rfl, hk2, f2, nd2, dp2, hD2, hn2, hp2, hq2⟩
      have HK2 := Lib.hid hk2
      have HD2 := Lib.hid hD2
      clear hk2 hD2
      go_wp2_with fail
      go_roundg (gk - 1)
      case measure => omega
      case rel => exact ⟨j - 60, c + 1, f2, nd2, dp2, by first | rfl | (congr 1), by omega, by omega, by omega, by omega, by omega, by omega, (by have := HD2.out; rwa [show (-((60 * (c + 1) : Nat) : Int)) = -((60 * c : Nat) : Int) - ((60 : Nat) : Int) by omega]), HKp.out.trans HK2.out⟩
    · have hgtI : (j : Int) ≤ 60 := by omega
      have hcv : IntKind.u64.wrap (j : Int) = (j : Int) := by rw [IntKind.wrap_u64]; omega
      have hng : -(-(j : Int)) = (j : Int) := by omega
      go_wp2_with fail
      refine (rightShift_any wr g f1 nd1 dp1 M _ HDd.out (by omega) (by omega) (by omega) j hj0 (by omega) (by omega)).mono ?_
      rintro e w2 ⟨rfl, hk2, f2, nd2, dp2, hD2, hn2, hp2, hq2⟩
      have HK2 := Lib.hid hk2
      have HD2 := Lib.hid hD2
      clear hk2 hD2
      go_wp2_with fail
      go_end0
      exact ⟨rfl, HKp.out.trans HK2.out, f2, nd2, dp2, (by have := HD2.out; rwa [show -((60 * c : Nat) : Int) - (j : Int) = -(k : Int) by omega] at this), by omega, by omega, by omega⟩

set_option maxRecDepth 100000 in
theorem shift_zero (W : World) (g : Nat) (f : Nat → Nat) (nd : Nat) (dp : Int) (M : Nat) (h : Dd W g f nd dp M 0) (hnd : nd ≤ 17) (hdp0 : 0 ≤ dp) (hdp1 : dp ≤ 17) :
    Calls Tryd.prog 66 #[.pointer (some ⟨g, 0, none⟩), .int .i64 0] W (ShRes W g M 0 780 (-400) 400) := by
  have hpos := h.pos
  have HD := Lib.hid h
  have c800 := h.m.nd
  have hne : ((nd : Int) == 0) = false := by simp; omega
  clear h
  go_enter Tryd.func66, Tryd.ntmps66
  go_wp2_with fail
  go_end0
  exact ⟨rfl, Kp.refl _ _, f, nd, dp, HD.out, by omega, by omega, by omega⟩

theorem shift_any {B : Nat} (W : World) (g : Nat) (f : Nat → Nat) (nd : Nat) (dp : Int) (M : Nat) (h : Dd W g f nd dp M 0) (hT : Tabs B W) (hB : B ≤ g) (hnd : nd ≤ 17) (hdp0 : 0 ≤ dp) (hdp1 : dp ≤ 17) (E : Int) (hE0 : -1075 ≤ E) (hE1 : E ≤ 1000) :
    Calls Tryd.prog 66 #[.pointer (some ⟨g, 0, none⟩), .int .i64 E] W (ShRes W g M E 780 (-400) 400) := by
  rcases Int.lt_trichotomy E 0 with hl | he | hg
  · obtain ⟨k, rfl⟩ : ∃ k : Nat, E = -(k : Int) := ⟨(-E).toNat, by omega⟩
    exact shift_neg W g f nd dp M h hnd hdp0 hdp1 k (by omega) (by omega)
  · subst he
    exact shift_zero W g f nd dp M h hnd hdp0 hdp1
  · obtain ⟨k, rfl⟩ : ∃ k : Nat, E = (k : Int) := ⟨E.toNat, by omega⟩
    exact shift_pos W g f nd dp M h hT hB hnd hdp0 hdp1 k (by omega) (by omega)


theorem Kp.alloc {g : Nat} {a b : World} (h : Kp g a b) (o : Obj) : Kp g a (b.alloc o) := World.keptBut_trans h (World.keptBut_alloc _ _ _)
theorem Kp.setNew {g : Nat} {a b : World} (h : Kp g a b) {p : Addr} (hp : a.heap.size ≤ p.block) (v : Value) : Kp g a (b.setCell p v) :=
  keptBut_then h (World.keptBut_setCell b p v (may := fun q => q = .cell p.block p.off) rfl) (fun q hq => Or.inr (by rw [hq]; exact hp))
theorem Dm.setOther {w : World} {g : Nat} {f : Nat → Nat} {nd : Nat} {dp : Int} (h : Dm w g f nd dp) {b o : Nat} (hb : b ≠ g) (v : Value) : Dm (w.setCell ⟨b, o, none⟩ v) g f nd dp := by
  have hne : ∀ i, (⟨g, i, none⟩ : Addr) ≠ ⟨b, o, none⟩ := fun i q => hb (by have := congrArg Addr.block q; simpa using this.symm)
  exact ⟨fun i hi => by rw [World.cell?_setCell_other _ _ _ _ (hne i).symm]; exact h.cell i hi, h.byte, by rw [World.cell?_setCell_other _ _ _ _ (hne 800).symm]; exact h.nd, by rw [World.cell?_setCell_other _ _ _ _ (hne 801).symm]; exact h.dp,
    by rw [World.cell?_setCell_other _ _ _ _ (hne 803).symm]; exact h.tr, fun i => by rw [World.frozen?_setCell]; exact h.free i, by rw [World.size_setCell]; exact h.lt⟩

/-- The digits of a number, each at its place. -/
theorem nv_digits (M N : Nat) (f : Nat → Nat) (hN : M < 10 ^ N) (hf : ∀ i, i < N → f i = 48 + M / 10 ^ (N - 1 - i) % 10) : ∀ m, m ≤ N → nv (dl f m) = M / 10 ^ (N - m)
  | 0, _ => by rw [Nat.sub_zero, Nat.div_eq_of_lt hN]; rfl
  | m + 1, h => by
    rw [dl_succ, nv_snoc, nv_digits M N f hN hf m (by omega), hf m (by omega), show 48 + M / 10 ^ (N - 1 - m) % 10 - 48 = M / 10 ^ (N - 1 - m) % 10 by omega]
    rw [show N - m = (N - 1 - m) + 1 by omega, Nat.pow_succ, ← Nat.div_div_eq_div_mul, show N - (m + 1) = N - 1 - m by omega]
    omega

/-- The buffer of 24 bytes in block b, and the decimal in block g. -/
structure AMem (W : World) (g b : Nat) (f : Nat → Nat) (nd : Nat) (fb : Nat → Nat) (w : World) : Prop where
  m : Dm w g f nd 0
  kp : Kp g W w
  buf : ∀ i, i < 24 → w.cell? ⟨b, i, none⟩ = some (.int .u8 (fb i : Int))
  free : ∀ i, w.frozen? ⟨b, i, none⟩ = false
  lt : b < w.heap.size

theorem AMem.put {W w : World} {g b : Nat} {f fb : Nat → Nat} {nd : Nat} (h : AMem W g b f nd fb w) (hb : W.heap.size ≤ b) (hbg : b ≠ g) {t v : Nat} (ht : t < 24) {x : Int} (hx : x = (v : Int)) : AMem W g b f nd (fun i => if i = t then v else fb i) (w.setCell ⟨b, t, none⟩ (.int .u8 x)) := by
  subst hx
  refine ⟨h.m.setOther hbg _, h.kp.setNew hb _, fun i hi => ?_, fun i => by rw [World.frozen?_setCell]; exact h.free i, by rw [World.size_setCell]; exact h.lt⟩
  by_cases e : i = t
  · subst e
    rw [World.cell?_setCell_same _ _ _ (h.buf i hi), if_pos rfl]
  · rw [World.cell?_setCell_other _ _ _ _ (ne_off e).symm, if_neg e]
    exact h.buf i hi

section
variable {W w : World} {g b : Nat} {f fb : Nat → Nat} {nd : Nat}
theorem AMem.drew (h : AMem W g b f nd fb w) : AMem W g b f nd fb w.drew := ⟨h.m.drew, h.kp.drew, h.buf, h.free, h.lt⟩
theorem AMem.putD (h : AMem W g b f nd fb w) (hbg : b ≠ g) {j v : Nat} (hj : j < 800) (hv : v < 256) : AMem W g b (fun i => if i = j then v else f i) nd fb (w.setCell ⟨g, j, none⟩ (.int .u8 v)) :=
  ⟨h.m.setD hj hv rfl, h.kp.set _ _, fun i hi => by rw [World.cell?_setCell_other _ _ _ _ (fun q => hbg (by have := congrArg Addr.block q; simpa using this.symm))]; exact h.buf i hi, fun i => by rw [World.frozen?_setCell]; exact h.free i, by rw [World.size_setCell]; exact h.lt⟩
theorem AMem.setNd (h : AMem W g b f nd fb w) (hbg : b ≠ g) (n : Nat) {x : Int} (hx : x = (n : Int)) : AMem W g b f n fb (w.setCell ⟨g, 800, none⟩ (.int .i64 x)) :=
  ⟨h.m.setNd n hx, h.kp.set _ _, fun i hi => by rw [World.cell?_setCell_other _ _ _ _ (fun q => hbg (by have := congrArg Addr.block q; simpa using this.symm))]; exact h.buf i hi, fun i => by rw [World.frozen?_setCell]; exact h.free i, by rw [World.size_setCell]; exact h.lt⟩
end

set_option maxRecDepth 100000 in
set_option maxHeartbeats 4000000 in
theorem assign_any (W : World) (g : Nat) (f0 : Nat → Nat) (h : Dm W g f0 0 0) (M : Nat) (hM0 : 0 < M) (hM : M < 9007199254740992) :
    Calls Tryd.prog 65 #[.pointer (some ⟨g, 0, none⟩), .int .u64 M] W (ShRes W g M 0 17 0 17) := by
  have hz : ∀ i, i < 24 → (W.alloc (.cells Lib.zeros24 108)).cell? ⟨W.heap.size, i, none⟩ = some (.int .u8 0) := fun i hi => by
    rw [World.cell?_alloc_new, Lib.zeros24_at _ hi]
  have hbg : W.heap.size ≠ g := by have := h.lt; omega
  have ha : AMem W g W.heap.size f0 0 (fun _ => 0) (W.alloc (.cells Lib.zeros24 108)) := ⟨h.still ((Still.refl W).alloc _), (Kp.refl g W).alloc _, hz, fun i => World.frozen?_alloc_new _ _ _ _, by simp⟩
  have HA := Lib.hid ha
  have HD := Lib.hid h
  clear hz ha h
  go_enter Tryd.func65, Tryd.ntmps65
  go_wp2_with fail
  go_loopg [1, 5] 24 (fun q vv nv1 wr => ∃ (n v : Nat) (fb : Nat → Nat), vv = .int .u64 v ∧ nv1 = .int .i64 n ∧ v = M / 10 ^ n ∧ n + q = 24 ∧ (0 < n → 10 ^ (n - 1) ≤ M) ∧ v < 9007199254740992 ∧ (∀ i, i < n → fb i = 48 + M / 10 ^ i % 10) ∧ AMem W g W.heap.size f0 0 fb wr)
  case atStart => exact ⟨0, M, _, rfl, rfl, by rw [Nat.pow_zero, Nat.div_one], by omega, fun h => by omega, hM, fun i hi => by omega, HA.out⟩
  case round =>
    obtain ⟨n, v, fb, rfl, rfl, hv, hnq, hlead, hv53, hfb, hA⟩ := hrel
    have HV := Lib.hid hv
    have HL := Lib.hid hlead
    have HFB := Lib.hid hfb
    have hv53I : (v : Int) < 9007199254740992 := by omega
    clear hlead hfb
    rcases Nat.eq_zero_or_pos v with hv0 | hv0
    · subst hv0
      have hMlt : M < 10 ^ n := by
        rcases Nat.lt_or_ge M (10 ^ n) with h | h
        · exact h
        · have := (Nat.le_div_iff_mul_le (Nat.pow_pos (by decide))).2 (show 1 * 10 ^ n ≤ M by omega)
          omega
      have hn1 : 1 ≤ n := by
        rcases Nat.eq_zero_or_pos n with h | h
        · subst h; rw [Nat.pow_zero] at hMlt; omega
        · exact h
      have hlead := HL.out hn1
      have hn16 : n ≤ 16 := by
        rcases Nat.lt_or_ge 16 n with h | h
        · have : 10 ^ 16 ≤ 10 ^ (n - 1) := Nat.pow_le_pow_right (by decide) (by omega)
          omega
        · exact h
      have c800 := hA.m.nd
      have f800 := hA.m.free 800
      have hlt := hA.m.lt
      have HAA := Lib.hid hA
      have HMlt := Lib.hid hMlt
      have HLead := Lib.hid hlead
      have hn16I : (n : Int) ≤ 16 := by omega
      have ha2 : AMem W g W.heap.size f0 0 fb (wr.setCell ⟨g, 800, none⟩ (.int .i64 0)) :=
        ⟨hA.m.setNd 0 rfl, hA.kp.set _ _, fun i hi => by rw [World.cell?_setCell_other _ _ _ _ (fun q => hbg (by have := congrArg Addr.block q; simpa using this.symm))]; exact hA.buf i hi, fun i => by rw [World.frozen?_setCell]; exact hA.free i, by rw [World.size_setCell]; exact hA.lt⟩
      have HA2 := Lib.hid ha2
      clear hv hMlt hlead hA ha2
      go_wp2_with fail
      go_loopg [5] n (fun q nv1 wr => ∃ (j : Nat) (r : Int) (f : Nat → Nat), nv1 = .int .i64 r ∧ r + 1 + j = n ∧ j + q = n ∧ (∀ i, i < j → f i = 48 + M / 10 ^ (n - 1 - i) % 10) ∧ AMem W g W.heap.size f j fb wr)
      case atStart => exact ⟨0, _, f0, rfl, by omega, by omega, fun i hi => by omega, HA2.out⟩
      case round =>
        obtain ⟨j, r, f, rfl, hrj, hjq, hf, hA⟩ := hrel
        have HF := Lib.hid hf
        have c800 := hA.m.nd
        have f800 := hA.m.free 800
        have hlt := hA.m.lt
        clear hf
        by_cases hr0 : 0 ≤ r
        · obtain ⟨t, rfl⟩ : ∃ t : Nat, r = (t : Int) := ⟨r.toNat, by omega⟩
          have ht24 : t < 24 := by omega
          have ht24I : (t : Int) < 24 := by omega
          have hj8 : j < 800 := by omega
          have hj8I : (j : Int) < 800 := by omega
          have hbt := hA.buf t ht24
          have hcj := hA.m.cell j hj8
          have fcj := hA.m.free j
          have hb256 : fb t < 256 := by rw [HFB.out t (by omega)]; omega
          have hft : fb t = 48 + M / 10 ^ (n - 1 - j) % 10 := by rw [show n - 1 - j = t by omega, HFB.out t (by omega)]
          obtain ⟨b, hb⟩ : ∃ b, b = fb t := ⟨_, rfl⟩
          rw [← hb] at hbt hb256 hft
          have HB := Lib.hid hb
          have HFT := Lib.hid hft
          have hput := (hA.putD hbg hj8 hb256).drew.setNd hbg (j + 1) (x := (j : Int) + 1) (by omega)
          have HPUT := Lib.hid hput
          have hneb : ∀ v, (wr.setCell ⟨g, j, none⟩ v).cell? ⟨g, 800, none⟩ = wr.cell? ⟨g, 800, none⟩ := fun v => World.cell?_setCell_other _ _ _ _ (ne_off (by omega))
          clear hb hft hput hA
          go_wp2_with fail
          go_region
          go_wp2_with fail
          go_roundg (gk - 1)
          case measure => omega
          case rel =>
            refine ⟨j + 1, (t : Int) - 1, _, rfl, by omega, by omega, ?_, HPUT.out⟩
            intro i hi
            by_cases e : i = j
            · rw [if_pos e, e]; exact HFT.out
            · rw [if_neg e]; exact HF.out i (by omega)
        · obtain rfl : n = j := by omega
          have hge : decide ((0 : Int) ≤ r) = false := decide_eq_false hr0
          have hf2 : ∀ i, i < n → f i = 48 + M / 10 ^ (n - 1 - i) % 10 := HF.out
          have hnv : nv (dl f n) = M := by
            have := nv_digits M n f HMlt.out hf2 n (Nat.le_refl _)
            rwa [Nat.sub_self, Nat.pow_zero, Nat.div_one] at this
          have hdg : Dg (dl f n) := by
            refine ⟨fun d hd => ?_, fun _ => by rw [dl_length, hnv]; exact HLead.out⟩
            obtain ⟨i, hi, rfl⟩ := List.mem_map.1 hd
            rw [hf2 i (List.mem_range.1 hi)]
            omega
          have hval : VN M 0 ((n : Int) - (n : Int)) = VC * nv (dl f n) := by
            rw [hnv, Int.sub_self]
            have := VN_mul 1 M 0 0
            rw [Nat.one_mul] at this
            rw [this, Nat.mul_comm]
            rfl
          have c801 := hA.m.dp
          have f801 := hA.m.free 801
          have hm2 := hA.m.setDp (n : Int)
          have hk2 := hA.kp.set 801 (.int .i64 (n : Int))
          have HM2 := Lib.hid hm2
          have HK2 := Lib.hid hk2
          have HDG := Lib.hid hdg
          have HVAL := Lib.hid hval
          clear hm2 hk2 hdg hval hnv hf2 hA hge
          go_wp2_with fail
          refine (trim_any _ g f n _ HM2.out (by omega)).mono ?_
          intro e w' htr
          have htr0 := htr.1
          subst htr0
          have hfin := Dd.trim (M := M) (E := 0) HK2.out HDG.out (by omega) (fun i hi => by rw [HF.out i hi]; omega) HVAL.out (by omega) (dpLo := 0) (dpHi := 17) (by omega) (by omega) htr
          have HFIN := Lib.hid hfin
          clear hfin htr
          go_wp2_with fail
          go_end0
          obtain ⟨h1, h2, f3, nd3, dp3, h3, h4, h5, h6⟩ := HFIN.out
          exact ⟨h1, h2, f3, nd3, dp3, h3, by omega, h5, h6⟩
    · have hn15 : n < 16 := by
        rcases Nat.lt_or_ge n 16 with h | h
        · exact h
        · exfalso
          have h1 : 10 ^ 16 ≤ 10 ^ n := Nat.pow_le_pow_right (by decide) h
          have h2 : M / 10 ^ n = 0 := Nat.div_eq_of_lt (by omega)
          omega
      have hle : 10 ^ n ≤ M := by
        rcases Nat.lt_or_ge M (10 ^ n) with h | h
        · rw [Nat.div_eq_of_lt h] at hv; omega
        · exact h
      have hv0I : (0 : Int) < v := by omega
      have hn24 : n < 24 := by omega
      have hn24I : (n : Int) < 24 := by omega
      obtain ⟨Q, hQ⟩ : ∃ Q, Q = v / 10 := ⟨_, rfl⟩
      obtain ⟨R, hR⟩ : ∃ R, R = v % 10 := ⟨_, rfl⟩
      have hQI : (v : Int) / 10 = (Q : Int) := by omega
      have hRI : (v : Int) - 10 * (Q : Int) = (R : Int) := by omega
      have hR10 : R < 10 := by omega
      have hR10I : (R : Int) < 10 := by omega
      have hQU : 10 * (Q : Int) < 18446744073709551616 := by omega
      have hbn := hA.buf n hn24
      have fbn := hA.free n
      have hlt := hA.m.lt
      have hlt2 := hA.lt
      have hput := hA.put (Nat.le_refl _) hbg (t := n) (v := R + 48) hn24 (x := (R : Int) + 48) (by omega)
      have HPUT := Lib.hid hput
      have hQ2 : Q = M / 10 ^ (n + 1) := by rw [hQ, hv, Nat.pow_succ, Nat.div_div_eq_div_mul]
      have hR2 : R = M / 10 ^ n % 10 := by rw [hR, hv]
      have HQ2 := Lib.hid hQ2
      have HR2 := Lib.hid hR2
      have hQ53 : Q < 9007199254740992 := by omega
      clear hv hQ hR hput hA hQ2 hR2
      go_wp2_with fail
      go_roundg (gk - 1)
      case measure => omega
      case rel =>
        refine ⟨n + 1, Q, _, rfl, by go_num, HQ2.out, by omega, fun _ => (by rw [Nat.add_sub_cancel]; exact hle), hQ53, ?_, HPUT.out⟩
        intro i hi
        by_cases e : i = n
        · rw [if_pos e, e, HR2.out]; omega
        · rw [if_neg e]; exact HFB.out i (by omega)


set_option maxRecDepth 100000 in
set_option maxHeartbeats 2000000 in
theorem should_any (W : World) (g : Nat) (f : Nat → Nat) (nd : Nat) (dp : Int) (h : Dm W g f nd dp) (hdig : ∀ i, i < nd → 48 ≤ f i ∧ f i < 58) (hnd : nd ≤ 800) (n : Nat) (hn : n < nd) :
    Calls Tryd.prog 87 #[.pointer (some ⟨g, 0, none⟩), .int .i64 n] W fun e w' => e = .returned (.bool (upB (dl f nd) n)) ∧ W = w' := by
  have c800 := h.nd
  have c803 := h.tr
  have hnI : (n : Int) < nd := by omega
  have hn0 : decide ((n : Int) < 0) = false := decide_eq_false (by omega)
  have hge : decide ((nd : Int) ≤ (n : Int)) = false := decide_eq_false (by omega)
  have hge' : decide (nd ≤ n) = false := decide_eq_false (by omega)
  have hn8 : n < 800 := by omega
  have hn8I : (n : Int) < 800 := by omega
  have hcn := h.cell n hn8
  obtain ⟨h1, h2⟩ := hdig n hn
  have hup : upB (dl f nd) n = if f n = 53 ∧ n + 1 = nd then decide (0 < n ∧ (f (n - 1) - 48) % 2 ≠ 0) else decide (53 ≤ f n) := by
    unfold upB
    rw [dl_getD f nd n hn, dl_length]
    by_cases e : f n = 53 ∧ n + 1 = nd
    · rw [if_pos e, if_pos ⟨by omega, e.2⟩, dl_getD f nd (n - 1) (by omega)]
    · rw [if_neg e, if_neg (fun q => e ⟨by omega, q.2⟩)]
      exact decide_eq_decide.2 (by omega)
  by_cases hA : f n = 53 ∧ n + 1 = nd
  · rw [if_pos hA] at hup
    obtain ⟨hA1, hA2⟩ := hA
    rw [hA1] at hcn
    have hA2I : (n : Int) + 1 = (nd : Int) := by omega
    have hA3 : ((nd : Int) == (nd : Int)) = true := by simp
    rcases Nat.eq_zero_or_pos n with h0 | h0
    · subst h0
      have hup2 : upB (dl f nd) 0 = false := by rw [hup]; simp
      rw [hup2]
      clear hup hup2 hdig h hA1
      go_enter Tryd.func87, Tryd.ntmps87
      go_wp2_with fail
      go_ret
      exact ⟨rfl, rfl⟩
    · obtain ⟨t, rfl⟩ : ∃ t, n = t + 1 := ⟨n - 1, by omega⟩
      have ht1 : ((t + 1 : Nat) : Int) - 1 = (t : Int) := by omega
      have ht8 : t < 800 := by omega
      have ht8I : (t : Int) < 800 := by omega
      have hct := h.cell t ht8
      obtain ⟨g1, g2⟩ := hdig t (by omega)
      rw [Nat.add_sub_cancel] at hup
      obtain ⟨b, hb⟩ : ∃ b, b = f t := ⟨_, rfl⟩
      rw [← hb] at hct g1 g2 hup
      obtain ⟨c, hc⟩ : ∃ c, c = b - 48 := ⟨b - 48, rfl⟩
      rw [← hc] at hup
      have hc9 : c < 10 := by omega
      have hc9I : (c : Int) < 10 := by omega
      have hbc : (b : Int) - 48 = (c : Int) := by omega
      clear hc
      have htp : (0 : Int) < ((t + 1 : Nat) : Int) := by omega
      by_cases hodd : c % 2 = 0
      · have hup2 : upB (dl f nd) (t + 1) = false := by rw [hup]; simp [hodd]
        have hno : ((c : Int) % 2 != 0) = false := by rw [show (c : Int) % 2 = ((c % 2 : Nat) : Int) by simp, hodd]; rfl
        rw [hup2]
        clear hup hup2 hdig h hA1 hb hodd
        go_enter Tryd.func87, Tryd.ntmps87
        go_wp2_with fail
        go_ret
        exact ⟨rfl, rfl⟩
      · have hup2 : upB (dl f nd) (t + 1) = true := by rw [hup]; simp; omega
        have hno : ((c : Int) % 2 != 0) = true := bne_iff_ne.2 (by omega)
        rw [hup2]
        clear hup hup2 hdig h hA1 hb hodd
        go_enter Tryd.func87, Tryd.ntmps87
        go_wp2_with fail
        go_ret
        exact ⟨rfl, rfl⟩
  · rw [if_neg hA] at hup
    obtain ⟨b, hb⟩ : ∃ b, b = f n := ⟨_, rfl⟩
    rw [← hb] at hcn h1 h2 hup hA
    have hcnI : (b : Int) < 58 := by omega
    by_cases h53 : b = 53
    · subst h53
      have hne : (((n : Int) + 1) == (nd : Int)) = false := by simp; omega
      have hup2 : upB (dl f nd) n = true := by rw [hup]; decide
      rw [hup2]
      clear hup hup2 hdig h hA hb
      go_enter Tryd.func87, Tryd.ntmps87
      go_wp2_with fail
      go_ret
      exact ⟨rfl, rfl⟩
    · have hne : ((b : Int) == 53) = false := by simp; omega
      rw [hup]
      by_cases hlt : 53 ≤ b
      · have hlI : decide ((53 : Int) ≤ (b : Int)) = true := decide_eq_true (by omega)
        rw [decide_eq_true hlt]
        clear hup hdig h hA hb
        go_enter Tryd.func87, Tryd.ntmps87
        go_wp2_with fail
        go_ret
        exact ⟨rfl, rfl⟩
      · have hlI : decide ((53 : Int) ≤ (b : Int)) = false := decide_eq_false (by omega)
        rw [decide_eq_false hlt]
        clear hup hdig h hA hb
        go_enter Tryd.func87, Tryd.ntmps87
        go_wp2_with fail
        go_ret
        exact ⟨rfl, rfl⟩

/-- What a rounding leaves. -/
def RoRes (W : World) (g : Nat) (ds : List Nat) (dp : Int) (M : Nat) (E : Int) (n : Nat) (e : Ending) (w' : World) : Prop :=
  e = .returned (.tuple #[]) ∧ Kp g W w' ∧ ∃ f nd dp', Dm w' g f nd dp' ∧ (∀ i, i < nd → 48 ≤ f i ∧ f i < 58) ∧ nd ≤ 800 ∧ (dp' = dp ∨ dp' = dp + 1 ∨ dp' = 0) ∧ Rd ds dp M E n (dl f nd) dp'

set_option maxRecDepth 100000 in
set_option maxHeartbeats 2000000 in
theorem roundDown_any (W : World) (g : Nat) (f : Nat → Nat) (nd : Nat) (dp : Int) (M : Nat) (E : Int) (h : Dd W g f nd dp M E) (hnd : nd ≤ 800) (hdp : dp ≤ 800) (n : Nat) (hn : n < nd) (hu : upB (dl f nd) n = false) :
    Calls Tryd.prog 89 #[.pointer (some ⟨g, 0, none⟩), .int .i64 n] W (RoRes W g (dl f nd) dp M E n) := by
  have c800 := h.m.nd
  have f800 := h.m.free 800
  have hlt := h.m.lt
  have hnI : (n : Int) < nd := by omega
  have hn0 : decide ((n : Int) < 0) = false := decide_eq_false (by omega)
  have hge : decide ((nd : Int) ≤ (n : Int)) = false := decide_eq_false (by omega)
  have hge' : decide (nd ≤ n) = false := decide_eq_false (by omega)
  have hm2 := h.m.setNd n (x := (n : Int)) rfl
  have hk2 := (Kp.refl g W).set 800 (.int .i64 (n : Int))
  have HM2 := Lib.hid hm2
  have HK2 := Lib.hid hk2
  have HH := Lib.hid h
  have HU := Lib.hid hu
  clear hm2 hk2 h hu
  go_enter Tryd.func89, Tryd.ntmps89
  go_wp2_with fail
  refine (trim_any _ g f n _ HM2.out (by omega)).mono ?_
  rintro e w' ⟨rfl, hk', j, hj, hz, hl, hm⟩
  have HK3 := Lib.hid hk'
  have HZ := Lib.hid hz
  have HL := Lib.hid hl
  have HM3 := Lib.hid hm
  clear hk' hz hl hm
  go_wp2_with fail
  go_end0
  have hdig := HH.out.dig
  have hv := HH.out.v
  have hlen : (dl f nd).length = nd := dl_length f nd
  refine ⟨rfl, HK2.out.trans HK3.out, f, j, _, HM3.out, fun i hi => hdig i (by omega), by omega, by split <;> omega, ?_⟩
  have hz' : ∀ i, j ≤ i → i < n → (dl f nd).getD i 0 = 0 := fun i h1 h2 => by
    rw [dl_getD f nd i (by omega), HZ.out i h1 h2]
  rcases Nat.eq_zero_or_pos j with h0 | h0
  · subst h0
    rw [if_pos rfl]
    have hn00 : n = 0 := by
      rcases Nat.eq_zero_or_pos n with g0 | g0
      · exact g0
      · exfalso
        have h1 := hz' 0 (Nat.le_refl _) g0
        have h2 := NN_lo hv.dg hv.ne 1 (Nat.le_refl _)
        have h3 := NN_succ (dl f nd) 0
        rw [NN_zero, h1] at h3
        rw [h3] at h2
        simp at h2
    subst hn00
    exact Rd.down0 hv hdp HU.out
  · rw [if_neg (by omega)]
    have := Rd.down (j := j) hv hdp (by rw [hlen]; exact hn) HU.out h0 hj hz' (by
      rw [dl_getD f nd (j - 1) (by omega)]
      have h5 := HL.out h0
      have := (hdig (j - 1) (by omega)).1
      omega)
    rwa [dl_take f nd j (by omega)] at this

set_option maxRecDepth 100000 in
set_option maxHeartbeats 2000000 in
theorem roundUp_any (W : World) (g : Nat) (f : Nat → Nat) (nd : Nat) (dp : Int) (M : Nat) (E : Int) (h : Dd W g f nd dp M E) (hnd : nd ≤ 800) (hdp : dp ≤ 800) (hdp0 : -800 ≤ dp) (n : Nat) (hn : n < nd) (hu : upB (dl f nd) n = true) :
    Calls Tryd.prog 88 #[.pointer (some ⟨g, 0, none⟩), .int .i64 n] W (RoRes W g (dl f nd) dp M E n) := by
  have c800 := h.m.nd
  have c801 := h.m.dp
  have f800 := h.m.free 800
  have f801 := h.m.free 801
  have f0 := h.m.free 0
  have c0 := h.m.cell 0 (by omega)
  have hlt := h.m.lt
  have hnI : (n : Int) < nd := by omega
  have hn0 : decide ((n : Int) < 0) = false := decide_eq_false (by omega)
  have hge : decide ((nd : Int) ≤ (n : Int)) = false := decide_eq_false (by omega)
  have hge' : decide (nd ≤ n) = false := decide_eq_false (by omega)
  have hlen : (dl f nd).length = nd := dl_length f nd
  have HLEN := Lib.hid hlen
  have HH := Lib.hid h
  have HU := Lib.hid hu
  clear h hu hlen
  go_enter Tryd.func88, Tryd.ntmps88
  go_wp2_with fail
  go_loopg [4] n (fun q v wr => ∃ (r : Int) (j : Nat), v = .int .i64 r ∧ r + 1 = j ∧ j ≤ q ∧ j ≤ n ∧ (∀ t, j ≤ t → t < n → (dl f nd).getD t 0 = 9) ∧ W = wr)
  case atStart => exact ⟨_, n, rfl, by omega, Nat.le_refl _, Nat.le_refl _, fun t h1 h2 => by omega, rfl⟩
  case round =>
    obtain ⟨r, j, rfl, hrj, hjq, hjn, h9, rfl⟩ := hrel
    have H9 := Lib.hid h9
    clear h9
    rcases Nat.eq_zero_or_pos j with h0 | h0
    · subst h0
      have hrneg : decide ((0 : Int) ≤ r) = false := decide_eq_false (by omega)
      have hfin := Rd.nines HH.out.v hdp (by rw [HLEN.out]; exact hn) HU.out (fun t ht => H9.out t (Nat.zero_le _) ht)
      have hm2 := ((HH.out.m.setD (i := 0) (v := 49) (by omega) (by omega) (x := 49) rfl).setNd 1 (x := 1) rfl).setDp (dp + 1)
      have hk2 := (((Kp.refl g W).set 0 (.int .u8 49)).set 800 (.int .i64 1)).set 801 (.int .i64 (dp + 1))
      have HF := Lib.hid hfin
      have HM2 := Lib.hid hm2
      have HK2 := Lib.hid hk2
      clear hfin hm2 hk2
      go_wp2_with fail
      go_end0
      refine ⟨rfl, HK2.out, _, 1, _, HM2.out, fun i hi => ?_, by omega, by omega, ?_⟩
      · have : i = 0 := by omega
        subst this
        simp
      · exact HF.out
    · obtain ⟨t, rfl⟩ : ∃ t, j = t + 1 := ⟨j - 1, by omega⟩
      obtain rfl : r = (t : Int) := by omega
      have htn : t < n := by omega
      have ht8 : t < 800 := by omega
      have ht8I : (t : Int) < 800 := by omega
      have hct := HH.out.m.cell t ht8
      have fct := HH.out.m.free t
      obtain ⟨g1, g2⟩ := HH.out.dig t (by omega)
      have hgd : (dl f nd).getD t 0 = f t - 48 := dl_getD f nd t (by omega)
      obtain ⟨b, hb⟩ : ∃ b, b = f t := ⟨_, rfl⟩
      rw [← hb] at hct g1 g2 hgd
      have hb58 : (b : Int) < 58 := by omega
      by_cases h57 : b < 57
      · have h57I : (b : Int) < 57 := by omega
        have hb1 : (b : Int) + 1 = ((b + 1 : Nat) : Int) := by omega
        have hneb : ∀ v, (W.setCell ⟨g, t, none⟩ v).cell? ⟨g, 800, none⟩ = W.cell? ⟨g, 800, none⟩ := fun v => World.cell?_setCell_other _ _ _ _ (ne_off (by omega))
        have hfin := Rd.up HH.out.v hdp (by rw [HLEN.out]; exact hn) HU.out htn (fun i h1 h2 => H9.out i (by omega) h2) (by rw [hgd]; omega)
        rw [dl_take f nd t (by omega), hgd] at hfin
        have hm2 := ((HH.out.m.setD (i := t) (v := b + 1) ht8 (by omega) (x := (b : Int) + 1) hb1).drew).setNd (t + 1) (x := (t : Int) + 1) (by omega)
        have hk2 := (((Kp.refl g W).set t (.int .u8 ((b : Int) + 1))).drew).set 800 (.int .i64 ((t : Int) + 1))
        have HF := Lib.hid hfin
        have HM2 := Lib.hid hm2
        have HK2 := Lib.hid hk2
        have HB := Lib.hid hb
        clear hfin hm2 hk2 hb hgd hb1 hrj
        go_wp2_with fail
        go_region
        go_wp2_with fail
        go_end0
        refine ⟨rfl, HK2.out, _, t + 1, dp, HM2.out, fun i hi => ?_, by omega, by omega, ?_⟩
        · by_cases e : i = t
          · rw [if_pos e]; omega
          · rw [if_neg e]; exact HH.out.dig i (by omega)
        · have e : dl (fun j => if j = t then b + 1 else f j) t = dl f t := dl_congr fun i hi => by rw [if_neg (by omega)]
          rw [dl_succ, if_pos rfl, e, show b + 1 - 48 = b - 48 + 1 by omega]
          exact HF.out
      · have h57I : decide ((b : Int) < 57) = false := decide_eq_false (by omega)
        have HB := Lib.hid hgd
        clear hb hgd
        go_wp2_with fail
        go_roundg (gk - 1)
        case measure => omega
        case rel =>
          refine ⟨(t : Int) - 1, t, rfl, by omega, by omega, by omega, fun i h1 h2 => ?_, rfl⟩
          by_cases e : i = t
          · rw [e, HB.out]; omega
          · exact H9.out i (by omega) h2

set_option maxRecDepth 100000 in
set_option maxHeartbeats 2000000 in
theorem roundDec_any (W : World) (g : Nat) (f : Nat → Nat) (nd : Nat) (dp : Int) (M : Nat) (E : Int) (h : Dd W g f nd dp M E) (hnd : nd ≤ 800) (hdp : dp ≤ 800) (hdp0 : -800 ≤ dp) (n : Nat) (hn9 : n ≤ 10000) :
    Calls Tryd.prog 67 #[.pointer (some ⟨g, 0, none⟩), .int .i64 n] W (RoRes W g (dl f nd) dp M E n) := by
  have c800 := h.m.nd
  have hn0 : decide ((n : Int) < 0) = false := decide_eq_false (by omega)
  by_cases hn : n < nd
  · have hnI : (n : Int) < nd := by omega
    have hge : decide ((nd : Int) ≤ (n : Int)) = false := decide_eq_false (by omega)
    have hge' : decide (nd ≤ n) = false := decide_eq_false (by omega)
    have cs := should_any W g f nd dp h.m h.dig hnd n hn
    obtain ⟨U, hU⟩ : ∃ U, U = upB (dl f nd) n := ⟨_, rfl⟩
    rw [← hU] at cs
    cases U
    · have cd := roundDown_any W g f nd dp M E h hnd hdp n hn hU.symm
      clear h hU
      go_enter Tryd.func67, Tryd.ntmps67
      go_wp2_with fail
      refine cs.mono ?_
      rintro e w' ⟨rfl, rfl⟩
      go_wp2_with fail
      refine cd.mono ?_
      intro e w' hr
      have h0 := hr.1
      subst h0
      have HR := Lib.hid hr
      clear hr
      go_wp2_with fail
      go_end0
      exact HR.out
    · have cd := roundUp_any W g f nd dp M E h hnd hdp hdp0 n hn hU.symm
      clear h hU
      go_enter Tryd.func67, Tryd.ntmps67
      go_wp2_with fail
      refine cs.mono ?_
      rintro e w' ⟨rfl, rfl⟩
      go_wp2_with fail
      refine cd.mono ?_
      intro e w' hr
      have h0 := hr.1
      subst h0
      have HR := Lib.hid hr
      clear hr
      go_wp2_with fail
      go_end0
      exact HR.out
  · have hge : decide ((nd : Int) ≤ (n : Int)) = true := decide_eq_true (by omega)
    have hge' : decide (nd ≤ n) = true := decide_eq_true (by omega)
    have HH := Lib.hid h
    have hfin := Rd.all h.v hdp (n := n) (by rw [dl_length]; omega)
    have HF := Lib.hid hfin
    clear h hfin
    go_enter Tryd.func67, Tryd.ntmps67
    go_wp2_with fail
    refine bodyPost_ret (results_none rfl _ _ _) rfl ?_
    exact ⟨rfl, Kp.refl _ _, f, nd, dp, HH.out.m, HH.out.dig, hnd, by omega, HF.out⟩

end Go.Proofs.YthfjpofbaeeafaaDoor
