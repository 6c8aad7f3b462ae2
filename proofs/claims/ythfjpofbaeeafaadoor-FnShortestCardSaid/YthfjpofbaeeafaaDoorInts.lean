/-
  What appending functions leave, one behind the other; formatBase10, AppendUint and AppendInt at base 10.
-/
import Derived.Test.YthfjpofbaeeafaaDoorTabs
import Derived.Lib.AppendIntMem
namespace Go.Proofs.YthfjpofbaeeafaaDoor
open Go.RowKit

/-- What an appending function leaves: 'ks' stands behind 'olds', where the slice lay or in a new block; nothing else has turned. -/
def AppRes (w : World) (g o c : Nat) (olds ks : List UInt8) (e : Ending) (w' : World) : Prop :=
  ∃ v' g' o' c', e = .returned v' ∧ Row w' v' (olds ++ ks) g' o' c' ∧ ((g' = g ∧ o' = o ∧ c' = c) ∨ (w.heap.size ≤ g' ∧ o' = 0 ∧ c < olds.length + ks.length)) ∧
    w.keptBut w' (fun p => ∃ j, olds.length ≤ j ∧ j < c ∧ p = .cell g (o + j))

theorem AppRes.shape {w : World} {g o c : Nat} {olds ks : List UInt8} {e : Ending} {w' : World} (h : AppRes w g o c olds ks e w') : ∃ a n k, e = .returned (.slice a n k) := by
  obtain ⟨v', g', o', c', rfl, hr, _⟩ := h
  exact ⟨_, _, _, by rw [hr.val]⟩

/-- Behind the appends of a function that began in W. -/
theorem Up.res {W w : World} {v v' : Value} {olds ks : List UInt8} {g o c : Nat} (hr : Row W v olds g o c) (hc0 : 0 < c) (h : Up W (some ⟨g, o, none⟩) g o c olds w v' ks) : AppRes W g o c olds ks (.returned v') w := by
  obtain ⟨g', o', c', h1, h2⟩ := h.row hr.came (fun j hj => (hr.there j (by have := hr.le; omega)).2) hr.max (.inl hc0)
  exact ⟨v', g', o', c', rfl, h1, h2, h.kept⟩

/-- A row stays a row where no old block turns. -/
theorem Row.still {w w' : World} {v : Value} {xs : List UInt8} {g o c : Nat} (h : Row w v xs g o c) (hs : Still w w') : Row w' v xs g o c := by
  refine ⟨h.val, h.le, h.max, fun i hi => ?_, fun j hj => ?_⟩
  · rw [hs.cell (v := .int .u8 (xs[i].toNat : Int)) ((h.get i hi).trans (bc_get xs i hi)), bc_get xs i hi]
  · obtain ⟨u, hu⟩ := Option.isSome_iff_exists.1 (h.there j hj).1
    refine ⟨by rw [hs.cell hu]; rfl, ?_⟩
    rw [keptBut_frozen hs (a := ⟨g, o + j, none⟩) (World.block_lt_of_cell? _ _ hu)]
    exact (h.there j hj).2

/-- A function that first makes memory of its own and appends then. -/
theorem AppRes.of_still {w w1 w2 : World} {g o c : Nat} {olds ks : List UInt8} {e : Ending} (hs : Still w w1) (h : AppRes w1 g o c olds ks e w2) : AppRes w g o c olds ks e w2 := by
  obtain ⟨v', g', o', c', h1, h2, h3, h4⟩ := h
  refine ⟨v', g', o', c', h1, h2, h3.imp id (fun ⟨a, b⟩ => ⟨Nat.le_trans hs.size a, b⟩), ?_⟩
  exact keptBut_then (World.keptBut_mono (fun _ f => f.elim) hs) h4 (fun p hp => Or.inl hp)

/-- One appending function behind another. -/
theorem AppRes.then {w w1 w2 : World} {g o c g1 o1 c1 : Nat} {olds k1 k2 : List UInt8} {e : Ending}
    (hg : (g1 = g ∧ o1 = o ∧ c1 = c) ∨ (w.heap.size ≤ g1 ∧ o1 = 0 ∧ c < olds.length + k1.length)) (hk : w.keptBut w1 (fun p => ∃ j, olds.length ≤ j ∧ j < c ∧ p = .cell g (o + j)))
    (h : AppRes w1 g1 o1 c1 (olds ++ k1) k2 e w2) : AppRes w g o c olds (k1 ++ k2) e w2 := by
  obtain ⟨v', g', o', c', h1, h2, h3, h4⟩ := h
  rw [List.length_append] at h3
  refine ⟨v', g', o', c', h1, by rw [← List.append_assoc]; exact h2, ?_, ?_⟩
  · rw [List.length_append]
    rcases h3 with ⟨a, b, d⟩ | ⟨a, b, d⟩
    · rcases hg with ⟨a', b', d'⟩ | ⟨a', b', d'⟩
      · exact Or.inl ⟨by omega, by omega, by omega⟩
      · exact Or.inr ⟨by omega, by omega, by omega⟩
    · refine Or.inr ⟨Nat.le_trans hk.size a, b, ?_⟩
      rcases hg with ⟨a', b', d'⟩ | ⟨a', b', d'⟩ <;> omega
  · refine keptBut_then hk h4 ?_
    rintro p ⟨j, hj, hj', rfl⟩
    rw [List.length_append] at hj
    rcases hg with ⟨a', b', d'⟩ | ⟨a', b', d'⟩
    · exact Or.inl ⟨j, by omega, by omega, by rw [a', b']⟩
    · exact Or.inr a'

/-- The last nd decimal digits of u, as bytes. -/
def digs (u nd : Nat) : List UInt8 := (List.range nd).map fun t => Lib.dg u (nd - 1 - t)
theorem digs_length (u nd : Nat) : (digs u nd).length = nd := by simp [digs]

theorem formatBase10_any (g o c u nd : Nat) (xs : List UInt8) (w : World) (h : Row w (.slice (some ⟨g, o, none⟩) nd c) xs g o c) (hn : xs.length = nd) (hu : u < 10 ^ nd) (hu64 : U64 u) (hnd : nd < 1000) :
    Calls Tryd.prog 80 #[.slice (some ⟨g, o, none⟩) nd c, .int .u64 u] w fun e w' =>
      e = .returned (.tuple #[]) ∧ Row w' (.slice (some ⟨g, o, none⟩) nd c) (digs u nd) g o c ∧ w.keptBut w' (fun p => ∃ j, j < nd ∧ p = .cell g (o + j)) := by
  have hH : Go.Sort.Holds (fun (b : UInt8) => Value.int .u8 (b.toNat : Int)) w g o xs.toArray := fun j hj => by
    have hj' : j < xs.length := by simpa using hj
    refine ⟨?_, (h.there j (by have := h.le; omega)).2⟩
    rw [h.get j hj', bc_get xs j hj', getElem!_pos _ j hj]
    simp
  have hc := Tryd.internal_strconv_formatBase10 g o c u xs.toArray w hH (by simpa [hn] using hu) hu64 (by simp; omega)
  rw [List.size_toArray, hn] at hc
  refine hc.mono ?_
  rintro e w' ⟨rfl, n, v', dk, rfl, hF⟩
  have hds : dk.size = xs.toArray.size := by rw [hF.size]; simp [hn]
  have hcell : ∀ j, j < nd → ((Go.Sort.putRow (fun (b : UInt8) => Value.int .u8 (b.toNat : Int)) w g o dk).drewN n).cell? ⟨g, o + j, none⟩ = (bc (digs u nd))[j]? := fun j hj => by
    have e1 := Go.Sort.cell?_putRow (fun (b : UInt8) => Value.int .u8 (b.toNat : Int)) w g o xs.toArray dk hH hds j (by rw [hF.size]; exact hj)
    refine (show _ = _ from e1).trans ?_
    rw [hF.done j (Nat.zero_le _) hj, bc_get _ j (by rw [digs_length]; exact hj)]
    simp [digs]
  have hfz : ∀ a, ((Go.Sort.putRow (fun (b : UInt8) => Value.int .u8 (b.toNat : Int)) w g o dk).drewN n).frozen? a = w.frozen? a := fun a => Go.Sort.frozen?_mapBlock w g _ a
  refine ⟨rfl, ⟨by rw [digs_length], by rw [digs_length]; have := h.le; omega, h.max, fun i hi => hcell i (by rw [digs_length] at hi; exact hi), fun j hj => ⟨?_, by rw [hfz]; exact (h.there j hj).2⟩⟩, ?_⟩
  · by_cases hj' : j < nd
    · rw [hcell j hj', List.getElem?_eq_getElem (by rw [bc_length, digs_length]; exact hj')]; rfl
    · have e1 := Go.Sort.cell?_putRow_other (fun (b : UInt8) => Value.int .u8 (b.toNat : Int)) w g o dk ⟨g, o + j, none⟩ (Or.inr (Or.inr (by show o + dk.size ≤ o + j; rw [hF.size]; omega)))
      rw [show ((Go.Sort.putRow (fun (b : UInt8) => Value.int .u8 (b.toNat : Int)) w g o dk).drewN n).cell? ⟨g, o + j, none⟩ = _ from e1]
      exact (h.there j hj).1
  · refine ⟨rfl, rfl, fun i hi => ?_⟩
    by_cases hig : i = g
    · subst hig
      have hb : ((Go.Sort.putRow (fun (b : UInt8) => Value.int .u8 (b.toNat : Int)) w i o dk).drewN n).heap[i]? = (w.heap[i]?).map (Go.Sort.onCells (Go.Sort.putCells (fun (b : UInt8) => Value.int .u8 (b.toNat : Int)) o dk)) := by
        show (w.heap.modify i _)[i]? = _
        rw [Array.getElem?_modify, if_pos rfl]
      rw [hb]
      cases hw : w.heap[i]? with
      | none => simp at hw; omega
      | some ob =>
        cases ob with
        | cells cs t fr =>
          refine ⟨rfl, rfl, by simp [Go.Sort.putCells], fun j hj => ?_⟩
          simp only [Go.Sort.putCells, Array.getElem?_mapIdx]
          by_cases hin : o ≤ j ∧ j < o + dk.size
          · exact absurd ⟨j - o, by rw [← hF.size]; omega, by rw [show o + (j - o) = j by omega]⟩ hj
          · simp only [if_neg hin]; cases cs[j]? <;> rfl
        | map es ck => exact Or.inr ⟨rfl, rfl⟩
        | _ => rfl
    · have hb : ((Go.Sort.putRow (fun (b : UInt8) => Value.int .u8 (b.toNat : Int)) w g o dk).drewN n).heap[i]? = w.heap[i]? := by
        show (w.heap.modify g _)[i]? = _
        rw [Array.getElem?_modify, if_neg (fun e => hig e.symm)]
      rw [hb]
      have := (World.keptBut_refl w (fun p => ∃ j, j < nd ∧ p = .cell g (o + j))).2.2 i hi
      exact this


theorem small_any (i : Nat) (h : i < 100) (w : World) : Calls Tryd.prog 90 #[.int .i64 i] w fun e w' => e = .returned (.string ⟨(Lib.decDigits i).toArray⟩) ∧ w = w' :=
  (Tryd.internal_strconv_small i h w).mono fun _ _ h => ⟨h.1, h.2.symm⟩
theorem numDigits_any {B : Nat} (u : Nat) (h1 : 1 ≤ u) (h2 : U64 u) (w : World) (ht : Tabs B w) : Calls Tryd.prog 62 #[.int .u64 u] w fun e w' => e = .returned (.int .i64 (Lib.nDigits u)) ∧ w = w' :=
  (Tryd.internal_strconv_numDigits u h1 h2 w ht.u10).mono fun _ _ h => ⟨h.1, h.2.symm⟩

theorem goBytes_bc (s : ByteArray) : Go.byteCells s = bc s.data.toList := rfl

theorem appendUint_small (u : Nat) (hu : u < 100) (v : Value) (olds : List UInt8) (g o c : Nat) (w : World) (hr : Row w v olds g o c) (hc0 : 0 < c) (hl : olds.length ≤ 1000000) :
    Calls Tryd.prog 69 #[v, .int .u64 u, .int .i64 10] w (AppRes w g o c olds (Lib.decDigits u)) := by
  have hc := hr.came
  have hst := Up.start hc
  have hsrc : Src Tryd.prog 1 9 (.string ⟨(Lib.decDigits u).toArray⟩) (Lib.decDigits u).length (bc (Lib.decDigits u)) w := by
    have := Src.ofString (P := Tryd.prog) w (tx := 9) Tryd.underlying9 ⟨(Lib.decDigits u).toArray⟩
    rw [goBytes_bc] at this
    exact this
  have hlen : (Lib.decDigits u).length ≤ 20 := by
    rw [Lib.decDigits_length]
    by_cases h10 : u < 10
    · rw [Lib.nDigits_small h10]; omega
    · rw [Lib.nDigits_big h10, Lib.nDigits_small (show u / 10 < 10 by omega)]; omega
  have hvl := hr.val
  rw [hvl]
  have HR := Lib.hid hr
  have HV := Lib.hid hvl
  have iu : (u : Int) < 100 := by omega
  clear hr hvl
  go_enter Tryd.func69, Tryd.ntmps69
  go_wp2_with (first
    | (go_at_call 90; refine (small_any u hu _).mono ?_; rintro e w' ⟨rfl, rfl⟩)
    | (at_builtin; refine wpList_up _ rfl _ _ 62 9 rfl Tryd.underlying62 hc rfl hst _ (Lib.decDigits u) rfl hsrc (by simp; omega) ?_))
  intro v' w1 hup
  obtain ⟨a', c', hv⟩ := hup.shape
  have hres := Up.res HR.out hc0 hup
  rw [hv] at hres ⊢
  have HS := Lib.hid hres
  clear hres hup hv
  go_wp2
  go_ret
  exact HS.out

/-- A new array of zeros, cut. -/
theorem row_zero24 (w : World) (T : TypeId) (nd : Nat) (hs : nd ≤ 24) : Row (w.alloc (.cells Lib.zeros24 T)) (.slice (some ⟨w.heap.size, 0, none⟩) nd 24) (List.replicate nd 0) w.heap.size 0 24 := by
  have hc : ∀ j, j < 24 → (w.alloc (.cells Lib.zeros24 T)).cell? ⟨w.heap.size, 0 + j, none⟩ = some (.int .u8 0) := fun j hj => by
    rw [Nat.zero_add, World.cell?_alloc_new, Lib.zeros24_at _ hj]
  refine ⟨by simp, by simpa using hs, by simp [maxLen], fun i hi => ?_, fun j hj => ⟨by rw [hc j hj]; rfl, World.frozen?_alloc_new _ _ _ _⟩⟩
  rw [hc i (by simp at hi; omega), bc_get _ i hi]
  simp

theorem decDigits_digs (u : Nat) : digs u (Lib.nDigits u) = Lib.decDigits u := by rw [Lib.decDigits_eq]; rfl

set_option maxRecDepth 100000 in
set_option maxHeartbeats 1000000 in
theorem appendUint_big (u : Nat) (hu : 100 ≤ u) (hu64 : U64 u) (v : Value) (olds : List UInt8) (g o c : Nat) (w : World) (hr : Row w v olds g o c) (hc0 : 0 < c) (hl : olds.length ≤ 1000000) {B : Nat} (ht : Tabs B w) :
    Calls Tryd.prog 69 #[v, .int .u64 u, .int .i64 10] w (AppRes w g o c olds (Lib.decDigits u)) := by
  have hu1 : 1 ≤ u := by omega
  have hnd20 : Lib.nDigits u ≤ 20 := by have := Lib.numDigits_eq u hu1 hu64; split at this <;> omega
  have hal : Tryd.prog.arrayLen 108 = 24 := by kernel_rfl
  have hS1 : Still w (w.alloc (.cells Lib.zeros24 108)) := (Still.refl w).alloc _
  have hrow0 := row_zero24 w 108 (Lib.nDigits u) (by omega)
  have hsl : ∀ W, (Instr.sliceAt 108 (.pointer (some ⟨w.heap.size, 0, none⟩)) none (some (.int .i64 (Lib.nDigits u : Int))) none).run Tryd.prog W = .ok (.slice (some ⟨w.heap.size, 0, none⟩) (Lib.nDigits u) 24) W := fun W => by
    rw [run_sliceAt_array_h W 108 ⟨w.heap.size, 0, none⟩ (by simp [Program.arrayLen, Program.elem, Tryd.underlying108]) .i64 (Lib.nDigits u : Int) (by omega) (by rw [hal]; omega)]
    go_simp
  have hfmt := formatBase10_any w.heap.size 0 24 u (Lib.nDigits u) _ _ hrow0 (by simp) (Lib.lt_pow_nDigits u) hu64 (by omega)
  have hvl := hr.val
  rw [hvl]
  have HR := Lib.hid hr
  have HR0 := Lib.hid hrow0
  have HV := Lib.hid hvl
  have iu : (100 : Int) ≤ (u : Int) := by omega
  clear hr hvl hrow0 hal
  go_enter Tryd.func69, Tryd.ntmps69
  go_wp2_with (go_at_call 62; refine (numDigits_any u hu1 hu64 _ (hS1.tabs ht)).mono ?_; rintro e w' ⟨rfl, rfl⟩)
  refine hfmt.mono ?_
  rintro e w2 ⟨rfl, hrow2, hk2⟩
  have hS2 : Still w w2 := keptBut_then hS1 hk2 (fun p ⟨j, _, e⟩ => Or.inr (by rw [e]; exact Nat.le_refl _))
  have hrw := HR.out.still hS2
  have hc := hrw.came
  have hst := Up.start hc
  have hsrc := hrow2.src 62 Tryd.underlying62
  rw [decDigits_digs] at hsrc
  have hdl := Lib.decDigits_length u
  have hlim : olds.length + ([] : List UInt8).length + (Lib.decDigits u).length ≤ 140737488355328 := by rw [hdl]; simp; omega
  have HDL := Lib.hid hdl
  clear hrow2 hk2 hfmt hdl
  go_wp2_with (at_builtin; refine wpList_up _ rfl _ _ 62 62 rfl Tryd.underlying62 hc rfl hst _ (Lib.decDigits u) rfl hsrc hlim ?_)
  intro v' w1 hup
  obtain ⟨a', c', hv⟩ := hup.shape
  have hres := AppRes.of_still hS2 (Up.res hrw hc0 hup)
  rw [hv] at hres ⊢
  have HS := Lib.hid hres
  clear hres hup hv
  go_wp2
  go_ret
  exact HS.out

/-- AppendUint at base 10: the decimal digits are appended. -/
theorem appendUint_any (u : Nat) (hu64 : U64 u) (v : Value) (olds : List UInt8) (g o c : Nat) (w : World) (hr : Row w v olds g o c) (hc0 : 0 < c) (hl : olds.length ≤ 1000000) {B : Nat} (ht : Tabs B w) :
    Calls Tryd.prog 69 #[v, .int .u64 u, .int .i64 10] w (AppRes w g o c olds (Lib.decDigits u)) := by
  by_cases hu : u < 100
  · exact appendUint_small u hu v olds g o c w hr hc0 hl
  · exact appendUint_big u (by omega) hu64 v olds g o c w hr hc0 hl ht

/-- The one-element slice that the translation lays for 'append(dst, x)'. -/
theorem src_one (w : World) (x : UInt8) (t : TypeId) (ht : Tryd.prog.underlying t = some (.slice 5)) : Src Tryd.prog 1 t (.slice (some ⟨w.heap.size, 0, none⟩) 1 1) 1 (bc [x]) (w.alloc (.cells #[.int .u8 (x.toNat : Int)] 5)) := by
  refine Src.ofSlice _ ht _ _ _ _ rfl (fun j u hj => ?_) (bc_one _)
  match j, hj with
  | 0, hj =>
    simp [bc] at hj
    subst hj
    rw [Addr.add_lit, Nat.zero_add]
    exact (World.cell?_alloc_new w _ _ 0).trans (by simp)
  | j + 1, hj => simp [bc] at hj

theorem appendInt_neg (n : Nat) (hn0 : 0 < n) (hn : n < 1000000) (v : Value) (olds : List UInt8) (g o c : Nat) (w : World) (hr : Row w v olds g o c) (hc0 : 0 < c) (hl : olds.length + 1 ≤ 1000000) {B : Nat} (ht : Tabs B w) (hBg : B ≤ g) :
    Calls Tryd.prog 70 #[v, .int .i64 (-(n : Int)), .int .i64 10] w (AppRes w g o c olds (45 :: Lib.decDigits n)) := by
  have hc := hr.came
  have hst := Up.start hc
  have hvl := hr.val
  rw [hvl]
  have hsrc := src_one w 45 62 Tryd.underlying62
  have hneg : IntKind.u64.wrap (-IntKind.u64.wrap (-(n : Int))) = n := by rw [IntKind.wrap_u64, IntKind.wrap_u64]; omega
  have hlt : -(n : Int) < 0 := by omega
  have HR := Lib.hid hr
  clear hr
  go_enter Tryd.func70, Tryd.ntmps70
  go_wp2_with (at_builtin; refine wpList_up _ rfl _ _ 62 62 rfl Tryd.underlying62 hc rfl (hst.alloc hc _) _ [45] rfl hsrc (by simp; omega) ?_)
  intro v' w1 hup
  obtain ⟨v1, g1, o1, c1, he, hr1, hg1, hk1⟩ := Up.res HR.out hc0 hup
  obtain rfl : v' = v1 := by injection he
  have hT1 : Tabs B w1 := ht.kept hk1 (fun p hp ⟨j, _, _, e⟩ => by rw [e] at hp; exact absurd hp (by show ¬ g < B; omega))
  have hc1 : 0 < c1 := by have := hr1.le; rw [List.length_append] at this; simp at this; omega
  have hcall := appendUint_any n (by unfold U64; omega) v' (olds ++ [45]) g1 o1 c1 w1 hr1 hc1 (by simp; omega) hT1
  have hv := hr1.val
  rw [hv] at hcall ⊢
  have HG := Lib.hid hg1
  have HK := Lib.hid hk1
  rw [List.length_append] at hcall ⊢
  clear hg1 hk1 hup hr1 hv
  go_wp2_with fail
  refine hcall.mono ?_
  intro e w2 hres
  obtain ⟨a, n', k, rfl⟩ := hres.shape
  have HRR := Lib.hid (AppRes.then HG.out HK.out hres)
  clear hres hcall
  go_wp2_with fail
  go_ret
  exact HRR.out

theorem appendInt_pos (n : Nat) (hn : n < 1000000) (v : Value) (olds : List UInt8) (g o c : Nat) (w : World) (hr : Row w v olds g o c) (hc0 : 0 < c) (hl : olds.length ≤ 1000000) {B : Nat} (ht : Tabs B w) :
    Calls Tryd.prog 70 #[v, .int .i64 (n : Int), .int .i64 10] w (AppRes w g o c olds (Lib.decDigits n)) := by
  have hcall := appendUint_any n (by unfold U64; omega) v olds g o c w hr hc0 hl ht
  have hv := hr.val
  rw [hv] at hcall ⊢
  have hneg : IntKind.u64.wrap (n : Int) = n := by rw [IntKind.wrap_u64]; omega
  have hlt : 0 ≤ (n : Int) := by omega
  clear hr hv
  go_enter Tryd.func70, Tryd.ntmps70
  go_wp2_with fail
  refine hcall.mono ?_
  intro e w2 hres
  obtain ⟨a, n', k, rfl⟩ := hres.shape
  have HRR := Lib.hid hres
  clear hres hcall
  go_wp2_with fail
  go_ret
  exact HRR.out

/-- AppendInt at base 10. -/
theorem appendInt_any (n : Int) (h0 : -1000000 < n) (h1 : n < 1000000) (v : Value) (olds : List UInt8) (g o c : Nat) (w : World) (hr : Row w v olds g o c) (hc0 : 0 < c) (hl : olds.length + 1 ≤ 1000000) {B : Nat} (ht : Tabs B w) (hBg : B ≤ g) :
    Calls Tryd.prog 70 #[v, .int .i64 n, .int .i64 10] w (AppRes w g o c olds (Lib.itoa n)) := by
  unfold Lib.itoa
  by_cases hn : n < 0
  · rw [if_pos hn]
    have e : n = -((n.natAbs : Nat) : Int) := by omega
    rw [e, show (-((n.natAbs : Nat) : Int)).natAbs = n.natAbs by omega]
    exact appendInt_neg n.natAbs (by omega) (by omega) v olds g o c w hr hc0 hl ht hBg
  · rw [if_neg hn]
    have e : n = ((n.toNat : Nat) : Int) := by omega
    rw [e, Int.toNat_natCast]
    exact appendInt_pos n.toNat (by omega) v olds g o c w hr hc0 (by omega) ht

end Go.Proofs.YthfjpofbaeeafaaDoor
