/-
  (*fmt).fmtFloat without the flags # + space and without a width, for a number whose text is known.
  ZZFloat and impl.Float: the text of a float, where strconv's answer is known.
  strconv.AppendFloat over ftoa64 and ftoa32.
-/
import Derived.Test.YthfjpofbaeeafaaDoorTabs
import Derived.RegionTactic
import Derived.ChangeAlike
import Derived.Test.YthfjpofbaeeafaaDoorBuf
import Derived.Test.YthfjpofbaeeafaaDoorInts
import Derived.Deep.DeepCutAuto
import Derived.Laws.FloatBits
import Derived.Laws.IdiomStrings
namespace Go.Proofs.YthfjpofbaeeafaaDoor
open Go.RowKit

/-- The cells of a formatter: its buffer, its nine flags, width, precision and the bytes of its array. -/
def fmtCells (bp : Addr) (hw hp mi pl sh sp ze pv sv : Bool) (wid prec : Int) (ib : List Value) : Array Value :=
  (([.pointer (some bp), .bool hw, .bool hp, .bool mi, .bool pl, .bool sh, .bool sp, .bool ze, .bool pv, .bool sv, .int .i64 wid, .int .i64 prec] : List Value) ++ ib).toArray

theorem new_second (w : World) (a b : Obj) : (((w.alloc a).alloc b).drew.heap)[w.heap.size + 1]? = some b := by
  show ((w.alloc a).alloc b).heap[w.heap.size + 1]? = some b
  have := heap_alloc_new (w.alloc a) b
  rwa [World.size_alloc] at this

set_option maxHeartbeats 1000000 in
theorem zzFmt_any (wid prec : Int) (hw hp mi pl sh sp ze pv sv : Bool) (bp : Addr) (w : World) :
    Calls Tryd.prog 36 #[.agg #[.int .i64 wid, .int .i64 prec, .bool hw, .bool hp, .bool mi, .bool pl, .bool sh, .bool sp, .bool ze, .bool pv, .bool sv], .pointer (some bp)] w fun e w' =>
      e = .returned (.pointer (some ⟨w.heap.size + 1, 0, none⟩)) ∧ w'.heap[w.heap.size + 1]? = some (.cells (fmtCells bp hw hp mi pl sh sp ze pv sv wid prec (List.replicate 68 (.int .u8 0))) 86 (0, 0)) ∧ w'.heap.size = w.heap.size + 2 ∧ Below w.heap.size w w' := by
  go_enter Tryd.func36, Tryd.ntmps36
  go_wp2
  go_end0
  go_wp2
  go_end0
  go_wp2
  go_region
  go_wp2
  go_ret
  refine ⟨rfl, ?_, ?_, ?_⟩
  · rw [new_second]
    refine congrArg some ?_
    refine congrArg (fun c => Obj.cells c 86 (0, 0)) ?_
    kernel_rfl
  · simp [World.drew]
  · exact (((Below.refl _ _).alloc (Nat.le_refl _) _).alloc (by simp) _).drew

/-- What a number's text is: strconv.AppendFloat's answer behind one byte. -/
def AFspec (bits : Nat) (size verb prec : Int) (str : List UInt8) : Prop :=
  ∀ (B : Nat) (w : World) (g : Nat) (x0 : UInt8), Tabs B w → B ≤ g → Row w (.slice (some ⟨g, 12, none⟩) 1 68) [x0] g 12 68 →
    Calls Tryd.prog 43 #[.slice (some ⟨g, 12, none⟩) 1 68, .float .f64 bits, .int .u8 verb, .int .i64 prec, .int .i64 size] w (AppRes w g 12 68 [x0] str)

/-- A formatter's fields. -/
structure FC (w : World) (f bb : Nat) (hw hp mi pl sh sp ze : Bool) (wid prec : Int) : Prop where
  lt : f < w.heap.size
  c0 : w.cell? ⟨f, 0, none⟩ = some (.pointer (some ⟨bb, 0, none⟩))
  c1 : w.cell? ⟨f, 1, none⟩ = some (.bool hw)
  c2 : w.cell? ⟨f, 2, none⟩ = some (.bool hp)
  c3 : w.cell? ⟨f, 3, none⟩ = some (.bool mi)
  c4 : w.cell? ⟨f, 4, none⟩ = some (.bool pl)
  c5 : w.cell? ⟨f, 5, none⟩ = some (.bool sh)
  c6 : w.cell? ⟨f, 6, none⟩ = some (.bool sp)
  c7 : w.cell? ⟨f, 7, none⟩ = some (.bool ze)
  c10 : w.cell? ⟨f, 10, none⟩ = some (.int .i64 wid)
  c11 : w.cell? ⟨f, 11, none⟩ = some (.int .i64 prec)

theorem FC.kept {w w' : World} {f bb : Nat} {hw hp mi pl sh sp ze : Bool} {wid prec : Int} (h : FC w f bb hw hp mi pl sh sp ze wid prec) {may : MemPlace → Prop} (hk : w.keptBut w' may) (hn : ∀ o, o < 12 → ¬ may (.cell f o)) :
    FC w' f bb hw hp mi pl sh sp ze wid prec :=
  have hh : ∀ o, o < 12 → w'.cell? ⟨f, o, none⟩ = w.cell? ⟨f, o, none⟩ := fun o ho => hk.cell h.lt (hn o ho)
  ⟨Nat.lt_of_lt_of_le h.lt hk.size, (hh 0 (by omega)).trans h.c0, (hh 1 (by omega)).trans h.c1, (hh 2 (by omega)).trans h.c2, (hh 3 (by omega)).trans h.c3, (hh 4 (by omega)).trans h.c4, (hh 5 (by omega)).trans h.c5, (hh 6 (by omega)).trans h.c6,
    (hh 7 (by omega)).trans h.c7, (hh 10 (by omega)).trans h.c10, (hh 11 (by omega)).trans h.c11⟩

theorem byteOf_verb (v : Int) (h0 : 0 ≤ v) (h1 : v < 256) : IntKind.u8.wrap v = v := by
  rw [IntKind.wrap_u8]; omega

/-- The first byte of a row is written. -/
theorem Row.set0 {w : World} {v : Value} {x y : UInt8} {xs : List UInt8} {g o c : Nat} (h : Row w v (x :: xs) g o c) : Row (w.setCell ⟨g, o, none⟩ (.int .u8 (y.toNat : Int))) v (y :: xs) g o c := by
  have hx : w.cell? ⟨g, o, none⟩ = some (.int .u8 (x.toNat : Int)) := (h.get 0 (by simp)).trans (by simp [bc])
  refine ⟨h.val, h.le, h.max, fun i hi => ?_, fun j hj => ?_⟩
  · cases i with
    | zero => rw [Nat.add_zero, cell_same hx]; simp [bc]
    | succ i =>
      rw [cell_other (by intro e; have := congrArg Addr.off e; simp at this), h.get (i + 1) hi]
      simp [bc]
  · refine ⟨?_, by rw [World.frozen?_setCell]; exact (h.there j hj).2⟩
    cases j with
    | zero => rw [Nat.add_zero, cell_same hx]; rfl
    | succ j => rw [cell_other (by intro e; have := congrArg Addr.off e; simp at this)]; exact (h.there (j + 1) hj).1

set_option maxRecDepth 100000 in
set_option maxHeartbeats 1000000 in
theorem fmtFloat_pos (f bb bits : Nat) (size verb prec : Int) (hp : Bool) (wid fprec : Int) (x0 : UInt8) (str : List UInt8) (B : Nat) (w : World) (hT : Tabs B w) (hBf : B ≤ f)
    (hv0 : 0 ≤ verb) (hv1 : verb < 256)
    (hF : FC w f bb false hp false false false false false wid fprec) (hR : Row w (.slice (some ⟨f, 12, none⟩) 1 68) [x0] f 12 68) (hB : w.cell? ⟨bb, 0, none⟩ = some (.slice none 0 0)) (hBz : w.frozen? ⟨bb, 0, none⟩ = false)
    (hA : AFspec bits size verb (if hp then fprec else prec) str) (d : UInt8) (ds : List UInt8) (hstr : str = d :: ds) (hd1 : 48 ≤ d.toNat) (hd2 : d.toNat < 58) (hlen : str.length ≤ 1000000) (hbb : bb < w.heap.size) (hbf : bb ≠ f) :
    Calls Tryd.prog 37 #[.pointer (some ⟨f, 0, none⟩), .float .f64 bits, .int .i64 size, .int .i32 verb, .int .i64 prec] w fun e w' =>
      e = .returned (.tuple #[]) ∧ BufIs w' w.heap.size bb str ∧ w.keptBut w' (fun p => p.block = bb ∨ p.block = f) := by
  have hA1 := hA B w f x0 hT hBf hR
  have h0 := hF.c0
  have h1 := hF.c1
  have h2 := hF.c2
  have h4 := hF.c4
  have h5 := hF.c5
  have h6 := hF.c6
  have h11 := hF.c11
  have hvb := byteOf_verb verb hv0 hv1
  have hdi : (48 : Int) ≤ d.toNat := by omega
  have hdj : (d.toNat : Int) < 58 := by omega
  have HS := Lib.hid hstr
  have hb1 : ((d.toNat : Int) == 45) = false := by simp; omega
  have hb2 : ((d.toNat : Int) == 43) = false := by simp; omega
  have hb3 : ((d.toNat : Int) == 73) = false := by simp; omega
  have hb4 : ((d.toNat : Int) == 78) = false := by simp; omega
  cases hp
  all_goals
    go_enter Tryd.func37, Tryd.ntmps37
    go_wp2_with fail
    refine hA1.mono ?_
    rintro e w1 ⟨v', g', o', c', rfl, hr1, hg1, hk1⟩
    have hl : ([x0] ++ str).length = ds.length + 2 := by rw [hstr]; simp
    have r0 : w1.cell? ⟨g', o', none⟩ = some (.int .u8 x0.toNat) := (hr1.get 0 (by omega)).trans (by simp [bc])
    have r1 : w1.cell? ⟨g', o' + 1, none⟩ = some (.int .u8 d.toNat) := (hr1.get 1 (by omega)).trans (by simp [bc, hstr])
    have z0 : w1.frozen? ⟨g', o', none⟩ = false := (hr1.there 0 (by have := hr1.le; omega)).2
    have hval := hr1.val
    rw [hl] at hval
    have hle := hr1.le
    rw [hl] at hle
    rw [hval]
    have HR := Lib.hid hr1
    have HV := Lib.hid hval
    have HL := Lib.hid hl
    clear hr1 hl hval hstr
    go_upto_if 46 with fail
    go_cut [10] (fun v wx => ∃ g o c, v = .slice (some ⟨g, o, none⟩) (str.length + 1) c ∧ Row wx v (43 :: str) g o c ∧ w.heap.size ≤ wx.heap.size ∧ w.keptBut wx (fun p => ∃ j, 12 ≤ j ∧ p = .cell f j) ∧ 0 < c ∧ (g = f ∧ 12 ≤ o ∨ w.heap.size ≤ g))
    case first =>
      go_wp2_with fail
      go_meet
      have hr2 := HR.out.set0 (y := 43)
      have hrr : Row (w1.setCell ⟨g', o', none⟩ (.int .u8 43)) v' (43 :: str) g' o' c' := hr2
      refine ⟨g', o', c', by rw [HS.out]; rfl, by rw [← HV.out]; exact hrr, ?_, ?_, by omega, ?_⟩
      · exact Nat.le_trans hk1.size (by simp [World.setCell])
      · refine keptBut_then (World.keptBut_mono (fun p ⟨j, _, _, e⟩ => ⟨12 + j, by omega, e⟩) hk1) (World.keptBut_setCell w1 ⟨g', o', none⟩ _ (may := fun p => p = .cell g' o') rfl) ?_
        rintro p rfl
        rcases hg1 with ⟨a, b, _⟩ | ⟨a, _, _⟩
        · exact Or.inl ⟨o', by omega, by rw [a]⟩
        · exact Or.inr a
      · rcases hg1 with ⟨a, b, _⟩ | ⟨a, _, _⟩
        · exact Or.inl ⟨a, by omega⟩
        · exact Or.inr a
    case rest =>
      obtain ⟨g, o, c, rfl, hr, hsz, hk, hc, hgf⟩ := hcut
      have hFc := hF.kept hk (fun o' ho' ⟨j, hj, e⟩ => by simp only [MemPlace.cell.injEq] at e; omega)
      have hsl : (1 : Int) ≤ str.length := by rw [HS.out, List.length_cons]; omega
      have hsl' : 1 ≤ str.length := by omega
      have e0 := hFc.c0
      have e1 := hFc.c1
      have e4 := hFc.c4
      have e5 := hFc.c5
      have e6 := hFc.c6
      have q0 : wc.cell? ⟨g, o, none⟩ = some (.int .u8 43) := (hr.get 0 (by simp)).trans (by simp [bc])
      have q1 : wc.cell? ⟨g, o + 1, none⟩ = some (.int .u8 d.toNat) := (hr.get 1 (by simp; omega)).trans (by rw [HS.out]; simp [bc])
      have hB' : BufIs wc w.heap.size bb [] := ⟨(keptBut_frozen hk hbb).trans hBz, Or.inl ⟨(hk.cell hbb (fun ⟨j, _, e⟩ => by simp only [MemPlace.cell.injEq] at e; exact hbf e.1)).trans hB, rfl⟩⟩
      have hsrc : Src Tryd.prog 1 62 (.slice (some ⟨g, o + 1, none⟩) str.length (c - 1)) str.length (bc str) wc := hr.tail.src 62 Tryd.underlying62
      have hcl : str.length + 1 ≤ c := by simpa using hr.le
      have hlen' : ([] : List UInt8).length + str.length ≤ 1000000 := by simpa using hlen
      have HK := Lib.hid hk
      clear hk1 hg1 r0 r1 z0 HR HV HL hle hA hA1 hk hr
      go_wp2_with (go_at_call 44; refine (pad_plain w.heap.size bb f [] str _ _ hbb hsz hB' e0 e1 hsrc hlen').mono ?_; rintro e w' ⟨rfl, hb', hk'⟩)
      go_end0
      exact ⟨rfl, by simpa using hb', keptBut_then (World.keptBut_mono (fun p ⟨j, _, e⟩ => Or.inr (by rw [e]; rfl)) HK.out) hk' (fun p hp => hp.imp Or.inl id)⟩
set_option maxRecDepth 100000 in
set_option maxHeartbeats 1000000 in
theorem fmtFloat_neg (f bb bits : Nat) (size verb prec : Int) (hp : Bool) (wid fprec : Int) (x0 : UInt8) (str : List UInt8) (B : Nat) (w : World) (hT : Tabs B w) (hBf : B ≤ f)
    (hv0 : 0 ≤ verb) (hv1 : verb < 256)
    (hF : FC w f bb false hp false false false false false wid fprec) (hR : Row w (.slice (some ⟨f, 12, none⟩) 1 68) [x0] f 12 68) (hB : w.cell? ⟨bb, 0, none⟩ = some (.slice none 0 0)) (hBz : w.frozen? ⟨bb, 0, none⟩ = false)
    (hA : AFspec bits size verb (if hp then fprec else prec) str) (d : UInt8) (ds : List UInt8) (hstr : str = 45 :: d :: ds) (hd1 : 48 ≤ d.toNat) (hd2 : d.toNat < 58) (hlen : str.length ≤ 1000000) (hbb : bb < w.heap.size) (hbf : bb ≠ f) :
    Calls Tryd.prog 37 #[.pointer (some ⟨f, 0, none⟩), .float .f64 bits, .int .i64 size, .int .i32 verb, .int .i64 prec] w fun e w' =>
      e = .returned (.tuple #[]) ∧ BufIs w' w.heap.size bb str ∧ w.keptBut w' (fun p => p.block = bb ∨ p.block = f) := by
  have hA1 := hA B w f x0 hT hBf hR
  have h0 := hF.c0
  have h1 := hF.c1
  have h2 := hF.c2
  have h4 := hF.c4
  have h5 := hF.c5
  have h6 := hF.c6
  have h11 := hF.c11
  have hvb := byteOf_verb verb hv0 hv1
  have hdi : (48 : Int) ≤ d.toNat := by omega
  have hdj : (d.toNat : Int) < 58 := by omega
  have HS := Lib.hid hstr
  have hb1 : ((d.toNat : Int) == 45) = false := by simp; omega
  have hb2 : ((d.toNat : Int) == 43) = false := by simp; omega
  have hb3 : ((d.toNat : Int) == 73) = false := by simp; omega
  have hb4 : ((d.toNat : Int) == 78) = false := by simp; omega
  cases hp
  all_goals
    go_enter Tryd.func37, Tryd.ntmps37
    go_wp2_with fail
    refine hA1.mono ?_
    rintro e w1 ⟨v', g', o', c', rfl, hr1, hg1, hk1⟩
    have hl : ([x0] ++ str).length = ds.length + 3 := by rw [hstr]; simp
    have r0 : w1.cell? ⟨g', o', none⟩ = some (.int .u8 x0.toNat) := (hr1.get 0 (by omega)).trans (by simp [bc])
    have r1 : w1.cell? ⟨g', o' + 1, none⟩ = some (.int .u8 45) := (hr1.get 1 (by omega)).trans (by simp [bc, hstr])
    have z0 : w1.frozen? ⟨g', o', none⟩ = false := (hr1.there 0 (by have := hr1.le; omega)).2
    have hval := hr1.val
    rw [hl] at hval
    have hle := hr1.le
    rw [hl] at hle
    rw [hval]
    have HR := Lib.hid hr1
    have HV := Lib.hid hval
    have HL := Lib.hid hl
    clear hr1 hl hval hstr
    go_upto_if 46 with fail
    go_cut [10] (fun v wx => ∃ g o c, v = .slice (some ⟨g, o, none⟩) str.length c ∧ Row wx v str g o c ∧ w.heap.size ≤ wx.heap.size ∧ w.keptBut wx (fun p => ∃ j, 12 ≤ j ∧ p = .cell f j))
    case first =>
      go_wp2_with fail
      go_meet
      have hrr : Row w1 (.slice (some ⟨g', o' + 1, none⟩) str.length (c' - 1)) str g' (o' + 1) (c' - 1) := HR.out.tail
      have hll : ds.length + 2 = str.length := by rw [HS.out]; simp
      rw [hll]
      exact ⟨g', o' + 1, c' - 1, rfl, hrr, hk1.size, World.keptBut_mono (fun p ⟨j, _, _, e⟩ => ⟨12 + j, by omega, e⟩) hk1⟩
    case rest =>
      obtain ⟨g, o, c, rfl, hr, hsz, hk⟩ := hcut
      have hFc := hF.kept hk (fun o' ho' ⟨j, hj, e⟩ => by simp only [MemPlace.cell.injEq] at e; omega)
      have hsl : (2 : Int) ≤ str.length := by rw [HS.out, List.length_cons, List.length_cons]; omega
      have hsl' : 2 ≤ str.length := by omega
      have e0 := hFc.c0
      have e1 := hFc.c1
      have e4 := hFc.c4
      have e5 := hFc.c5
      have e6 := hFc.c6
      have e7 := hFc.c7
      have e3 := hFc.c3
      have q0 : wc.cell? ⟨g, o, none⟩ = some (.int .u8 45) := (hr.get 0 (by omega)).trans (by simp [bc, HS.out])
      have q1 : wc.cell? ⟨g, o + 1, none⟩ = some (.int .u8 d.toNat) := (hr.get 1 (by omega)).trans (by rw [HS.out]; simp [bc])
      have hB' : BufIs wc w.heap.size bb [] := ⟨(keptBut_frozen hk hbb).trans hBz, Or.inl ⟨(hk.cell hbb (fun ⟨j, _, e⟩ => by simp only [MemPlace.cell.injEq] at e; exact hbf e.1)).trans hB, rfl⟩⟩
      have hsrc : Src Tryd.prog 1 62 (.slice (some ⟨g, o, none⟩) str.length c) str.length (bc str) wc := hr.src 62 Tryd.underlying62
      have hlen' : ([] : List UInt8).length + str.length ≤ 1000000 := by simpa using hlen
      have hcl : str.length ≤ c := hr.le
      have HK := Lib.hid hk
      clear hk1 hg1 r0 r1 z0 HR HV HL hle hA hA1 hk hr
      go_wp2_with (go_at_call 44; refine (pad_plain w.heap.size bb f [] str _ _ hbb hsz hB' e0 e1 hsrc hlen').mono ?_; rintro e w' ⟨rfl, hb', hk'⟩)
      refine bodyPost_ret (results_none rfl _ _ _) rfl ?_
      exact ⟨rfl, by simpa using hb', keptBut_then (World.keptBut_mono (fun p ⟨j, _, e⟩ => Or.inr (by rw [e]; rfl)) HK.out) hk' (fun p hp => hp.imp Or.inl id)⟩

/-- A text of a finite number: digits, perhaps behind a minus sign. -/
def NumText (str : List UInt8) : Prop := (∃ d ds, str = d :: ds ∧ 48 ≤ d.toNat ∧ d.toNat < 58) ∨ (∃ d ds, str = 45 :: d :: ds ∧ 48 ≤ d.toNat ∧ d.toNat < 58)

theorem cell_of_heap {w : World} {f : Nat} {cs : Array Value} {t : TypeId} {fr : Nat × Nat} (h : w.heap[f]? = some (.cells cs t fr)) (o : Nat) : w.cell? ⟨f, o, none⟩ = cs[o]? := by
  simp [World.cell?, h]
theorem free_of_heap {w : World} {f : Nat} {cs : Array Value} {t : TypeId} (h : w.heap[f]? = some (.cells cs t (0, 0))) (o : Nat) : w.frozen? ⟨f, o, none⟩ = false := by
  simp [World.frozen?, h]

theorem fc_of_heap {w : World} {f bb : Nat} {hw hp mi pl sh sp ze pv sv : Bool} {wid prec : Int} {ib : List Value} (h : w.heap[f]? = some (.cells (fmtCells ⟨bb, 0, none⟩ hw hp mi pl sh sp ze pv sv wid prec ib) 86 (0, 0))) :
    FC w f bb hw hp mi pl sh sp ze wid prec := by
  have hl : f < w.heap.size := (Array.getElem?_eq_some_iff.1 h).1
  refine ⟨hl, ?_, ?_, ?_, ?_, ?_, ?_, ?_, ?_, ?_, ?_⟩ <;> (rw [cell_of_heap h]; simp [fmtCells])

theorem row_of_heap {w : World} {f : Nat} {bp : Addr} {hw hp mi pl sh sp ze pv sv : Bool} {wid prec : Int} (h : w.heap[f]? = some (.cells (fmtCells bp hw hp mi pl sh sp ze pv sv wid prec (List.replicate 68 (.int .u8 0))) 86 (0, 0))) :
    Row w (.slice (some ⟨f, 12, none⟩) 1 68) [0] f 12 68 := by
  have hc : ∀ j, j < 68 → w.cell? ⟨f, 12 + j, none⟩ = some (.int .u8 0) := fun j hj => by
    rw [cell_of_heap h]
    unfold fmtCells
    rw [List.getElem?_toArray, List.getElem?_append_right (by simp), List.getElem?_eq_getElem (by simp; omega), List.getElem_replicate]
  refine ⟨rfl, by simp, by simp [maxLen], fun i hi => ?_, fun j hj => ⟨by rw [hc j hj]; rfl, free_of_heap h _⟩⟩
  have hi' : i = 0 := by simp at hi; omega
  subst hi'
  rw [hc 0 (by omega)]; rfl

theorem ext38 (n : Nat) (w : World) : Sem.run Tryd.prog (callFunc 38 #[.int .u64 (n : Int)]) w = .ok (.value (.float .f64 n)) w := by
  have h := run_callFunc_extern (P := Tryd.prog) (e := Extern.MathFloatBits.float64frombits) Tryd.func38 (by kernel_rfl) (by kernel_rfl) (by kernel_rfl) (by kernel_rfl) #[.int .u64 (n : Int)] w
  rw [h]
  rfl

theorem fmtFloat_any (f bb bits : Nat) (size verb prec : Int) (hp : Bool) (wid fprec : Int) (x0 : UInt8) (str : List UInt8) (B : Nat) (w : World) (hT : Tabs B w) (hBf : B ≤ f)
    (hv0 : 0 ≤ verb) (hv1 : verb < 256)
    (hF : FC w f bb false hp false false false false false wid fprec) (hR : Row w (.slice (some ⟨f, 12, none⟩) 1 68) [x0] f 12 68) (hB : w.cell? ⟨bb, 0, none⟩ = some (.slice none 0 0)) (hBz : w.frozen? ⟨bb, 0, none⟩ = false)
    (hA : AFspec bits size verb (if hp then fprec else prec) str) (hstr : NumText str) (hlen : str.length ≤ 1000000) (hbb : bb < w.heap.size) (hbf : bb ≠ f) :
    Calls Tryd.prog 37 #[.pointer (some ⟨f, 0, none⟩), .float .f64 bits, .int .i64 size, .int .i32 verb, .int .i64 prec] w fun e w' =>
      e = .returned (.tuple #[]) ∧ BufIs w' w.heap.size bb str ∧ w.keptBut w' (fun p => p.block = bb ∨ p.block = f) := by
  rcases hstr with ⟨d, ds, h1, h2, h3⟩ | ⟨d, ds, h1, h2, h3⟩
  · exact fmtFloat_pos f bb bits size verb prec hp wid fprec x0 str B w hT hBf hv0 hv1 hF hR hB hBz hA d ds h1 h2 h3 hlen hbb hbf
  · exact fmtFloat_neg f bb bits size verb prec hp wid fprec x0 str B w hT hBf hv0 hv1 hF hR hB hBz hA d ds h1 h2 h3 hlen hbb hbf

set_option maxRecDepth 100000 in
set_option maxHeartbeats 1000000 in
theorem zzFloat_plain (bits : Nat) (size verb prec : Int) (hp : Bool) (fprec : Int) (str : List UInt8) (B : Nat) (w : World) (hT : Tabs B w)
    (hv0 : 0 ≤ verb) (hv1 : verb < 256)
    (hA : AFspec bits size verb (if hp then fprec else prec) str) (hstr : NumText str) (hlen : str.length ≤ 1000000) :
    Calls Tryd.prog 26 #[.agg #[.int .i64 0, .int .i64 fprec, .bool false, .bool hp, .bool false, .bool false, .bool false, .bool false, .bool false, .bool false, .bool false], .int .u64 bits, .int .i64 size, .int .i32 verb, .int .i64 prec] w fun e w' =>
      e = .returned (.string ⟨str.toArray⟩) ∧ w.keptBut w' (fun _ => False) := by
  have hx := ext38 bits
  go_enter Tryd.func26, Tryd.ntmps26
  go_wp2_with fail
  refine (zzFmt_any _ _ _ _ _ _ _ _ _ _ _ _ _).mono ?_
  rintro e w1 ⟨rfl, hh1, hs1, hb1⟩
  have hk1 : w.keptBut w1 (fun _ => False) := World.keptBut_trans (World.keptBut_trans (World.keptBut_alloc _ _ _) (World.keptBut_alloc _ _ _)) (hb1.frame _)
  have hcb : w1.cell? ⟨w.heap.size + 1, 0, none⟩ = some (.slice none 0 0) := (hb1.cell (p := ⟨w.heap.size + 1, 0, none⟩) (by simp)).trans (by
    simp)
  have hfb : w1.frozen? ⟨w.heap.size + 1, 0, none⟩ = false := (hb1.frozen (p := ⟨w.heap.size + 1, 0, none⟩) (by simp)).trans (by
    simp)
  simp only [World.size_alloc] at hh1 hs1
  have hF := fc_of_heap hh1
  have hR := row_of_heap hh1
  have hT1 : Tabs B w1 := hT.kept hk1 (fun _ _ h => h)
  have hTle := hT.le
  have hcall := fmtFloat_any (w.heap.size + 1 + 1 + 1) (w.heap.size + 1) bits size verb prec hp 0 fprec 0 str B w1 hT1 (by omega) hv0 hv1 hF hR hcb hfb hA hstr hlen (by omega) (by omega)
  have HH := Lib.hid hs1
  have HHH := Lib.hid hh1
  clear hs1 hh1 hF hR hcb hfb
  go_wp2_with fail
  refine hcall.mono ?_
  rintro e w2 ⟨rfl, hB2, hk2⟩
  obtain ⟨hz2, ⟨_, hnil⟩ | ⟨g, c, bv, hc2, hr2, hg2, hcp⟩⟩ := hB2
  · exfalso
    rcases hstr with ⟨d, ds, h1, _⟩ | ⟨d, ds, h1, _⟩ <;> rw [h1] at hnil <;> cases hnil
  · rw [hr2.val] at hc2
    have hconv := run_convert_bytes_back (P := Tryd.prog) w2 74 9 5 ⟨g, 0, none⟩ c str Tryd.underlying74 Tryd.underlying5 Tryd.underlying9 (fun j hj => by
      rw [Addr.add_lit, hr2.get j hj, bc_get str j hj])
    have hkk : Still w w2 := keptBut_then hk1 hk2 (fun p hp => Or.inr (by rcases hp with e | e <;> omega))
    have HK := Lib.hid hkk
    clear hr2 hk2 hg2 hkk hk1 hstr hA hcall
    go_wp2_with fail
    go_ret
    exact ⟨rfl, HK.out⟩

set_option maxRecDepth 100000 in
set_option maxHeartbeats 1000000 in
theorem flags_any (wid prec : Int) (hw hp mi pl sh sp ze : Bool) (w : World) :
    Calls Tryd.prog 27 #[.agg #[.int .i64 wid, .int .i64 prec, .bool hw, .bool hp, .bool mi, .bool pl, .bool sh, .bool sp, .bool ze]] w fun e w' =>
      e = .returned (.agg #[.int .i64 wid, .int .i64 prec, .bool hw, .bool hp, .bool mi, .bool pl, .bool sh, .bool sp, .bool ze, .bool false, .bool false]) ∧ Still w w' := by
  go_enter Tryd.func27, Tryd.ntmps27
  go_wp2
  exact bodyPost_ret (v := .agg #[.int .i64 wid, .int .i64 prec, .bool hw, .bool hp, .bool mi, .bool pl, .bool sh, .bool sp, .bool ze, .bool false, .bool false]) (by simp [results, Tryd.results27, go_sem]) rfl ⟨rfl, ((Still.refl w).alloc _).alloc _⟩

/-- impl.Float where strconv's answer is known and nothing but a precision is asked for. -/
theorem implFloat_plain (bits : Nat) (size verb prec : Int) (hp : Bool) (fprec : Int) (str : List UInt8) (B : Nat) (w : World) (hT : Tabs B w)
    (hv0 : 0 ≤ verb) (hv1 : verb < 256)
    (hA : AFspec bits size verb (if hp then fprec else prec) str) (hstr : NumText str) (hlen : str.length ≤ 1000000) :
    Calls Tryd.prog 13 #[.agg #[.int .i64 0, .int .i64 fprec, .bool false, .bool hp, .bool false, .bool false, .bool false, .bool false, .bool false], .int .u64 bits, .int .i64 size, .int .u8 verb, .int .i64 prec] w fun e w' =>
      e = .returned (.string ⟨str.toArray⟩) ∧ Still w w' := by
  have hvb : IntKind.i32.wrap verb = verb := by rw [IntKind.wrap_i32]; omega
  go_enter Tryd.func13, Tryd.ntmps13
  go_wp2_with (go_at_call 27; refine (flags_any _ _ _ _ _ _ _ _ _ _).mono ?_; rintro e w1 ⟨rfl, hk1⟩)
  refine (zzFloat_plain bits size verb prec hp fprec str B _ (hk1.tabs ((Still.refl w).alloc _ |>.tabs hT)) hv0 hv1 hA hstr hlen).mono ?_
  rintro e w2 ⟨rfl, hk2⟩
  go_wp2_with fail
  go_ret
  exact ⟨rfl, ((Still.refl w).alloc _).trans (hk1.trans hk2)⟩

/-- What ftoa64 appends for these bits. -/
def F64 (bits : Nat) (verb prec : Int) (str : List UInt8) : Prop :=
  ∀ (B : Nat) (w : World) (g : Nat) (x0 : UInt8), Tabs B w → B ≤ g → Row w (.slice (some ⟨g, 12, none⟩) 1 68) [x0] g 12 68 →
    Calls Tryd.prog 52 #[.slice (some ⟨g, 12, none⟩) 1 68, .float .f64 bits, .int .u8 verb, .int .i64 prec] w (AppRes w g 12 68 [x0] str)
/-- What ftoa32 appends for these bits. -/
def F32 (bits : Nat) (verb prec : Int) (str : List UInt8) : Prop :=
  ∀ (B : Nat) (w : World) (g : Nat) (x0 : UInt8), Tabs B w → B ≤ g → Row w (.slice (some ⟨g, 12, none⟩) 1 68) [x0] g 12 68 →
    Calls Tryd.prog 51 #[.slice (some ⟨g, 12, none⟩) 1 68, .float .f32 bits, .int .u8 verb, .int .i64 prec] w (AppRes w g 12 68 [x0] str)

def AFi (bits : Nat) (size verb prec : Int) (str : List UInt8) : Prop :=
  ∀ (B : Nat) (w : World) (g : Nat) (x0 : UInt8), Tabs B w → B ≤ g → Row w (.slice (some ⟨g, 12, none⟩) 1 68) [x0] g 12 68 →
    Calls Tryd.prog 49 #[.slice (some ⟨g, 12, none⟩) 1 68, .float .f64 bits, .int .u8 verb, .int .i64 prec, .int .i64 size] w (AppRes w g 12 68 [x0] str)

theorem afi {bits : Nat} {size verb prec : Int} {str : List UInt8} (h : AFi bits size verb prec str) : AFspec bits size verb prec str := by
  intro B w g x0 hT hBg hR
  have h' := h B w g x0 hT hBg hR
  clear h
  go_enter Tryd.func43, Tryd.ntmps43
  go_wp2_with fail
  refine h'.mono ?_
  intro e w1 hres
  obtain ⟨a, n, k, rfl⟩ := hres.shape
  have HR := Lib.hid hres
  clear hres
  go_wp2_with fail
  go_ret
  exact HR.out

theorem af64 {bits : Nat} {verb prec : Int} {str : List UInt8} (h : F64 bits verb prec str) : AFspec bits 64 verb prec str := by
  refine afi fun B w g x0 hT hBg hR => ?_
  have h' := h B w g x0 hT hBg hR
  clear h
  go_enter Tryd.func49, Tryd.ntmps49
  go_wp2_with fail
  refine h'.mono ?_
  intro e w1 hres
  obtain ⟨a, n, k, rfl⟩ := hres.shape
  have HR := Lib.hid hres
  clear hres
  go_wp2_with fail
  go_ret
  exact HR.out

theorem af32 {bits b32 : Nat} {verb prec : Int} {str : List UInt8} (hcv : ∀ w, Sem.run Tryd.prog (convert 54 55 (.float .f64 bits)) w = .ok (.float .f32 b32) w) (h : F32 b32 verb prec str) : AFspec bits 32 verb prec str := by
  refine afi fun B w g x0 hT hBg hR => ?_
  have h' := h B w g x0 hT hBg hR
  have hc := hcv w
  clear h
  go_enter Tryd.func49, Tryd.ntmps49
  go_wp2_with fail
  refine h'.mono ?_
  intro e w1 hres
  obtain ⟨a, n, k, rfl⟩ := hres.shape
  have HR := Lib.hid hres
  clear hres
  go_wp2_with fail
  go_ret
  exact HR.out

end Go.Proofs.YthfjpofbaeeafaaDoor
