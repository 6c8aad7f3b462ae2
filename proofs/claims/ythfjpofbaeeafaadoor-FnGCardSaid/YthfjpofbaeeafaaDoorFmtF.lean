/-
  (*fmt).fmtFloat without the flags # + space and without a width, for a number whose text is known.
-/
import Derived.Test.YthfjpofbaeeafaaDoorBuf
import Derived.Test.YthfjpofbaeeafaaDoorFmtNew
import Derived.Test.YthfjpofbaeeafaaDoorInts
import Derived.Deep.DeepCutAuto
namespace Go.Proofs.YthfjpofbaeeafaaDoor
open Go.RowKit

/-- What a number's text is: strconv.AppendFloat's answer behind one byte. -/
def AFspec (bits : Nat) (size verb prec : Int) (str : List UInt8) : Prop :=
  ∀ (B : Nat) (w : World) (g : Nat) (x0 : UInt8), Tabs B w → B ≤ g → Row w (.slice (some ⟨g, 12, none⟩) 1 68) [x0] g 12 68 →
    Calls Tryd.prog 43 #[.slice (some ⟨g, 12, none⟩) 1 68, .float .f64 bits, .int .u8 verb, .int .i64 prec, .int .i64 size] w (AppRes w g 12 68 [x0] str)

/-- A formatter's fields. -/
structure FC (w : World) (f bb : Nat) (hw hp mi pl sh sp ze : Bool) (wid prec : Int) : Prop where
  lt : f < w.heap.size
  c0 : w.cell? ⟨f, 0, none⟩ = some (.pointer (some ⟨bb, 0, none⟩))
  c1 : w.cell? ⟨f, 1, none⟩ = some (.bool hw)
  c2 : w.cell? ⟨f, 2, none⟩ = some (.bool hp)
  c3 : w.cell? ⟨f, 3, none⟩ = some (.bool mi)
  c4 : w.cell? ⟨f, 4, none⟩ = some (.bool pl)
  c5 : w.cell? ⟨f, 5, none⟩ = some (.bool sh)
  c6 : w.cell? ⟨f, 6, none⟩ = some (.bool sp)
  c7 : w.cell? ⟨f, 7, none⟩ = some (.bool ze)
  c10 : w.cell? ⟨f, 10, none⟩ = some (.int .i64 wid)
  c11 : w.cell? ⟨f, 11, none⟩ = some (.int .i64 prec)

theorem FC.kept {w w' : World} {f bb : Nat} {hw hp mi pl sh sp ze : Bool} {wid prec : Int} (h : FC w f bb hw hp mi pl sh sp ze wid prec) {may : MemPlace → Prop} (hk : w.keptBut w' may) (hn : ∀ o, o < 12 → ¬ may (.cell f o)) :
    FC w' f bb hw hp mi pl sh sp ze wid prec :=
  have hh : ∀ o, o < 12 → w'.cell? ⟨f, o, none⟩ = w.cell? ⟨f, o, none⟩ := fun o ho => hk.cell h.lt (hn o ho)
  ⟨Nat.lt_of_lt_of_le h.lt hk.size, (hh 0 (by omega)).trans h.c0, (hh 1 (by omega)).trans h.c1, (hh 2 (by omega)).trans h.c2, (hh 3 (by omega)).trans h.c3, (hh 4 (by omega)).trans h.c4, (hh 5 (by omega)).trans h.c5, (hh 6 (by omega)).trans h.c6,
    (hh 7 (by omega)).trans h.c7, (hh 10 (by omega)).trans h.c10, (hh 11 (by omega)).trans h.c11⟩

theorem byteOf_verb (v : Int) (h0 : 0 ≤ v) (h1 : v < 256) : IntKind.u8.wrap v = v := by
  rw [IntKind.wrap_u8]; omega

/-- The first byte of a row is written. -/
theorem Row.set0 {w : World} {v : Value} {x y : UInt8} {xs : List UInt8} {g o c : Nat} (h : Row w v (x :: xs) g o c) : Row (w.setCell ⟨g, o, none⟩ (.int .u8 (y.toNat : Int))) v (y :: xs) g o c := by
  have hx : w.cell? ⟨g, o, none⟩ = some (.int .u8 (x.toNat : Int)) := (h.get 0 (by simp)).trans (by simp [bc])
  refine ⟨h.val, h.le, h.max, fun i hi => ?_, fun j hj => ?_⟩
  · cases i with
    | zero => rw [Nat.add_zero, cell_same hx]; simp [bc]
    | succ i =>
      rw [cell_other (by intro e; have := congrArg Addr.off e; simp at this), h.get (i + 1) hi]
      simp [bc]
  · refine ⟨?_, by rw [World.frozen?_setCell]; exact (h.there j hj).2⟩
    cases j with
    | zero => rw [Nat.add_zero, cell_same hx]; rfl
    | succ j => rw [cell_other (by intro e; have := congrArg Addr.off e; simp at this)]; exact (h.there (j + 1) hj).1

set_option maxRecDepth 100000 in
set_option maxHeartbeats 1000000 in
theorem fmtFloat_pos (f bb bits : Nat) (size verb prec : Int) (hp : Bool) (wid fprec : Int) (x0 : UInt8) (str : List UInt8) (B : Nat) (w : World) (hT : Tabs B w) (hBf : B ≤ f)
    (hv0 : 0 ≤ verb) (hv1 : verb < 256)
    (hF : FC w f bb false hp false false false false false wid fprec) (hR : Row w (.slice (some ⟨f, 12, none⟩) 1 68) [x0] f 12 68) (hB : w.cell? ⟨bb, 0, none⟩ = some (.slice none 0 0)) (hBz : w.frozen? ⟨bb, 0, none⟩ = false)
    (hA : AFspec bits size verb (if hp then fprec else prec) str) (d : UInt8) (ds : List UInt8) (hstr : str = d :: ds) (hd1 : 48 ≤ d.toNat) (hd2 : d.toNat < 58) (hlen : str.length ≤ 1000000) (hbb : bb < w.heap.size) (hbf : bb ≠ f) :
    Calls Tryd.prog 37 #[.pointer (some ⟨f, 0, none⟩), .float .f64 bits, .int .i64 size, .int .i32 verb, .int .i64 prec] w fun e w' =>
      e = .returned (.tuple #[]) ∧ BufIs w' w.heap.size bb str ∧ w.keptBut w' (fun p => p.block = bb ∨ p.block = f) := by
  have hA1 := hA B w f x0 hT hBf hR
  have h0 := hF.c0
  have h1 := hF.c1
  have h2 := hF.c2
  have h4 := hF.c4
  have h5 := hF.c5
  have h6 := hF.c6
  have h11 := hF.c11
  have hvb := byteOf_verb verb hv0 hv1
  have hdi : (48 : Int) ≤ d.toNat := by omega
  have hdj : (d.toNat : Int) < 58 := by omega
  have HS := Lib.hid hstr
  have hb1 : ((d.toNat : Int) == 45) = false := by simp; omega
  have hb2 : ((d.toNat : Int) == 43) = false := by simp; omega
  have hb3 : ((d.toNat : Int) == 73) = false := by simp; omega
  have hb4 : ((d.toNat : Int) == 78) = false := by simp; omega
  cases hp
  all_goals
    go_enter Tryd.func37, Tryd.ntmps37
    go_wp2_with fail
    refine hA1.mono ?_
    rintro e w1 ⟨v', g', o', c', rfl, hr1, hg1, hk1⟩
    have hl : ([x0] ++ str).length = ds.length + 2 := by rw [hstr]; simp
    have r0 : w1.cell? ⟨g', o', none⟩ = some (.int .u8 x0.toNat) := (hr1.get 0 (by omega)).trans (by simp [bc])
    have r1 : w1.cell? ⟨g', o' + 1, none⟩ = some (.int .u8 d.toNat) := (hr1.get 1 (by omega)).trans (by simp [bc, hstr])
    have z0 : w1.frozen? ⟨g', o', none⟩ = false := (hr1.there 0 (by have := hr1.le; omega)).2
    have hval := hr1.val
    rw [hl] at hval
    have hle := hr1.le
    rw [hl] at hle
    rw [hval]
    have HR := Lib.hid hr1
    have HV := Lib.hid hval
    have HL := Lib.hid hl
    clear hr1 hl hval hstr
    go_upto_if 46 with fail
    go_cut [10] (fun v wx => ∃ g o c, v = .slice (some ⟨g, o, none⟩) (str.length + 1) c ∧ Row wx v (43 :: str) g o c ∧ w.heap.size ≤ wx.heap.size ∧ w.keptBut wx (fun p => ∃ j, 12 ≤ j ∧ p = .cell f j) ∧ 0 < c ∧ (g = f ∧ 12 ≤ o ∨ w.heap.size ≤ g))
    case first =>
      go_wp2_with fail
      go_meet
      have hr2 := HR.out.set0 (y := 43)
      have hrr : Row (w1.setCell ⟨g', o', none⟩ (.int .u8 43)) v' (43 :: str) g' o' c' := hr2
      refine ⟨g', o', c', by rw [HS.out]; rfl, by rw [← HV.out]; exact hrr, ?_, ?_, by omega, ?_⟩
      · exact Nat.le_trans hk1.size (by simp [World.setCell])
      · refine keptBut_then (World.keptBut_mono (fun p ⟨j, _, _, e⟩ => ⟨12 + j, by omega, e⟩) hk1) (World.keptBut_setCell w1 ⟨g', o', none⟩ _ (may := fun p => p = .cell g' o') rfl) ?_
        rintro p rfl
        rcases hg1 with ⟨a, b, _⟩ | ⟨a, _, _⟩
        · exact Or.inl ⟨o', by omega, by rw [a]⟩
        · exact Or.inr a
      · rcases hg1 with ⟨a, b, _⟩ | ⟨a, _, _⟩
        · exact Or.inl ⟨a, by omega⟩
        · exact Or.inr a
    case rest =>
      obtain ⟨g, o, c, rfl, hr, hsz, hk, hc, hgf⟩ := hcut
      have hFc := hF.kept hk (fun o' ho' ⟨j, hj, e⟩ => by simp only [MemPlace.cell.injEq] at e; omega)
      have hsl : (1 : Int) ≤ str.length := by rw [HS.out, List.length_cons]; omega
      have hsl' : 1 ≤ str.length := by omega
      have e0 := hFc.c0
      have e1 := hFc.c1
      have e4 := hFc.c4
      have e5 := hFc.c5
      have e6 := hFc.c6
      have q0 : wc.cell? ⟨g, o, none⟩ = some (.int .u8 43) := (hr.get 0 (by simp)).trans (by simp [bc])
      have q1 : wc.cell? ⟨g, o + 1, none⟩ = some (.int .u8 d.toNat) := (hr.get 1 (by simp; omega)).trans (by rw [HS.out]; simp [bc])
      have hB' : BufIs wc w.heap.size bb [] := ⟨(keptBut_frozen hk hbb).trans hBz, Or.inl ⟨(hk.cell hbb (fun ⟨j, _, e⟩ => by simp only [MemPlace.cell.injEq] at e; exact hbf e.1)).trans hB, rfl⟩⟩
      have hsrc : Src Tryd.prog 1 62 (.slice (some ⟨g, o + 1, none⟩) str.length (c - 1)) str.length (bc str) wc := hr.tail.src 62 Tryd.underlying62
      have hcl : str.length + 1 ≤ c := by simpa using hr.le
      have hlen' : ([] : List UInt8).length + str.length ≤ 1000000 := by simpa using hlen
      have HK := Lib.hid hk
      clear hk1 hg1 r0 r1 z0 HR HV HL hle hA hA1 hk hr
      go_wp2_with (go_at_call 44; refine (pad_plain w.heap.size bb f [] str _ _ hbb hsz hB' e0 e1 hsrc hlen').mono ?_; rintro e w' ⟨rfl, hb', hk'⟩)
      go_end0
      exact ⟨rfl, by simpa using hb', keptBut_then (World.keptBut_mono (fun p ⟨j, _, e⟩ => Or.inr (by rw [e]; rfl)) HK.out) hk' (fun p hp => hp.imp Or.inl id)⟩
set_option maxRecDepth 100000 in
set_option maxHeartbeats 1000000 in
theorem fmtFloat_neg (f bb bits : Nat) (size verb prec : Int) (hp : Bool) (wid fprec : Int) (x0 : UInt8) (str : List UInt8) (B : Nat) (w : World) (hT : Tabs B w) (hBf : B ≤ f)
    (hv0 : 0 ≤ verb) (hv1 : verb < 256)
    (hF : FC w f bb false hp false false false false false wid fprec) (hR : Row w (.slice (some ⟨f, 12, none⟩) 1 68) [x0] f 12 68) (hB : w.cell? ⟨bb, 0, none⟩ = some (.slice none 0 0)) (hBz : w.frozen? ⟨bb, 0, none⟩ = false)
    (hA : AFspec bits size verb (if hp then fprec else prec) str) (d : UInt8) (ds : List UInt8) (hstr : str = 45 :: d :: ds) (hd1 : 48 ≤ d.toNat) (hd2 : d.toNat < 58) (hlen : str.length ≤ 1000000) (hbb : bb < w.heap.size) (hbf : bb ≠ f) :
    Calls Tryd.prog 37 #[.pointer (some ⟨f, 0, none⟩), .float .f64 bits, .int .i64 size, .int .i32 verb, .int .i64 prec] w fun e w' =>
      e = .returned (.tuple #[]) ∧ BufIs w' w.heap.size bb str ∧ w.keptBut w' (fun p => p.block = bb ∨ p.block = f) := by
  have hA1 := hA B w f x0 hT hBf hR
  have h0 := hF.c0
  have h1 := hF.c1
  have h2 := hF.c2
  have h4 := hF.c4
  have h5 := hF.c5
  have h6 := hF.c6
  have h11 := hF.c11
  have hvb := byteOf_verb verb hv0 hv1
  have hdi : (48 : Int) ≤ d.toNat := by omega
  have hdj : (d.toNat : Int) < 58 := by omega
  have HS := Lib.hid hstr
  have hb1 : ((d.toNat : Int) == 45) = false := by simp; omega
  have hb2 : ((d.toNat : Int) == 43) = false := by simp; omega
  have hb3 : ((d.toNat : Int) == 73) = false := by simp; omega
  have hb4 : ((d.toNat : Int) == 78) = false := by simp; omega
  cases hp
  all_goals
    go_enter Tryd.func37, Tryd.ntmps37
    go_wp2_with fail
    refine hA1.mono ?_
    rintro e w1 ⟨v', g', o', c', rfl, hr1, hg1, hk1⟩
    have hl : ([x0] ++ str).length = ds.length + 3 := by rw [hstr]; simp
    have r0 : w1.cell? ⟨g', o', none⟩ = some (.int .u8 x0.toNat) := (hr1.get 0 (by omega)).trans (by simp [bc])
    have r1 : w1.cell? ⟨g', o' + 1, none⟩ = some (.int .u8 45) := (hr1.get 1 (by omega)).trans (by simp [bc, hstr])
    have z0 : w1.frozen? ⟨g', o', none⟩ = false := (hr1.there 0 (by have := hr1.le; omega)).2
    have hval := hr1.val
    rw [hl] at hval
    have hle := hr1.le
    rw [hl] at hle
    rw [hval]
    have HR := Lib.hid hr1
    have HV := Lib.hid hval
    have HL := Lib.hid hl
    clear hr1 hl hval hstr
    go_upto_if 46 with fail
    go_cut [10] (fun v wx => ∃ g o c, v = .slice (some ⟨g, o, none⟩) str.length c ∧ Row wx v str g o c ∧ w.heap.size ≤ wx.heap.size ∧ w.keptBut wx (fun p => ∃ j, 12 ≤ j ∧ p = .cell f j))
    case first =>
      go_wp2_with fail
      go_meet
      have hrr : Row w1 (.slice (some ⟨g', o' + 1, none⟩) str.length (c' - 1)) str g' (o' + 1) (c' - 1) := HR.out.tail
      have hll : ds.length + 2 = str.length := by rw [HS.out]; simp
      rw [hll]
      exact ⟨g', o' + 1, c' - 1, rfl, hrr, hk1.size, World.keptBut_mono (fun p ⟨j, _, _, e⟩ => ⟨12 + j, by omega, e⟩) hk1⟩
    case rest =>
      obtain ⟨g, o, c, rfl, hr, hsz, hk⟩ := hcut
      have hFc := hF.kept hk (fun o' ho' ⟨j, hj, e⟩ => by simp only [MemPlace.cell.injEq] at e; omega)
      have hsl : (2 : Int) ≤ str.length := by rw [HS.out, List.length_cons, List.length_cons]; omega
      have hsl' : 2 ≤ str.length := by omega
      have e0 := hFc.c0
      have e1 := hFc.c1
      have e4 := hFc.c4
      have e5 := hFc.c5
      have e6 := hFc.c6
      have e7 := hFc.c7
      have e3 := hFc.c3
      have q0 : wc.cell? ⟨g, o, none⟩ = some (.int .u8 45) := (hr.get 0 (by omega)).trans (by simp [bc, HS.out])
      have q1 : wc.cell? ⟨g, o + 1, none⟩ = some (.int .u8 d.toNat) := (hr.get 1 (by omega)).trans (by rw [HS.out]; simp [bc])
      have hB' : BufIs wc w.heap.size bb [] := ⟨(keptBut_frozen hk hbb).trans hBz, Or.inl ⟨(hk.cell hbb (fun ⟨j, _, e⟩ => by simp only [MemPlace.cell.injEq] at e; exact hbf e.1)).trans hB, rfl⟩⟩
      have hsrc : Src Tryd.prog 1 62 (.slice (some ⟨g, o, none⟩) str.length c) str.length (bc str) wc := hr.src 62 Tryd.underlying62
      have hlen' : ([] : List UInt8).length + str.length ≤ 1000000 := by simpa using hlen
      have hcl : str.length ≤ c := hr.le
      have HK := Lib.hid hk
      clear hk1 hg1 r0 r1 z0 HR HV HL hle hA hA1 hk hr
      go_wp2_with (go_at_call 44; refine (pad_plain w.heap.size bb f [] str _ _ hbb hsz hB' e0 e1 hsrc hlen').mono ?_; rintro e w' ⟨rfl, hb', hk'⟩)
      refine bodyPost_ret (results_none rfl _ _ _) rfl ?_
      exact ⟨rfl, by simpa using hb', keptBut_then (World.keptBut_mono (fun p ⟨j, _, e⟩ => Or.inr (by rw [e]; rfl)) HK.out) hk' (fun p hp => hp.imp Or.inl id)⟩
end Go.Proofs.YthfjpofbaeeafaaDoor
