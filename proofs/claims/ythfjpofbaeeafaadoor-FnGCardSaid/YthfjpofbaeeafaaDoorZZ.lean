/-
  ZZFloat and impl.Float: the text of a float, where strconv's answer is known.
-/
import Derived.Test.YthfjpofbaeeafaaDoorFmtF
import Derived.Laws.FloatBits
import Derived.Laws.IdiomStrings
namespace Go.Proofs.YthfjpofbaeeafaaDoor
open Go.RowKit

/-- A text of a finite number: digits, perhaps behind a minus sign. -/
def NumText (str : List UInt8) : Prop := (∃ d ds, str = d :: ds ∧ 48 ≤ d.toNat ∧ d.toNat < 58) ∨ (∃ d ds, str = 45 :: d :: ds ∧ 48 ≤ d.toNat ∧ d.toNat < 58)

theorem cell_of_heap {w : World} {f : Nat} {cs : Array Value} {t : TypeId} {fr : Nat × Nat} (h : w.heap[f]? = some (.cells cs t fr)) (o : Nat) : w.cell? ⟨f, o, none⟩ = cs[o]? := by
  simp [World.cell?, h]
theorem free_of_heap {w : World} {f : Nat} {cs : Array Value} {t : TypeId} (h : w.heap[f]? = some (.cells cs t (0, 0))) (o : Nat) : w.frozen? ⟨f, o, none⟩ = false := by
  simp [World.frozen?, h]

theorem fc_of_heap {w : World} {f bb : Nat} {hw hp mi pl sh sp ze pv sv : Bool} {wid prec : Int} {ib : List Value} (h : w.heap[f]? = some (.cells (fmtCells ⟨bb, 0, none⟩ hw hp mi pl sh sp ze pv sv wid prec ib) 86 (0, 0))) :
    FC w f bb hw hp mi pl sh sp ze wid prec := by
  have hl : f < w.heap.size := (Array.getElem?_eq_some_iff.1 h).1
  refine ⟨hl, ?_, ?_, ?_, ?_, ?_, ?_, ?_, ?_, ?_, ?_⟩ <;> (rw [cell_of_heap h]; simp [fmtCells])

theorem row_of_heap {w : World} {f : Nat} {bp : Addr} {hw hp mi pl sh sp ze pv sv : Bool} {wid prec : Int} (h : w.heap[f]? = some (.cells (fmtCells bp hw hp mi pl sh sp ze pv sv wid prec (List.replicate 68 (.int .u8 0))) 86 (0, 0))) :
    Row w (.slice (some ⟨f, 12, none⟩) 1 68) [0] f 12 68 := by
  have hc : ∀ j, j < 68 → w.cell? ⟨f, 12 + j, none⟩ = some (.int .u8 0) := fun j hj => by
    rw [cell_of_heap h]
    unfold fmtCells
    rw [List.getElem?_toArray, List.getElem?_append_right (by simp), List.getElem?_eq_getElem (by simp; omega), List.getElem_replicate]
  refine ⟨rfl, by simp, by simp [maxLen], fun i hi => ?_, fun j hj => ⟨by rw [hc j hj]; rfl, free_of_heap h _⟩⟩
  have hi' : i = 0 := by simp at hi; omega
  subst hi'
  rw [hc 0 (by omega)]; rfl

theorem ext38 (n : Nat) (w : World) : Sem.run Tryd.prog (callFunc 38 #[.int .u64 (n : Int)]) w = .ok (.value (.float .f64 n)) w := by
  have h := run_callFunc_extern (P := Tryd.prog) (e := Extern.MathFloatBits.float64frombits) Tryd.func38 (by kernel_rfl) (by kernel_rfl) (by kernel_rfl) (by kernel_rfl) #[.int .u64 (n : Int)] w
  rw [h]
  rfl

theorem fmtFloat_any (f bb bits : Nat) (size verb prec : Int) (hp : Bool) (wid fprec : Int) (x0 : UInt8) (str : List UInt8) (B : Nat) (w : World) (hT : Tabs B w) (hBf : B ≤ f)
    (hv0 : 0 ≤ verb) (hv1 : verb < 256)
    (hF : FC w f bb false hp false false false false false wid fprec) (hR : Row w (.slice (some ⟨f, 12, none⟩) 1 68) [x0] f 12 68) (hB : w.cell? ⟨bb, 0, none⟩ = some (.slice none 0 0)) (hBz : w.frozen? ⟨bb, 0, none⟩ = false)
    (hA : AFspec bits size verb (if hp then fprec else prec) str) (hstr : NumText str) (hlen : str.length ≤ 1000000) (hbb : bb < w.heap.size) (hbf : bb ≠ f) :
    Calls Tryd.prog 37 #[.pointer (some ⟨f, 0, none⟩), .float .f64 bits, .int .i64 size, .int .i32 verb, .int .i64 prec] w fun e w' =>
      e = .returned (.tuple #[]) ∧ BufIs w' w.heap.size bb str ∧ w.keptBut w' (fun p => p.block = bb ∨ p.block = f) := by
  rcases hstr with ⟨d, ds, h1, h2, h3⟩ | ⟨d, ds, h1, h2, h3⟩
  · exact fmtFloat_pos f bb bits size verb prec hp wid fprec x0 str B w hT hBf hv0 hv1 hF hR hB hBz hA d ds h1 h2 h3 hlen hbb hbf
  · exact fmtFloat_neg f bb bits size verb prec hp wid fprec x0 str B w hT hBf hv0 hv1 hF hR hB hBz hA d ds h1 h2 h3 hlen hbb hbf

set_option maxRecDepth 100000 in
set_option maxHeartbeats 1000000 in
theorem zzFloat_plain (bits : Nat) (size verb prec : Int) (hp : Bool) (fprec : Int) (str : List UInt8) (B : Nat) (w : World) (hT : Tabs B w)
    (hv0 : 0 ≤ verb) (hv1 : verb < 256)
    (hA : AFspec bits size verb (if hp then fprec else prec) str) (hstr : NumText str) (hlen : str.length ≤ 1000000) :
    Calls Tryd.prog 26 #[.agg #[.int .i64 0, .int .i64 fprec, .bool false, .bool hp, .bool false, .bool false, .bool false, .bool false, .bool false, .bool false, .bool false], .int .u64 bits, .int .i64 size, .int .i32 verb, .int .i64 prec] w fun e w' =>
      e = .returned (.string ⟨str.toArray⟩) ∧ w.keptBut w' (fun _ => False) := by
  have hx := ext38 bits
  go_enter Tryd.func26, Tryd.ntmps26
  go_wp2_with fail
  refine (zzFmt_any _ _ _ _ _ _ _ _ _ _ _ _ _).mono ?_
  rintro e w1 ⟨rfl, hh1, hs1, hb1⟩
  have hk1 : w.keptBut w1 (fun _ => False) := World.keptBut_trans (World.keptBut_trans (World.keptBut_alloc _ _ _) (World.keptBut_alloc _ _ _)) (hb1.frame _)
  have hcb : w1.cell? ⟨w.heap.size + 1, 0, none⟩ = some (.slice none 0 0) := (hb1.cell (p := ⟨w.heap.size + 1, 0, none⟩) (by simp)).trans (by
    simp)
  have hfb : w1.frozen? ⟨w.heap.size + 1, 0, none⟩ = false := (hb1.frozen (p := ⟨w.heap.size + 1, 0, none⟩) (by simp)).trans (by
    simp)
  simp only [World.size_alloc] at hh1 hs1
  have hF := fc_of_heap hh1
  have hR := row_of_heap hh1
  have hT1 : Tabs B w1 := hT.kept hk1 (fun _ _ h => h)
  have hTle := hT.le
  have hcall := fmtFloat_any (w.heap.size + 1 + 1 + 1) (w.heap.size + 1) bits size verb prec hp 0 fprec 0 str B w1 hT1 (by omega) hv0 hv1 hF hR hcb hfb hA hstr hlen (by omega) (by omega)
  have HH := Lib.hid hs1
  have HHH := Lib.hid hh1
  clear hs1 hh1 hF hR hcb hfb
  go_wp2_with fail
  refine hcall.mono ?_
  rintro e w2 ⟨rfl, hB2, hk2⟩
  obtain ⟨hz2, ⟨_, hnil⟩ | ⟨g, c, bv, hc2, hr2, hg2, hcp⟩⟩ := hB2
  · exfalso
    rcases hstr with ⟨d, ds, h1, _⟩ | ⟨d, ds, h1, _⟩ <;> rw [h1] at hnil <;> cases hnil
  · rw [hr2.val] at hc2
    have hconv := run_convert_bytes_back (P := Tryd.prog) w2 74 9 5 ⟨g, 0, none⟩ c str Tryd.underlying74 Tryd.underlying5 Tryd.underlying9 (fun j hj => by
      rw [Addr.add_lit, hr2.get j hj, bc_get str j hj])
    have hkk : Still w w2 := keptBut_then hk1 hk2 (fun p hp => Or.inr (by rcases hp with e | e <;> omega))
    have HK := Lib.hid hkk
    clear hr2 hk2 hg2 hkk hk1 hstr hA hcall
    go_wp2_with fail
    go_ret
    exact ⟨rfl, HK.out⟩

set_option maxRecDepth 100000 in
set_option maxHeartbeats 1000000 in
theorem flags_any (wid prec : Int) (hw hp mi pl sh sp ze : Bool) (w : World) :
    Calls Tryd.prog 27 #[.agg #[.int .i64 wid, .int .i64 prec, .bool hw, .bool hp, .bool mi, .bool pl, .bool sh, .bool sp, .bool ze]] w fun e w' =>
      e = .returned (.agg #[.int .i64 wid, .int .i64 prec, .bool hw, .bool hp, .bool mi, .bool pl, .bool sh, .bool sp, .bool ze, .bool false, .bool false]) ∧ Still w w' := by
  go_enter Tryd.func27, Tryd.ntmps27
  go_wp2
  exact bodyPost_ret (v := .agg #[.int .i64 wid, .int .i64 prec, .bool hw, .bool hp, .bool mi, .bool pl, .bool sh, .bool sp, .bool ze, .bool false, .bool false]) (by simp [results, Tryd.results27, go_sem]) rfl ⟨rfl, ((Still.refl w).alloc _).alloc _⟩

/-- impl.Float where strconv's answer is known and nothing but a precision is asked for. -/
theorem implFloat_plain (bits : Nat) (size verb prec : Int) (hp : Bool) (fprec : Int) (str : List UInt8) (B : Nat) (w : World) (hT : Tabs B w)
    (hv0 : 0 ≤ verb) (hv1 : verb < 256)
    (hA : AFspec bits size verb (if hp then fprec else prec) str) (hstr : NumText str) (hlen : str.length ≤ 1000000) :
    Calls Tryd.prog 13 #[.agg #[.int .i64 0, .int .i64 fprec, .bool false, .bool hp, .bool false, .bool false, .bool false, .bool false, .bool false], .int .u64 bits, .int .i64 size, .int .u8 verb, .int .i64 prec] w fun e w' =>
      e = .returned (.string ⟨str.toArray⟩) ∧ Still w w' := by
  have hvb : IntKind.i32.wrap verb = verb := by rw [IntKind.wrap_i32]; omega
  go_enter Tryd.func13, Tryd.ntmps13
  go_wp2_with (go_at_call 27; refine (flags_any _ _ _ _ _ _ _ _ _ _).mono ?_; rintro e w1 ⟨rfl, hk1⟩)
  refine (zzFloat_plain bits size verb prec hp fprec str B _ (hk1.tabs ((Still.refl w).alloc _ |>.tabs hT)) hv0 hv1 hA hstr hlen).mono ?_
  rintro e w2 ⟨rfl, hk2⟩
  go_wp2_with fail
  go_ret
  exact ⟨rfl, ((Still.refl w).alloc _).trans (hk1.trans hk2)⟩
end Go.Proofs.YthfjpofbaeeafaaDoor
