/-
  fmtEFG: what it writes, and the small facts that its walk asks for.
-/
import Derived.Test.YthfjpofbaeeafaaDoorFXL
namespace Go.Proofs.YthfjpofbaeeafaaDoor
open Go.RowKit

theorem imax_int (k k' : IntKind) (x y : Int) : Builtin.max2 (.int k x) (.int k' y) = pure (.int k (if x < y then y else x)) := by simp only [Builtin.max2, gt_iff_lt]
theorem imin_int (k k' : IntKind) (x y : Int) : Builtin.min2 (.int k x) (.int k' y) = pure (.int k (if y < x then y else x)) := by simp only [Builtin.min2]
theorem imax_two (ats : Array TypeId) (ty : TypeId) (a b : Value) : Builtin.max_ ats ty #[a, b] = (Builtin.max2 a b >>= fun s => pure s) := by simp only [Builtin.max_, List.foldlM_cons, List.foldlM_nil]
theorem imin_two (ats : Array TypeId) (ty : TypeId) (a b : Value) : Builtin.min_ ats ty #[a, b] = (Builtin.min2 a b >>= fun s => pure s) := by simp only [Builtin.min_, List.foldlM_cons, List.foldlM_nil]

/-- The first n of a list, filled up with noughts. -/
def fill (n : Nat) (l : List UInt8) : List UInt8 := l.take n ++ List.replicate (n - l.length) 48
/-- A sign and an exponent of two digits or three. -/
def expE (e : Int) : List UInt8 :=
  (if e < 0 then 45 else 43) :: (if e.natAbs < 10 then [48, dch e.natAbs] else if e.natAbs < 100 then [dch (e.natAbs / 10), dch (e.natAbs % 10)] else [dch (e.natAbs / 100), dch (e.natAbs / 10 % 10), dch (e.natAbs % 10)])
/-- What stands behind the point. -/
def fracE (prec : Nat) (l : List UInt8) : List UInt8 := if prec = 0 then [] else 46 :: fill prec l
/-- For the verbs e, E. -/
def eText (neg : Bool) (verb : UInt8) (ds : List UInt8) (dp : Int) (prec : Nat) : List UInt8 :=
  sgn neg ++ [ds.headD 48] ++ fracE prec (ds.drop 1) ++ [verb] ++ expE (if ds.length = 0 then 0 else dp - 1)
/-- For the verb f. -/
def fText (neg : Bool) (ds : List UInt8) (dp : Int) (prec : Nat) : List UInt8 :=
  sgn neg ++ (if 0 < dp then fill dp.toNat ds else [48]) ++ fracE prec (List.replicate (-dp).toNat 48 ++ ds.drop dp.toNat)

theorem fill_length (n : Nat) (l : List UInt8) : (fill n l).length = n := by
  unfold fill
  rw [List.length_append, List.length_take, List.length_replicate]
  omega
theorem fracE_length (n : Nat) (l : List UInt8) : (fracE n l).length ≤ n + 1 := by
  unfold fracE
  split
  · simp
  · rw [List.length_cons, fill_length]; omega
theorem expE_length (e : Int) : (expE e).length ≤ 4 := by
  unfold expE
  rw [List.length_cons]
  by_cases h1 : e.natAbs < 10
  · rw [if_pos h1]; simp
  · rw [if_neg h1]
    by_cases h2 : e.natAbs < 100
    · rw [if_pos h2]; simp
    · rw [if_neg h2]; simp

theorem fill_parts (prec NZ : Nat) (l : List UInt8) : fill prec (List.replicate NZ 48 ++ l) = List.replicate (min prec NZ) 48 ++ l.take (prec - NZ) ++ List.replicate (prec - NZ - l.length) 48 := by
  unfold fill
  rw [List.take_append, List.take_replicate, List.length_append, List.length_replicate, Nat.sub_add_eq]

/-- A part of a row. -/
theorem Row.sub {w : World} {v : Value} {xs : List UInt8} {g o c : Nat} (h : Row w v xs g o c) (i m : Nat) (him : i ≤ m) (hm : m ≤ xs.length) :
    Row w (.slice (some ⟨g, o + i, none⟩) (m - i) (c - i)) ((xs.drop i).take (m - i)) g (o + i) (c - i) := by
  have hl := h.le
  have hx := h.max
  have hlen : ((xs.drop i).take (m - i)).length = m - i := by rw [List.length_take, List.length_drop]; omega
  refine ⟨by rw [hlen], by rw [hlen]; omega, by omega, fun j hj => ?_, fun j hj => ?_⟩
  · rw [hlen] at hj
    rw [Nat.add_assoc, h.get (i + j) (by omega)]
    simp [bc, List.getElem?_drop, hj]
  · rw [Nat.add_assoc]
    exact h.there (i + j) (by omega)

/-- A row in another old block stays. -/
theorem Row.went {W w : World} {g o c n g1 o1 c1 : Nat} {olds ks : List UInt8} {v : Value} {xs : List UInt8} {gs os cs : Nat} (h : Row W v xs gs os cs) (hw : Went W g o c olds ks n g1 o1 c1 w) (hg : gs ≠ g) (hb : gs < W.heap.size) : Row w v xs gs os cs := by
  refine ⟨h.val, h.le, h.max, fun i hi => ?_, fun j hj => ?_⟩
  · rw [hw.cell hb hg]; exact h.get i hi
  · rw [hw.cell hb hg, keptBut_frozen hw.kept (a := ⟨gs, os + j, none⟩) hb]; exact h.there j hj

theorem Row.at {w : World} {v : Value} {xs : List UInt8} {g o c : Nat} (h : Row w v xs g o c) (i : Nat) (hi : i < xs.length) : w.cell? ⟨g, o + i, none⟩ = some (.int .u8 (xs[i].toNat : Int)) := by
  rw [h.get i hi]
  simp [bc, hi]

end Go.Proofs.YthfjpofbaeeafaaDoor
