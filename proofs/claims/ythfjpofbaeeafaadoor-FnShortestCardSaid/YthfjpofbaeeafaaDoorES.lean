/-
  What fmtEFG is asked for by ftoa for the shortest decimal, and what it writes.
-/
import Derived.Test.YthfjpofbaeeafaaDoorShT
import Derived.Test.YthfjpofbaeeafaaDoorFZ
import Derived.Test.YthfjpofbaeeafaaDoorFE
import Derived.Test.YthfjpofbaeeafaaDoorFF
import Derived.Test.YthfjpofbaeeafaaDoorFGe
import Derived.Test.YthfjpofbaeeafaaDoorFGf
import Derived.Test.YthfjpofbaeeafaaDoorFGE
import Derived.Test.YthfjpofbaeeafaaDoorFGF
import Derived.Test.YthfjpofbaeeafaaDoorShR
namespace Go.Proofs.YthfjpofbaeeafaaDoor
open Go.RowKit

/-- fmtEFG, for the verb V, the shortest decimal and its precision, appends 'txt'. -/
def ESH (V : Int) (pv : Nat → Int → Nat) (txt : Bool → List UInt8 → Int → List UInt8) : Prop :=
  ∀ (neg : Bool) (sV : Value) (bs : List UInt8) (nd : Nat) (dp : Int) (gs os cs : Nat) (v : Value) (olds : List UInt8) (g o c : Nat) (w : World) (p : Int), 1 ≤ nd → nd ≤ 20 → nd ≤ bs.length → -900 < dp → dp < 900 → Row w v olds g o c → 0 < c → olds.length ≤ 1000000 →
    Row w sV bs gs os cs → gs ≠ g → p = (pv nd dp : Int) →
    Calls Tryd.prog 58 #[v, .bool neg, sV, .int .i64 dp, .int .i64 nd, .int .i64 p, .int .u8 V, .bool true] w (AppRes w g o c olds (txt neg (bs.take nd) dp))
/-- The same, for 0. -/
def ESH0 (V : Int) (txt : Bool → List UInt8 → Int → List UInt8) : Prop :=
  ∀ (neg : Bool) (v : Value) (olds : List UInt8) (g o c : Nat) (w : World), Row w v olds g o c → 0 < c → olds.length ≤ 1000000 →
    Calls Tryd.prog 58 #[v, .bool neg, .slice none 0 0, .int .i64 0, .int .i64 0, .int .i64 (-1), .int .u8 V, .bool true] w (AppRes w g o c olds (txt neg [] 0))

/-- What is written of L times 2 to the P. -/
def shTx (txt : Bool → List UInt8 → Int → List UInt8) (neg : Bool) (L : Nat) (P : Int) (edge : Bool) : List UInt8 :=
  if L = 0 then txt neg [] 0 else txt neg (cutD (shRes L P edge).1) (pt (shRes L P edge).1 (shP P edge - (shRes L P edge).2))

def pvE (nd : Nat) (_ : Int) : Nat := nd - 1
def pvF (nd : Nat) (dp : Int) : Nat := ((nd : Int) - dp).toNat
def pvG (nd : Nat) (_ : Int) : Nat := nd
def gB (ds : List UInt8) (dp : Int) : Bool := gE true dp ds.length ds.length
/-- The texts of the verbs. -/
def txE (neg : Bool) (ds : List UInt8) (dp : Int) : List UInt8 := shT true 101 neg ds dp
def txF (neg : Bool) (ds : List UInt8) (dp : Int) : List UInt8 := shT false 101 neg ds dp
def txG (V : UInt8) (neg : Bool) (ds : List UInt8) (dp : Int) : List UInt8 := shT (gB ds dp) V neg ds dp

theorem esh_e : ESH 101 pvE txE := by
  intro neg sV bs nd dp gs os cs v olds g o c w p h1 h2 h3 h4 h5 h6 h7 h8 h9 h10 hp
  have hl : (bs.take nd).length = nd := by rw [List.length_take]; omega
  subst hp
  have := fmtE_e neg true sV bs nd (nd - 1) dp gs os cs h3 h4 h5 (by omega) (by omega) v olds g o c w h6 h7 h8 (fun _ => h9) h10
  unfold txE shT pvE
  rw [if_pos rfl, hl]
  exact this
theorem esh_f : ESH 102 pvF txF := by
  intro neg sV bs nd dp gs os cs v olds g o c w p h1 h2 h3 h4 h5 h6 h7 h8 h9 h10 hp
  have hl : (bs.take nd).length = nd := by rw [List.length_take]; omega
  subst hp
  have := fmtE_f neg true sV bs nd ((nd : Int) - dp).toNat dp gs os cs h3 h4 h5 (by omega) (by omega) v olds g o c w h6 h7 h8 (fun _ => h9) h10 (fun _ => by omega)
  unfold txF shT pvF
  rw [if_neg (by decide), hl]
  exact this
theorem esh_g : ESH 103 pvG (txG 101) := by
  intro neg sV bs nd dp gs os cs v olds g o c w p h1 h2 h3 h4 h5 h6 h7 h8 h9 h10 hp
  have hl : (bs.take nd).length = nd := by rw [List.length_take]; omega
  subst hp
  unfold txG shT pvG gB
  rw [hl]
  cases hg : gE true dp nd nd
  · have := fmtG_f neg true sV bs nd nd dp gs os cs h3 h4 h5 (by omega) (by omega) v olds g o c w h6 h7 h8 (fun _ => h9) h10 (fun h => absurd h (by omega)) hg
    rw [if_neg (by decide)]
    rw [show (if dp < ((nd : Nat) : Int) then (nd : Int) else (nd : Nat)) = nd by split <;> rfl] at this
    exact this
  · have := fmtG_e neg true sV bs nd nd dp gs os cs h3 h4 h5 (by omega) (by omega) (by omega) v olds g o c w h6 h7 h8 (fun _ => h9) h10 (fun h => absurd h (by omega)) hg
    rw [if_pos rfl]
    rw [Nat.min_self] at this
    exact this
theorem esh_G : ESH 71 pvG (txG 69) := by
  intro neg sV bs nd dp gs os cs v olds g o c w p h1 h2 h3 h4 h5 h6 h7 h8 h9 h10 hp
  have hl : (bs.take nd).length = nd := by rw [List.length_take]; omega
  subst hp
  unfold txG shT pvG gB
  rw [hl]
  cases hg : gE true dp nd nd
  · have := fmtG_F neg true sV bs nd nd dp gs os cs h3 h4 h5 (by omega) (by omega) v olds g o c w h6 h7 h8 (fun _ => h9) h10 (fun h => absurd h (by omega)) hg
    rw [if_neg (by decide)]
    rw [show (if dp < ((nd : Nat) : Int) then (nd : Int) else (nd : Nat)) = nd by split <;> rfl] at this
    exact this
  · have := fmtG_E neg true sV bs nd nd dp gs os cs h3 h4 h5 (by omega) (by omega) (by omega) v olds g o c w h6 h7 h8 (fun _ => h9) h10 (fun h => absurd h (by omega)) hg
    rw [if_pos rfl]
    rw [Nat.min_self] at this
    exact this
theorem esz_e : ESH0 101 txE := by
  intro neg v olds g o c w hr hc hl
  have := fz_e neg v olds g o c w hr hc hl
  have e : txE neg [] 0 = sgn neg ++ [48, 101, 43, 48, 48] := by
    simp [txE, shT, eText, fracE, expE, dch]
  rw [e]
  exact this
theorem esz_f : ESH0 102 txF := by
  intro neg v olds g o c w hr hc hl
  have := fz_f neg v olds g o c w hr hc hl
  have e : txF neg [] 0 = sgn neg ++ [48] := by
    simp [txF, shT, fText, fracE]
  rw [e]
  exact this
theorem esz_g : ESH0 103 (txG 101) := by
  intro neg v olds g o c w hr hc hl
  have := fz_g neg v olds g o c w hr hc hl
  have e : (txG 101) neg [] 0 = sgn neg ++ [48] := by
    simp [txG, gB, gE, gEp, shT, fText, fracE]
  rw [e]
  exact this
theorem esz_G : ESH0 71 (txG 69) := by
  intro neg v olds g o c w hr hc hl
  have := fz_G neg v olds g o c w hr hc hl
  have e : (txG 69) neg [] 0 = sgn neg ++ [48] := by
    simp [txG, gB, gE, gEp, shT, fText, fracE]
  rw [e]
  exact this
end Go.Proofs.YthfjpofbaeeafaaDoor
