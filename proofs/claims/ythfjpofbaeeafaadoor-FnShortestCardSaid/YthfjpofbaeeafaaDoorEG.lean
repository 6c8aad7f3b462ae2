/-
  What fmtEFG is asked for by ftoa (a name for its contract), and the facts on new blocks that the walks of ftoa ask for.
-/
import Derived.Test.YthfjpofbaeeafaaDoorPB
import Derived.Test.YthfjpofbaeeafaaDoorSD
import Derived.Test.YthfjpofbaeeafaaDoorRO
import Derived.Test.YthfjpofbaeeafaaDoorFP
namespace Go.Proofs.YthfjpofbaeeafaaDoor
open Go.RowKit

/-- fmtEFG, for the verb V and the precision prec, appends 'txt'. -/
def EFG (V : Int) (sh : Bool) (prec : Nat) (txt : Bool → List UInt8 → Int → List UInt8) : Prop :=
  ∀ (neg : Bool) (sV : Value) (bs : List UInt8) (nd : Nat) (dp : Int) (gs os cs : Nat) (v : Value) (olds : List UInt8) (g o c : Nat) (w : World), nd ≤ bs.length → -900 < dp → dp < 900 → nd < 1000 → Row w v olds g o c → 0 < c → olds.length ≤ 1000000 →
    (0 < nd → Row w sV bs gs os cs) → gs ≠ g → (nd = 0 → dp = 0) →
    Calls Tryd.prog 58 #[v, .bool neg, sV, .int .i64 dp, .int .i64 nd, .int .i64 prec, .int .u8 V, .bool sh] w (AppRes w g o c olds (txt neg (bs.take nd) dp))

/-- The same, for 0 alone. -/
def EFG0 (V : Int) (sh : Bool) (prec : Nat) (txt : Bool → List UInt8 → Int → List UInt8) : Prop :=
  ∀ (neg : Bool) (sV : Value) (bs : List UInt8) (nd : Nat) (dp : Int) (gs os cs : Nat) (v : Value) (olds : List UInt8) (g o c : Nat) (w : World), nd = 0 → dp = 0 → nd ≤ bs.length → -900 < dp → dp < 900 → nd < 1000 → Row w v olds g o c → 0 < c → olds.length ≤ 1000000 →
    (0 < nd → Row w sV bs gs os cs) → gs ≠ g → (nd = 0 → dp = 0) →
    Calls Tryd.prog 58 #[v, .bool neg, sV, .int .i64 dp, .int .i64 nd, .int .i64 prec, .int .u8 V, .bool sh] w (AppRes w g o c olds (txt neg (bs.take nd) dp))

/-- What is written of M times 2 to the E, rounded to q digits behind the point. -/
def rTxt (txt : Bool → List UInt8 → Int → List UInt8) (neg : Bool) (M : Nat) (E q : Int) : List UInt8 :=
  if M = 0 then txt neg [] 0 else txt neg (cutD (rh (VN M E q) VC)) (pt (rh (VN M E q) VC) q)

def zdec : Array Value := (List.replicate 800 (Value.int .u8 0) ++ [Value.int .i64 0, .int .i64 0, .bool false, .bool false]).toArray
theorem alloc113 (w : World) : (Instr.alloc 113 true (.tuple #[])).run Tryd.prog w = .ok (.pointer (some ⟨w.heap.size, 0, none⟩)) (w.alloc (.cells zdec 113)) := by kernel_rfl
def z32 : Array Value := (List.replicate 32 (Value.int .u8 0)).toArray
theorem alloc101 (w : World) : (Instr.alloc 101 true (.tuple #[])).run Tryd.prog w = .ok (.pointer (some ⟨w.heap.size, 0, none⟩)) (w.alloc (.cells z32 101)) := by kernel_rfl
def z24 : Array Value := (List.replicate 24 (Value.int .u8 0)).toArray
theorem alloc108 (w : World) : (Instr.alloc 108 true (.tuple #[])).run Tryd.prog w = .ok (.pointer (some ⟨w.heap.size, 0, none⟩)) (w.alloc (.cells z24 108)) := by kernel_rfl

theorem Tabs.drewN' {B : Nat} {w : World} (h : Tabs B w) (n : Nat) : Tabs B (w.drewN n) := ((Still.refl w).drewN n).tabs h
theorem Row.drewN' {w : World} {v : Value} {xs : List UInt8} {g o c : Nat} (h : Row w v xs g o c) (n : Nat) : Row (w.drewN n) v xs g o c := h.still ((Still.refl w).drewN n)
theorem row_zeros (w : World) (T : TypeId) (N : Nat) (hN : N ≤ 1000) : Row (w.alloc (.cells (List.replicate N (Value.int .u8 0)).toArray T)) (.slice (some ⟨w.heap.size, 0, none⟩) N N) (List.replicate N 0) w.heap.size 0 N := by
  have hc : ∀ j, j < N → (w.alloc (.cells (List.replicate N (Value.int .u8 0)).toArray T)).cell? ⟨w.heap.size, 0 + j, none⟩ = some (.int .u8 0) := fun j hj => by
    rw [Nat.zero_add, World.cell?_alloc_new, List.getElem?_toArray, List.getElem?_replicate, if_pos hj]
  refine ⟨by simp, by simp, by simp [maxLen]; omega, fun i hi => ?_, fun j hj => ⟨by rw [hc j hj]; rfl, World.frozen?_alloc_new _ _ _ _⟩⟩
  rw [hc i (by simpa using hi), bc_get _ i hi]
  simp

theorem dm_new (w : World) : Dm (w.alloc (.cells zdec 113)) w.heap.size (fun _ => 0) 0 0 := by
  have hc : ∀ i, (w.alloc (.cells zdec 113)).cell? ⟨w.heap.size, i, none⟩ = zdec[i]? := fun i => World.cell?_alloc_new _ _ _ _
  have hz : ∀ i, zdec[i]? = (List.replicate 800 (Value.int .u8 0) ++ [Value.int .i64 0, .int .i64 0, .bool false, .bool false])[i]? := fun i => by
    unfold zdec; rw [List.getElem?_toArray]
  refine ⟨fun i hi => ?_, fun i _ => by decide, ?_, ?_, ?_, fun i => World.frozen?_alloc_new _ _ _ _, by simp⟩
  · rw [hc, hz, List.getElem?_append_left (by rw [List.length_replicate]; exact hi), List.getElem?_replicate, if_pos hi]
    rfl
  · rw [hc, hz, List.getElem?_append_right (by rw [List.length_replicate]; omega), List.length_replicate]
    rfl
  · rw [hc, hz, List.getElem?_append_right (by rw [List.length_replicate]; omega), List.length_replicate]
    rfl
  · rw [hc, hz, List.getElem?_append_right (by rw [List.length_replicate]; omega), List.length_replicate]
    rfl

theorem bitLen_any (M LB : Nat) (hM : M < 9007199254740992) (h : LB = Lib.bitLen M) (w : World) : Calls Tryd.prog 59 #[.int .u64 M] w fun e w' => e = .returned (.int .i64 LB) ∧ w = w' := by
  refine (Tryd.bits_Len64 M w (by omega) (by omega)).mono fun e w' ⟨h1, h2⟩ => ⟨?_, h2.symm⟩
  rw [h1, h, Int.toNat_natCast]

theorem cutD_pos (d : Nat) (h : 0 < d) : 0 < (cutD d).length := by
  induction d using Nat.strongRecOn with
  | _ d ih =>
    by_cases hd : d < 10
    · unfold cutD
      rw [Lib.decDigits_one hd]
      have e : [UInt8.ofNat (48 + d)] = [] ++ [dby d] := rfl
      rw [e, strip_snoc _ _ (dby_ne d hd (by omega))]
      simp
    · by_cases h0 : d % 10 = 0
      · have e : d = d / 10 * 10 := by omega
        rw [e, cutD_ten _ (by omega)]
        exact ih (d / 10) (by omega) (by omega)
      · unfold cutD
        rw [Lib.decDigits, dif_neg hd]
        have e : UInt8.ofNat (48 + d % 10) = dby (d % 10) := rfl
        rw [e, strip_snoc _ _ (dby_ne _ (by omega) h0)]
        simp

/-- The decimal's bytes, as a slice. -/
theorem Dm.row {w : World} {g : Nat} {f : Nat → Nat} {nd : Nat} {dp : Int} (h : Dm w g f nd dp) : Row w (.slice (some ⟨g, 0, none⟩) 800 800) ((List.range 800).map fun i => UInt8.ofNat (f i)) g 0 800 := by
  refine ⟨by simp, by simp, by simp [maxLen], fun i hi => ?_, fun j hj => ⟨?_, h.free _⟩⟩
  · have hi8 : i < 800 := by simpa using hi
    rw [Nat.zero_add, h.cell i hi8, bc_get _ i hi]
    have := h.byte i hi8
    simp only [List.getElem_map, List.getElem_range, Option.some.injEq, Value.int.injEq, true_and]
    rw [UInt8.toNat_ofNat_of_lt' (by omega)]
  · rw [Nat.zero_add, h.cell j hj]; rfl

theorem dl_bytes (f : Nat → Nat) (nd : Nat) (hnd : nd ≤ 800) (h : ∀ i, i < nd → 48 ≤ f i ∧ f i < 58) : ((List.range 800).map fun i => UInt8.ofNat (f i)).take nd = (dl f nd).map dby := by
  unfold dl
  rw [← List.map_take, List.take_range, Nat.min_eq_left hnd, List.map_map]
  refine List.map_congr_left fun i hi => ?_
  have := h i (List.mem_range.1 hi)
  simp only [Function.comp, dby]
  congr 1
  omega

end Go.Proofs.YthfjpofbaeeafaaDoor
