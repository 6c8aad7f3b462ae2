/-
  strconv.AppendFloat over ftoa64 and ftoa32.
-/
import Derived.Test.YthfjpofbaeeafaaDoorZZ
namespace Go.Proofs.YthfjpofbaeeafaaDoor
open Go.RowKit

/-- What ftoa64 appends for these bits. -/
def F64 (bits : Nat) (verb prec : Int) (str : List UInt8) : Prop :=
  ∀ (B : Nat) (w : World) (g : Nat) (x0 : UInt8), Tabs B w → B ≤ g → Row w (.slice (some ⟨g, 12, none⟩) 1 68) [x0] g 12 68 →
    Calls Tryd.prog 52 #[.slice (some ⟨g, 12, none⟩) 1 68, .float .f64 bits, .int .u8 verb, .int .i64 prec] w (AppRes w g 12 68 [x0] str)
/-- What ftoa32 appends for these bits. -/
def F32 (bits : Nat) (verb prec : Int) (str : List UInt8) : Prop :=
  ∀ (B : Nat) (w : World) (g : Nat) (x0 : UInt8), Tabs B w → B ≤ g → Row w (.slice (some ⟨g, 12, none⟩) 1 68) [x0] g 12 68 →
    Calls Tryd.prog 51 #[.slice (some ⟨g, 12, none⟩) 1 68, .float .f32 bits, .int .u8 verb, .int .i64 prec] w (AppRes w g 12 68 [x0] str)

def AFi (bits : Nat) (size verb prec : Int) (str : List UInt8) : Prop :=
  ∀ (B : Nat) (w : World) (g : Nat) (x0 : UInt8), Tabs B w → B ≤ g → Row w (.slice (some ⟨g, 12, none⟩) 1 68) [x0] g 12 68 →
    Calls Tryd.prog 49 #[.slice (some ⟨g, 12, none⟩) 1 68, .float .f64 bits, .int .u8 verb, .int .i64 prec, .int .i64 size] w (AppRes w g 12 68 [x0] str)

theorem afi {bits : Nat} {size verb prec : Int} {str : List UInt8} (h : AFi bits size verb prec str) : AFspec bits size verb prec str := by
  intro B w g x0 hT hBg hR
  have h' := h B w g x0 hT hBg hR
  clear h
  go_enter Tryd.func43, Tryd.ntmps43
  go_wp2_with fail
  refine h'.mono ?_
  intro e w1 hres
  obtain ⟨a, n, k, rfl⟩ := hres.shape
  have HR := Lib.hid hres
  clear hres
  go_wp2_with fail
  go_ret
  exact HR.out

theorem af64 {bits : Nat} {verb prec : Int} {str : List UInt8} (h : F64 bits verb prec str) : AFspec bits 64 verb prec str := by
  refine afi fun B w g x0 hT hBg hR => ?_
  have h' := h B w g x0 hT hBg hR
  clear h
  go_enter Tryd.func49, Tryd.ntmps49
  go_wp2_with fail
  refine h'.mono ?_
  intro e w1 hres
  obtain ⟨a, n, k, rfl⟩ := hres.shape
  have HR := Lib.hid hres
  clear hres
  go_wp2_with fail
  go_ret
  exact HR.out

theorem af32 {bits b32 : Nat} {verb prec : Int} {str : List UInt8} (hcv : ∀ w, Sem.run Tryd.prog (convert 54 55 (.float .f64 bits)) w = .ok (.float .f32 b32) w) (h : F32 b32 verb prec str) : AFspec bits 32 verb prec str := by
  refine afi fun B w g x0 hT hBg hR => ?_
  have h' := h B w g x0 hT hBg hR
  have hc := hcv w
  clear h
  go_enter Tryd.func49, Tryd.ntmps49
  go_wp2_with fail
  refine h'.mono ?_
  intro e w1 hres
  obtain ⟨a, n, k, rfl⟩ := hres.shape
  have HR := Lib.hid hres
  clear hres
  go_wp2_with fail
  go_ret
  exact HR.out

end Go.Proofs.YthfjpofbaeeafaaDoor
