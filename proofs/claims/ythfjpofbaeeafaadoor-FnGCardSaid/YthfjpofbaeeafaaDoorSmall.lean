/-
  Walks of the small functions of internal/strconv that only reckon: logarithms, the roundings of an unrounded number, its division.
-/
import Derived.Test.YthfjpofbaeeafaaDoorShelf
import Derived.WalkKit
import Derived.WalkSpells
import Derived.WalkLawsBesides
import Derived.Laws.BitsAllLaws
import Derived.Deep.QuietTactic
import Derived.BigQuiet
import Derived.Lib.Hide
namespace Go.Proofs.YthfjpofbaeeafaaDoor
open Go.RowKit

theorem ret_int {k : IntKind} {a b : Int} (h : a = b) : Ending.returned (.int k a) = .returned (.int k b) := by rw [h]

/-- A number of 64 bits (a name: the walk does not look at so great a numeral). -/
def U64 (x : Nat) : Prop := x < 18446744073709551616

theorem log10Pow2_any (x : Int) (w : World) (h0 : -100000 ≤ x) (h1 : x ≤ 100000) :
    Calls Tryd.prog 63 #[.int .i64 x] w fun e w' => e = .returned (.int .i64 (x * 78913 / 262144)) ∧ w = w' := by
  go_enter Tryd.func63, Tryd.ntmps63
  go_wp2
  go_ret
  exact ⟨rfl, rfl⟩

theorem log2Pow10_any (x : Int) (w : World) (h0 : -100000 ≤ x) (h1 : x ≤ 100000) :
    Calls Tryd.prog 74 #[.int .i64 x] w fun e w' => e = .returned (.int .i64 (x * 108853 / 32768)) ∧ w = w' := by
  go_enter Tryd.func74, Tryd.ntmps74
  go_wp2
  go_ret
  exact ⟨rfl, rfl⟩

theorem skewed_any (x : Int) (w : World) (h0 : -100000 ≤ x) (h1 : x ≤ 100000) :
    Calls Tryd.prog 72 #[.int .i64 x] w fun e w' => e = .returned (.int .i64 ((x * 631305 - 261663) / 2097152)) ∧ w = w' := by
  go_enter Tryd.func72, Tryd.ntmps72
  go_wp2
  go_ret
  exact ⟨rfl, rfl⟩

theorem bool2u_any (b : Bool) (w : World) :
    Calls Tryd.prog 93 #[.bool b] w fun e w' => e = .returned (.int .u64 (if b then 1 else 0)) ∧ w = w' := by
  cases b
  all_goals
    go_enter Tryd.func93, Tryd.ntmps93
    go_wp2
    go_ret
    exact ⟨rfl, rfl⟩

theorem bool2r_any (b : Bool) (w : World) :
    Calls Tryd.prog 94 #[.bool b] w fun e w' => e = .returned (.int .u64 (if b then 1 else 0)) ∧ w = w' := by
  cases b
  all_goals
    go_enter Tryd.func94, Tryd.ntmps94
    go_wp2
    go_ret
    exact ⟨rfl, rfl⟩

theorem nudge_any (u d : Int) (w : World) (h0 : 0 ≤ u + d) (h1 : u + d < 18446744073709551616) :
    Calls Tryd.prog 76 #[.int .u64 u, .int .i64 d] w fun e w' => e = .returned (.int .u64 (u + d)) ∧ w = w' := by
  go_enter Tryd.func76, Tryd.ntmps76
  go_wp2
  go_ret
  refine ⟨ret_int ?_, rfl⟩
  rw [IntKind.wrap_u64, IntKind.wrap_u64]; omega

theorem ceil_any (u : Int) (w : World) (h0 : 0 ≤ u) (h1 : u < 18446744073709551610) :
    Calls Tryd.prog 77 #[.int .u64 u] w fun e w' => e = .returned (.int .u64 ((u + 3) / 4)) ∧ w = w' := by
  go_enter Tryd.func77, Tryd.ntmps77
  go_wp2
  go_ret
  exact ⟨rfl, rfl⟩

theorem floor_any (u : Int) (w : World) (h0 : 0 ≤ u) (h1 : u < 18446744073709551610) :
    Calls Tryd.prog 78 #[.int .u64 u] w fun e w' => e = .returned (.int .u64 (u / 4)) ∧ w = w' := by
  go_enter Tryd.func78, Tryd.ntmps78
  go_wp2
  go_ret
  exact ⟨rfl, rfl⟩

theorem round_any (u : Int) (w : World) (h0 : 0 ≤ u) (h1 : u < 18446744073709551610) :
    Calls Tryd.prog 79 #[.int .u64 u] w fun e w' => e = .returned (.int .u64 ((u + 1 + u / 4 % 2) / 4)) ∧ w = w' := by
  have hb := and_one_u64 (u / 4) (by omega) (by omega)
  go_enter Tryd.func79, Tryd.ntmps79
  go_wp2
  go_ret
  exact ⟨rfl, rfl⟩

theorem unmin_any (x : Int) (w : World) (h0 : 1 ≤ x) (h1 : x < 4611686018427387904) :
    Calls Tryd.prog 82 #[.int .u64 x] w fun e w' => e = .returned (.int .u64 (x * 4 - 2)) ∧ w = w' := by
  go_enter Tryd.func82, Tryd.ntmps82
  go_wp2
  go_ret
  exact ⟨rfl, rfl⟩

end Go.Proofs.YthfjpofbaeeafaaDoor
