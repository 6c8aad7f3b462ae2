import Derived.Test.YthfjpofbaeeafaaDoorSmall
import Derived.RegionTactic
import Derived.ChangeAlike
namespace Go.Proofs.YthfjpofbaeeafaaDoor
open Go.RowKit

/-- The cells of a formatter: its buffer, its nine flags, width, precision and the bytes of its array. -/
def fmtCells (bp : Addr) (hw hp mi pl sh sp ze pv sv : Bool) (wid prec : Int) (ib : List Value) : Array Value :=
  (([.pointer (some bp), .bool hw, .bool hp, .bool mi, .bool pl, .bool sh, .bool sp, .bool ze, .bool pv, .bool sv, .int .i64 wid, .int .i64 prec] : List Value) ++ ib).toArray

theorem new_second (w : World) (a b : Obj) : (((w.alloc a).alloc b).drew.heap)[w.heap.size + 1]? = some b := by
  show ((w.alloc a).alloc b).heap[w.heap.size + 1]? = some b
  have := heap_alloc_new (w.alloc a) b
  rwa [World.size_alloc] at this

set_option maxHeartbeats 1000000 in
theorem zzFmt_any (wid prec : Int) (hw hp mi pl sh sp ze pv sv : Bool) (bp : Addr) (w : World) :
    Calls Tryd.prog 36 #[.agg #[.int .i64 wid, .int .i64 prec, .bool hw, .bool hp, .bool mi, .bool pl, .bool sh, .bool sp, .bool ze, .bool pv, .bool sv], .pointer (some bp)] w fun e w' =>
      e = .returned (.pointer (some ⟨w.heap.size + 1, 0, none⟩)) ∧ w'.heap[w.heap.size + 1]? = some (.cells (fmtCells bp hw hp mi pl sh sp ze pv sv wid prec (List.replicate 68 (.int .u8 0))) 86 (0, 0)) ∧ w'.heap.size = w.heap.size + 2 ∧ Below w.heap.size w w' := by
  go_enter Tryd.func36, Tryd.ntmps36
  go_wp2
  go_end0
  go_wp2
  go_end0
  go_wp2
  go_region
  go_wp2
  go_ret
  refine ⟨rfl, ?_, ?_, ?_⟩
  · rw [new_second]
    refine congrArg some ?_
    refine congrArg (fun c => Obj.cells c 86 (0, 0)) ?_
    kernel_rfl
  · simp [World.drew]
  · exact (((Below.refl _ _).alloc (Nat.le_refl _) _).alloc (by simp) _).drew
end Go.Proofs.YthfjpofbaeeafaaDoor
