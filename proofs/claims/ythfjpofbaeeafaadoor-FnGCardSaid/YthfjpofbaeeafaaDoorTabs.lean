/-
  What the package-level tables hold, as facts on a world, and that they hold it still where no old block has turned.
-/
import Derived.Test.YthfjpofbaeeafaaDoorMem
import GoSem.PinnedTables
namespace Go.Proofs.YthfjpofbaeeafaaDoor
open Go.RowKit

/-- The rows of the table of powers of ten; of the cheats of leftShift. -/
def p10hi (i : Nat) : Nat := (Go.Pinned.pow10Rows.getD i (0, 0)).1
def p10lo (i : Nat) : Nat := (Go.Pinned.pow10Rows.getD i (0, 0)).2
def chDelta (k : Nat) : Nat := (Go.Pinned.cheatRows.getD k (0, [])).1
def chCut (k : Nat) : List UInt8 := (Go.Pinned.cheatRows.getD k (0, [])).2

/-- The package's tables, where the program lays them, in blocks below B. -/
structure Tabs (B : Nat) (w : World) : Prop where
  lo : 5 ≤ B
  le : B ≤ w.heap.size
  opt : w.cell? ⟨1, 0, none⟩ = some (.bool true)
  u10 : Lib.TabIs Tryd.prog w "internal/strconv.uint64pow10" .u64 Lib.pow10Tab
  tab : ∀ i, i < 696 → w.cell? ⟨3, 2 * i, none⟩ = some (.int .u64 (p10hi i : Int)) ∧ w.cell? ⟨3, 2 * i + 1, none⟩ = some (.int .u64 (p10lo i : Int))
  cheats : ∃ ab ao ac, ab < B ∧ w.cell? ⟨4, 0, none⟩ = some (.slice (some ⟨ab, ao, none⟩) 61 ac) ∧
    ∀ k, k < 61 → w.cell? ⟨ab, ao + 2 * k, none⟩ = some (.int .i64 (chDelta k : Int)) ∧ w.cell? ⟨ab, ao + 2 * k + 1, none⟩ = some (.string ⟨(chCut k).toArray⟩)

theorem Tabs.kept {B : Nat} {w w' : World} (h : Tabs B w) {may : MemPlace → Prop} (hk : w.keptBut w' may) (hm : ∀ p, p.block < B → ¬ may p) : Tabs B w' := by
  have hlo := h.lo
  have hle := h.le
  have hcell : ∀ b o, b < B → w'.cell? ⟨b, o, none⟩ = w.cell? ⟨b, o, none⟩ := fun b o hb => hk.cell (by omega) (hm (.cell b o) hb)
  refine ⟨hlo, Nat.le_trans hle hk.size, (hcell 1 0 (by omega)).trans h.opt, ?_, fun i hi => ⟨(hcell 3 _ (by omega)).trans (h.tab i hi).1, (hcell 3 _ (by omega)).trans (h.tab i hi).2⟩, ?_⟩
  · have hg : Tryd.prog.globalNamed "internal/strconv.uint64pow10" = some 2 := by kernel_rfl
    have := h.u10
    unfold Lib.TabIs World.var? at this ⊢
    rw [hg] at this ⊢
    simp only [Option.bind_some] at this ⊢
    rw [hk.block (by omega) (fun p hp e => hm p (by omega) hp)]
    exact this
  · obtain ⟨ab, ao, ac, h1, h3, h4⟩ := h.cheats
    exact ⟨ab, ao, ac, h1, (hcell 4 0 (by omega)).trans h3, fun k hlt => ⟨(hcell ab _ h1).trans (h4 k hlt).1, (hcell ab _ h1).trans (h4 k hlt).2⟩⟩

/-- No old block has turned. -/
def Still (w w' : World) : Prop := w.keptBut w' (fun _ => False)
theorem Still.refl (w : World) : Still w w := World.keptBut_refl _ _
theorem Still.trans {a b c : World} (h : Still a b) (h' : Still b c) : Still a c := World.keptBut_trans h h'
theorem Still.alloc {a b : World} (h : Still a b) (o : Obj) : Still a (b.alloc o) := World.keptBut_trans h (World.keptBut_alloc _ _ _)
theorem Still.drew {a b : World} (h : Still a b) : Still a b.drew := h
theorem Still.drewN {a b : World} (h : Still a b) (n : Nat) : Still a (b.drewN n) := h
theorem Still.tabs {B : Nat} {a b : World} (h : Still a b) (ht : Tabs B a) : Tabs B b := ht.kept h (fun _ _ f => f)
theorem Still.cell {a b : World} (h : Still a b) {p : Addr} {v : Value} (hc : a.cell? p = some v) : b.cell? p = some v := by
  have hlt : p.block < a.heap.size := World.block_lt_of_cell? _ _ hc
  have := (hk_cell h hlt)
  exact this.trans hc
where
  hk_cell {a b : World} {p : Addr} (h : Still a b) (hlt : p.block < a.heap.size) : b.cell? p = a.cell? p := by
    have hb := World.keptBut.block h hlt (fun _ hp => hp.elim)
    exact World.cell?_of_block (a := p) hb
theorem Still.setCell {a b : World} (h : Still a b) {p : Addr} (hp : a.heap.size ≤ p.block) (v : Value) : Still a (b.setCell p v) :=
  keptBut_then h (World.keptBut_setCell b p v (may := fun q => q = .cell p.block p.off) rfl) (fun q hq => Or.inr (by rw [hq]; exact hp))
theorem Still.below {a b : World} (h : Below a.heap.size a b) : Still a b := h.frame _

end Go.Proofs.YthfjpofbaeeafaaDoor
