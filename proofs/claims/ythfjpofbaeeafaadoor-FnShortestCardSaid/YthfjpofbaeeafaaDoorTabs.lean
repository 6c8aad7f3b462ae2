/-
  Walks of the small functions of internal/strconv that only reckon: logarithms, the roundings of an unrounded number, its division.
  What is known of a slice of bytes in memory ('Row'), what append does to it ('Up': the kit's 'Upon' at bytes), and the law of append in the walk.
  What the package-level tables hold, as facts on a world, and that they hold it still where no old block has turned.
-/
import Derived.Test.YthfjpofbaeeafaaDoorShelf
import Derived.WalkKit
import Derived.WalkSpells
import Derived.WalkLawsBesides
import Derived.Laws.BitsAllLaws
import Derived.Deep.QuietTactic
import Derived.BigQuiet
import Derived.Lib.Hide
import Derived.Deep.Upon
import Derived.Lib.UnsafeStr
import GoSem.PinnedTables
namespace Go.Proofs.YthfjpofbaeeafaaDoor
open Go.RowKit Go.Lib

theorem ret_int {k : IntKind} {a b : Int} (h : a = b) : Ending.returned (.int k a) = .returned (.int k b) := by rw [h]

/-- A number of 64 bits (a name: the walk does not look at so great a numeral). -/
def U64 (x : Nat) : Prop := x < 18446744073709551616

theorem log10Pow2_any (x : Int) (w : World) (h0 : -100000 ≤ x) (h1 : x ≤ 100000) :
    Calls Tryd.prog 63 #[.int .i64 x] w fun e w' => e = .returned (.int .i64 (x * 78913 / 262144)) ∧ w = w' := by
  go_enter Tryd.func63, Tryd.ntmps63
  go_wp2
  go_ret
  exact ⟨rfl, rfl⟩

theorem log2Pow10_any (x : Int) (w : World) (h0 : -100000 ≤ x) (h1 : x ≤ 100000) :
    Calls Tryd.prog 74 #[.int .i64 x] w fun e w' => e = .returned (.int .i64 (x * 108853 / 32768)) ∧ w = w' := by
  go_enter Tryd.func74, Tryd.ntmps74
  go_wp2
  go_ret
  exact ⟨rfl, rfl⟩

theorem skewed_any (x : Int) (w : World) (h0 : -100000 ≤ x) (h1 : x ≤ 100000) :
    Calls Tryd.prog 72 #[.int .i64 x] w fun e w' => e = .returned (.int .i64 ((x * 631305 - 261663) / 2097152)) ∧ w = w' := by
  go_enter Tryd.func72, Tryd.ntmps72
  go_wp2
  go_ret
  exact ⟨rfl, rfl⟩

theorem bool2u_any (b : Bool) (w : World) :
    Calls Tryd.prog 93 #[.bool b] w fun e w' => e = .returned (.int .u64 (if b then 1 else 0)) ∧ w = w' := by
  cases b
  all_goals
    go_enter Tryd.func93, Tryd.ntmps93
    go_wp2
    go_ret
    exact ⟨rfl, rfl⟩

theorem bool2r_any (b : Bool) (w : World) :
    Calls Tryd.prog 94 #[.bool b] w fun e w' => e = .returned (.int .u64 (if b then 1 else 0)) ∧ w = w' := by
  cases b
  all_goals
    go_enter Tryd.func94, Tryd.ntmps94
    go_wp2
    go_ret
    exact ⟨rfl, rfl⟩

theorem nudge_any (u d : Int) (w : World) (h0 : 0 ≤ u + d) (h1 : u + d < 18446744073709551616) :
    Calls Tryd.prog 76 #[.int .u64 u, .int .i64 d] w fun e w' => e = .returned (.int .u64 (u + d)) ∧ w = w' := by
  go_enter Tryd.func76, Tryd.ntmps76
  go_wp2
  go_ret
  refine ⟨ret_int ?_, rfl⟩
  rw [IntKind.wrap_u64, IntKind.wrap_u64]; omega

theorem ceil_any (u : Int) (w : World) (h0 : 0 ≤ u) (h1 : u < 18446744073709551610) :
    Calls Tryd.prog 77 #[.int .u64 u] w fun e w' => e = .returned (.int .u64 ((u + 3) / 4)) ∧ w = w' := by
  go_enter Tryd.func77, Tryd.ntmps77
  go_wp2
  go_ret
  exact ⟨rfl, rfl⟩

theorem floor_any (u : Int) (w : World) (h0 : 0 ≤ u) (h1 : u < 18446744073709551610) :
    Calls Tryd.prog 78 #[.int .u64 u] w fun e w' => e = .returned (.int .u64 (u / 4)) ∧ w = w' := by
  go_enter Tryd.func78, Tryd.ntmps78
  go_wp2
  go_ret
  exact ⟨rfl, rfl⟩

theorem round_any (u : Int) (w : World) (h0 : 0 ≤ u) (h1 : u < 18446744073709551610) :
    Calls Tryd.prog 79 #[.int .u64 u] w fun e w' => e = .returned (.int .u64 ((u + 1 + u / 4 % 2) / 4)) ∧ w = w' := by
  have hb := and_one_u64 (u / 4) (by omega) (by omega)
  go_enter Tryd.func79, Tryd.ntmps79
  go_wp2
  go_ret
  exact ⟨rfl, rfl⟩

theorem unmin_any (x : Int) (w : World) (h0 : 1 ≤ x) (h1 : x < 4611686018427387904) :
    Calls Tryd.prog 82 #[.int .u64 x] w fun e w' => e = .returned (.int .u64 (x * 4 - 2)) ∧ w = w' := by
  go_enter Tryd.func82, Tryd.ntmps82
  go_wp2
  go_ret
  exact ⟨rfl, rfl⟩


/-- Bytes as cells. -/
def bc (l : List UInt8) : List Value := l.map fun b => Value.int .u8 (b.toNat : Int)
theorem bc_length (l : List UInt8) : (bc l).length = l.length := by simp [bc]
theorem bc_append (a b : List UInt8) : bc (a ++ b) = bc a ++ bc b := by simp [bc]
theorem bc_get (l : List UInt8) (i : Nat) (h : i < l.length) : (bc l)[i]? = some (.int .u8 ((l[i]).toNat : Int)) := by simp [bc, h]
theorem bc_one (l : List UInt8) : ∀ v ∈ bc l, v.oneCell' = true := by
  intro v hv
  obtain ⟨b, _, rfl⟩ := List.mem_map.1 hv
  rfl

/-- The slice v of bytes holds xs; its array lies at offset o of block g, with room for c elements; none of them is frozen. -/
structure Row (w : World) (v : Value) (xs : List UInt8) (g o c : Nat) : Prop where
  val : v = .slice (some ⟨g, o, none⟩) xs.length c
  le : xs.length ≤ c
  max : c ≤ maxLen
  get : ∀ i, i < xs.length → w.cell? ⟨g, o + i, none⟩ = (bc xs)[i]?
  there : ∀ j, j < c → (w.cell? ⟨g, o + j, none⟩).isSome = true ∧ w.frozen? ⟨g, o + j, none⟩ = false

theorem Row.lt {w : World} {v : Value} {xs : List UInt8} {g o c : Nat} (h : Row w v xs g o c) (h0 : 0 < c) : g < w.heap.size :=
  World.block_lt_of_cell? _ _ (Option.isSome_iff_exists.1 (h.there 0 h0).1).choose_spec

theorem Row.came {w : World} {v : Value} {xs : List UInt8} {g o c : Nat} (h : Row w v xs g o c) : Came w 1 (some ⟨g, o, none⟩) g o xs.length c (bc xs) where
  le := h.le
  addr := fun _ => rfl
  lt := h.lt
  oldsLen := by rw [bc_length, Nat.mul_one]
  olds := fun j u hj => by
    have hl : j < (bc xs).length := (List.getElem?_eq_some_iff.1 hj).1
    rw [bc_length] at hl
    rw [h.get j hl, hj]
  spare := fun j hj => by
    have := h.there (xs.length + j) (by omega)
    rw [Nat.mul_one, Nat.add_assoc]; exact this

theorem Row.src {w : World} {v : Value} {xs : List UInt8} {g o c : Nat} (h : Row w v xs g o c) (t : TypeId) (ht : Tryd.prog.underlying t = some (.slice 5)) :
    Src Tryd.prog 1 t v xs.length (bc xs) w := by
  rw [h.val]
  refine Src.ofSlice w ht _ _ _ _ (by rw [bc_length, Nat.mul_one]) (fun j u hj => ?_) (bc_one xs)
  have hl : j < (bc xs).length := (List.getElem?_eq_some_iff.1 hj).1
  rw [bc_length] at hl
  rw [Addr.add_lit, h.get j hl, hj]

/-- What stands in new blocks may turn as it likes. -/
theorem keptBut_old {w w' : World} {may : MemPlace → Prop} (h : w.keptBut w' (fun p => may p ∨ w.heap.size ≤ p.block)) : w.keptBut w' may := by
  refine ⟨h.1, h.2.1, fun i hi => ?_⟩
  have := h.2.2 i hi
  split at this
  · obtain ⟨h1, h2, h3, h4⟩ := this
    exact ⟨h1, h2, h3, fun j hj => h4 j (fun e => by
      rcases e with e | e
      · exact hj e
      · have e' : w.heap.size ≤ i := e
        omega)⟩
  · rcases this with (e | e) | e
    · exact Or.inl e
    · have e' : w.heap.size ≤ i := e
      omega
    · exact Or.inr e
  · exact this
theorem keptBut_then {a b c : World} {may may' : MemPlace → Prop} (h : a.keptBut b may) (h' : b.keptBut c may') (hm : ∀ p, may' p → may p ∨ a.heap.size ≤ p.block) : a.keptBut c may :=
  keptBut_old (World.keptBut_trans (World.keptBut_mono (fun _ hp => Or.inl hp) h) (World.keptBut_mono hm h'))

theorem keptBut_frozen {w w' : World} {may : MemPlace → Prop} (h : w.keptBut w' may) {a : Addr} (ha : a.block < w.heap.size) : w'.frozen? a = w.frozen? a := by
  have := h.2.2 a.block ha
  unfold World.frozen?
  split at this
  · rename_i h1 h2
    rw [h1, h2, this.2.1]
  · rename_i h1 h2
    rw [h1, h2]
  · rw [this]

/-- All but the first byte of a row. -/
theorem Row.tail {w : World} {v : Value} {x : UInt8} {xs : List UInt8} {g o c : Nat} (h : Row w v (x :: xs) g o c) : Row w (.slice (some ⟨g, o + 1, none⟩) xs.length (c - 1)) xs g (o + 1) (c - 1) := by
  have hle := h.le
  rw [List.length_cons] at hle
  refine ⟨rfl, by omega, by have := h.max; omega, fun i hi => ?_, fun j hj => ?_⟩
  · rw [show o + 1 + i = o + (i + 1) by omega, h.get (i + 1) (by simpa using hi)]
    simp [bc]
  · rw [show o + 1 + j = o + (j + 1) by omega]
    exact h.there (j + 1) (by omega)

/-- 'ks' has been appended to a slice that held 'olds' in W. -/
def Up (W : World) (ao : Option Addr) (b o c : Nat) (olds : List UInt8) (w : World) (v : Value) (ks : List UInt8) : Prop :=
  ∃ r, Upon W 5 1 ao b o olds.length c (bc olds) w v ks.length (bc ks) r

section
variable {W : World} {ao : Option Addr} {b o c : Nat} {olds : List UInt8} {w : World} {v : Value} {ks : List UInt8}

theorem Up.start (hc : Came W 1 ao b o olds.length c (bc olds)) : Up W ao b o c olds W (.slice ao olds.length c) [] := ⟨0, Upon.start hc⟩
theorem Up.alloc (h : Up W ao b o c olds w v ks) (hc : Came W 1 ao b o olds.length c (bc olds)) (ob : Obj) : Up W ao b o c olds (w.alloc ob) v ks := by
  obtain ⟨r, h⟩ := h; exact ⟨r, h.alloc hc ob⟩
theorem Up.drew (h : Up W ao b o c olds w v ks) (hc : Came W 1 ao b o olds.length c (bc olds)) : Up W ao b o c olds w.drew v ks := by
  obtain ⟨r, h⟩ := h; exact ⟨r, h.drew hc⟩
theorem Up.kept (h : Up W ao b o c olds w v ks) : W.keptBut w (fun p => ∃ j, olds.length ≤ j ∧ j < c ∧ p = .cell b (o + j)) := by
  obtain ⟨r, h⟩ := h
  refine World.keptBut_mono (fun p ⟨j, hj, hp⟩ => ⟨olds.length + j, by omega, ?_, ?_⟩) h.kept
  · have := h.rFit; omega
  · rw [hp, Nat.mul_one, Nat.add_assoc]
theorem Up.cell (h : Up W ao b o c olds w v ks) {b' o' : Nat} (hb : b' < W.heap.size) (hn : b' ≠ b ∨ o' < o + olds.length ∨ o + c ≤ o') : w.cell? ⟨b', o', none⟩ = W.cell? ⟨b', o', none⟩ :=
  h.kept.cell hb (fun ⟨j, h1, h2, e⟩ => by simp only [MemPlace.cell.injEq] at e; omega)
theorem Up.frozen (h : Up W ao b o c olds w v ks) (a : Addr) (ha : a.block < W.heap.size) : w.frozen? a = W.frozen? a := by
  obtain ⟨r, h⟩ := h; exact h.frozen a ha
theorem Up.size (h : Up W ao b o c olds w v ks) : W.heap.size ≤ w.heap.size := h.kept.size
theorem Up.shape (h : Up W ao b o c olds w v ks) : ∃ a' c', v = .slice a' (olds.length + ks.length) c' := by
  obtain ⟨r, h⟩ := h; exact h.shape

/-- Behind the appends: the slice lies where it lay, or in a new block. -/
theorem Up.row (h : Up W ao b o c olds w v ks) (hc : Came W 1 ao b o olds.length c (bc olds)) (hz : ∀ j, j < olds.length → W.frozen? ⟨b, o + j, none⟩ = false) (hmax : c ≤ maxLen) (hpos : 0 < c ∨ 0 < ks.length) :
    ∃ g' o' c', Row w v (olds ++ ks) g' o' c' ∧ ((g' = b ∧ o' = o ∧ c' = c) ∨ (W.heap.size ≤ g' ∧ o' = 0 ∧ c < olds.length + ks.length)) := by
  obtain ⟨r, h⟩ := h
  rcases h.val with ⟨hle, hv, hr⟩ | ⟨hgt, g, c', hv, ho⟩
  · have hcap : 0 < c := by omega
    refine ⟨b, o, c, ⟨?_, by simpa using hle, hmax, fun i hi => ?_, fun j hj => ?_⟩, .inl ⟨rfl, rfl, rfl⟩⟩
    · rw [hv, hc.addr hcap, List.length_append]
    · rw [h.inArray hc hcap hr i (by simpa using hi), bc_append]
    · have hb := hc.lt hcap
      constructor
      · by_cases hjo : j < olds.length
        · have e := h.inArray hc hcap hr j (by omega)
          rw [e, ← bc_append, List.getElem?_eq_getElem (by rw [bc_length, List.length_append]; omega)]
          rfl
        · by_cases hw : j - olds.length < r
          · have e := h.written (j - olds.length) hw
            rw [Nat.mul_one, show o + olds.length + (j - olds.length) = o + j by omega] at e
            have := h.rLe
            rw [e, List.getElem?_eq_getElem (by omega)]
            rfl
          · have e := h.old (b' := b) (o' := o + j) hb (fun j' hj' ⟨_, e'⟩ => by omega)
            rw [e]
            have := (hc.spare (j - olds.length) (by omega)).1
            rwa [Nat.mul_one, show o + olds.length + (j - olds.length) = o + j by omega] at this
      · rw [h.frozen _ hb]
        by_cases hjo : j < olds.length
        · exact hz j hjo
        · have := (hc.spare (j - olds.length) (by omega)).2
          rwa [Nat.mul_one, show o + olds.length + (j - olds.length) = o + j by omega] at this
  · refine ⟨g, 0, c', ⟨by rw [hv, List.length_append], by simpa using ho.le, ho.max, fun i hi => ?_, fun j hj => ?_⟩, .inr ⟨ho.new, rfl, hgt⟩⟩
    · rw [Nat.zero_add, ho.holds i (by simpa using hi), bc_append]
    · rw [Nat.zero_add]; exact ho.there j (by omega)

/-- THE LAW OF append IN THE WALK, at bytes. -/
theorem wpList_up (w : World) {ops : Array Oper} {rest : List Oper} {op : Oper} {a : Act} {Q : Exit → Act → World → Prop} (hgd : op.guard = none) (s x : Operand) (t tx : TypeId)
    (ho : op.op = .call { callee := .builtin .append, args := #[s, x], argTypes := #[t, tx] }) (ht : Tryd.prog.underlying t = some (.slice 5))
    {W : World} {ao : Option Addr} {b o c : Nat} {olds : List UInt8} (hc : Came W 1 ao b o olds.length c (bc olds))
    {v : Value} {ks : List UInt8} (hv : a.eval s = v) (h : Up W ao b o c olds w v ks)
    (xv : Value) (news : List UInt8) (hx : a.eval x = xv) (hs : Src Tryd.prog 1 tx xv news.length (bc news) w) (hlim : olds.length + ks.length + news.length ≤ 140737488355328)
    (hK : ∀ v' w', Up W ao b o c olds w' v' (ks ++ news) → wpList Tryd.prog ops Q rest (a.put op.dst v') w') : wpList Tryd.prog ops Q (op :: rest) a w := by
  obtain ⟨i0, hi, hz0, hz1, hz2⟩ := info_parts (show (Tryd.prog.info? 5).map (fun i => (i.zero, i.size, i.bytes)) = some (some (.int .u8 0), 1, 1) by kernel_rfl)
  obtain ⟨r, h⟩ := h
  refine wpList_append_upon w hgd s x t tx ho hc i0 (.int .u8 0) 1 ht hi hz0 hz1 hz2 rfl hv h xv news.length (bc news) hx hs (by unfold maxLen; omega) (by omega) fun v' w' h' => hK v' w' ⟨Upon.next olds.length c 1 ks.length r news.length, ?_⟩
  rw [List.length_append, bc_append]
  exact h'

end

/-- The rows of the table of powers of ten; of the cheats of leftShift. -/
def p10hi (i : Nat) : Nat := (Go.Pinned.pow10Rows.getD i (0, 0)).1
def p10lo (i : Nat) : Nat := (Go.Pinned.pow10Rows.getD i (0, 0)).2
def chDelta (k : Nat) : Nat := (Go.Pinned.cheatRows.getD k (0, [])).1
def chCut (k : Nat) : List UInt8 := (Go.Pinned.cheatRows.getD k (0, [])).2

/-- The package's tables, where the program lays them, in blocks below B. -/
structure Tabs (B : Nat) (w : World) : Prop where
  lo : 5 ≤ B
  le : B ≤ w.heap.size
  opt : w.cell? ⟨1, 0, none⟩ = some (.bool true)
  u10 : Lib.TabIs Tryd.prog w "internal/strconv.uint64pow10" .u64 Lib.pow10Tab
  tab : ∀ i, i < 696 → w.cell? ⟨3, 2 * i, none⟩ = some (.int .u64 (p10hi i : Int)) ∧ w.cell? ⟨3, 2 * i + 1, none⟩ = some (.int .u64 (p10lo i : Int))
  cheats : ∃ ab ao ac, ab < B ∧ w.cell? ⟨4, 0, none⟩ = some (.slice (some ⟨ab, ao, none⟩) 61 ac) ∧
    ∀ k, k < 61 → w.cell? ⟨ab, ao + 2 * k, none⟩ = some (.int .i64 (chDelta k : Int)) ∧ w.cell? ⟨ab, ao + 2 * k + 1, none⟩ = some (.string ⟨(chCut k).toArray⟩)

theorem Tabs.kept {B : Nat} {w w' : World} (h : Tabs B w) {may : MemPlace → Prop} (hk : w.keptBut w' may) (hm : ∀ p, p.block < B → ¬ may p) : Tabs B w' := by
  have hlo := h.lo
  have hle := h.le
  have hcell : ∀ b o, b < B → w'.cell? ⟨b, o, none⟩ = w.cell? ⟨b, o, none⟩ := fun b o hb => hk.cell (by omega) (hm (.cell b o) hb)
  refine ⟨hlo, Nat.le_trans hle hk.size, (hcell 1 0 (by omega)).trans h.opt, ?_, fun i hi => ⟨(hcell 3 _ (by omega)).trans (h.tab i hi).1, (hcell 3 _ (by omega)).trans (h.tab i hi).2⟩, ?_⟩
  · have hg : Tryd.prog.globalNamed "internal/strconv.uint64pow10" = some 2 := by kernel_rfl
    have := h.u10
    unfold Lib.TabIs World.var? at this ⊢
    rw [hg] at this ⊢
    simp only [Option.bind_some] at this ⊢
    rw [hk.block (by omega) (fun p hp e => hm p (by omega) hp)]
    exact this
  · obtain ⟨ab, ao, ac, h1, h3, h4⟩ := h.cheats
    exact ⟨ab, ao, ac, h1, (hcell 4 0 (by omega)).trans h3, fun k hlt => ⟨(hcell ab _ h1).trans (h4 k hlt).1, (hcell ab _ h1).trans (h4 k hlt).2⟩⟩

/-- No old block has turned. -/
def Still (w w' : World) : Prop := w.keptBut w' (fun _ => False)
theorem Still.refl (w : World) : Still w w := World.keptBut_refl _ _
theorem Still.trans {a b c : World} (h : Still a b) (h' : Still b c) : Still a c := World.keptBut_trans h h'
theorem Still.alloc {a b : World} (h : Still a b) (o : Obj) : Still a (b.alloc o) := World.keptBut_trans h (World.keptBut_alloc _ _ _)
theorem Still.drew {a b : World} (h : Still a b) : Still a b.drew := h
theorem Still.drewN {a b : World} (h : Still a b) (n : Nat) : Still a (b.drewN n) := h
theorem Still.tabs {B : Nat} {a b : World} (h : Still a b) (ht : Tabs B a) : Tabs B b := ht.kept h (fun _ _ f => f)
theorem Still.cell {a b : World} (h : Still a b) {p : Addr} {v : Value} (hc : a.cell? p = some v) : b.cell? p = some v := by
  have hlt : p.block < a.heap.size := World.block_lt_of_cell? _ _ hc
  have := (hk_cell h hlt)
  exact this.trans hc
where
  hk_cell {a b : World} {p : Addr} (h : Still a b) (hlt : p.block < a.heap.size) : b.cell? p = a.cell? p := by
    have hb := World.keptBut.block h hlt (fun _ hp => hp.elim)
    exact World.cell?_of_block (a := p) hb
theorem Still.setCell {a b : World} (h : Still a b) {p : Addr} (hp : a.heap.size ≤ p.block) (v : Value) : Still a (b.setCell p v) :=
  keptBut_then h (World.keptBut_setCell b p v (may := fun q => q = .cell p.block p.off) rfl) (fun q hq => Or.inr (by rw [hq]; exact hp))
theorem Still.below {a b : World} (h : Below a.heap.size a b) : Still a b := h.frame _

end Go.Proofs.YthfjpofbaeeafaaDoor
