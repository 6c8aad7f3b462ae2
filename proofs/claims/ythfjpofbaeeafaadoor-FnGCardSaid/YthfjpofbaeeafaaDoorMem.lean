/-
  What is known of a slice of bytes in memory ('Row'), what append does to it ('Up': the kit's 'Upon' at bytes), and the law of append in the walk.
-/
import Derived.Test.YthfjpofbaeeafaaDoorSmall
import Derived.Deep.Upon
import Derived.Lib.UnsafeStr
namespace Go.Proofs.YthfjpofbaeeafaaDoor
open Go.RowKit Go.Lib

/-- Bytes as cells. -/
def bc (l : List UInt8) : List Value := l.map fun b => Value.int .u8 (b.toNat : Int)
theorem bc_length (l : List UInt8) : (bc l).length = l.length := by simp [bc]
theorem bc_append (a b : List UInt8) : bc (a ++ b) = bc a ++ bc b := by simp [bc]
theorem bc_get (l : List UInt8) (i : Nat) (h : i < l.length) : (bc l)[i]? = some (.int .u8 ((l[i]).toNat : Int)) := by simp [bc, h]
theorem bc_one (l : List UInt8) : ∀ v ∈ bc l, v.oneCell' = true := by
  intro v hv
  obtain ⟨b, _, rfl⟩ := List.mem_map.1 hv
  rfl

/-- The slice v of bytes holds xs; its array lies at offset o of block g, with room for c elements; none of them is frozen. -/
structure Row (w : World) (v : Value) (xs : List UInt8) (g o c : Nat) : Prop where
  val : v = .slice (some ⟨g, o, none⟩) xs.length c
  le : xs.length ≤ c
  max : c ≤ maxLen
  get : ∀ i, i < xs.length → w.cell? ⟨g, o + i, none⟩ = (bc xs)[i]?
  there : ∀ j, j < c → (w.cell? ⟨g, o + j, none⟩).isSome = true ∧ w.frozen? ⟨g, o + j, none⟩ = false

theorem Row.lt {w : World} {v : Value} {xs : List UInt8} {g o c : Nat} (h : Row w v xs g o c) (h0 : 0 < c) : g < w.heap.size :=
  World.block_lt_of_cell? _ _ (Option.isSome_iff_exists.1 (h.there 0 h0).1).choose_spec

theorem Row.came {w : World} {v : Value} {xs : List UInt8} {g o c : Nat} (h : Row w v xs g o c) : Came w 1 (some ⟨g, o, none⟩) g o xs.length c (bc xs) where
  le := h.le
  addr := fun _ => rfl
  lt := h.lt
  oldsLen := by rw [bc_length, Nat.mul_one]
  olds := fun j u hj => by
    have hl : j < (bc xs).length := (List.getElem?_eq_some_iff.1 hj).1
    rw [bc_length] at hl
    rw [h.get j hl, hj]
  spare := fun j hj => by
    have := h.there (xs.length + j) (by omega)
    rw [Nat.mul_one, Nat.add_assoc]; exact this

theorem Row.src {w : World} {v : Value} {xs : List UInt8} {g o c : Nat} (h : Row w v xs g o c) (t : TypeId) (ht : Tryd.prog.underlying t = some (.slice 5)) :
    Src Tryd.prog 1 t v xs.length (bc xs) w := by
  rw [h.val]
  refine Src.ofSlice w ht _ _ _ _ (by rw [bc_length, Nat.mul_one]) (fun j u hj => ?_) (bc_one xs)
  have hl : j < (bc xs).length := (List.getElem?_eq_some_iff.1 hj).1
  rw [bc_length] at hl
  rw [Addr.add_lit, h.get j hl, hj]

/-- What stands in new blocks may turn as it likes. -/
theorem keptBut_old {w w' : World} {may : MemPlace → Prop} (h : w.keptBut w' (fun p => may p ∨ w.heap.size ≤ p.block)) : w.keptBut w' may := by
  refine ⟨h.1, h.2.1, fun i hi => ?_⟩
  have := h.2.2 i hi
  split at this
  · obtain ⟨h1, h2, h3, h4⟩ := this
    exact ⟨h1, h2, h3, fun j hj => h4 j (fun e => by
      rcases e with e | e
      · exact hj e
      · have e' : w.heap.size ≤ i := e
        omega)⟩
  · rcases this with (e | e) | e
    · exact Or.inl e
    · have e' : w.heap.size ≤ i := e
      omega
    · exact Or.inr e
  · exact this
theorem keptBut_then {a b c : World} {may may' : MemPlace → Prop} (h : a.keptBut b may) (h' : b.keptBut c may') (hm : ∀ p, may' p → may p ∨ a.heap.size ≤ p.block) : a.keptBut c may :=
  keptBut_old (World.keptBut_trans (World.keptBut_mono (fun _ hp => Or.inl hp) h) (World.keptBut_mono hm h'))

theorem keptBut_frozen {w w' : World} {may : MemPlace → Prop} (h : w.keptBut w' may) {a : Addr} (ha : a.block < w.heap.size) : w'.frozen? a = w.frozen? a := by
  have := h.2.2 a.block ha
  unfold World.frozen?
  split at this
  · rename_i h1 h2
    rw [h1, h2, this.2.1]
  · rename_i h1 h2
    rw [h1, h2]
  · rw [this]

/-- All but the first byte of a row. -/
theorem Row.tail {w : World} {v : Value} {x : UInt8} {xs : List UInt8} {g o c : Nat} (h : Row w v (x :: xs) g o c) : Row w (.slice (some ⟨g, o + 1, none⟩) xs.length (c - 1)) xs g (o + 1) (c - 1) := by
  have hle := h.le
  rw [List.length_cons] at hle
  refine ⟨rfl, by omega, by have := h.max; omega, fun i hi => ?_, fun j hj => ?_⟩
  · rw [show o + 1 + i = o + (i + 1) by omega, h.get (i + 1) (by simpa using hi)]
    simp [bc]
  · rw [show o + 1 + j = o + (j + 1) by omega]
    exact h.there (j + 1) (by omega)

/-- 'ks' has been appended to a slice that held 'olds' in W. -/
def Up (W : World) (ao : Option Addr) (b o c : Nat) (olds : List UInt8) (w : World) (v : Value) (ks : List UInt8) : Prop :=
  ∃ r, Upon W 5 1 ao b o olds.length c (bc olds) w v ks.length (bc ks) r

section
variable {W : World} {ao : Option Addr} {b o c : Nat} {olds : List UInt8} {w : World} {v : Value} {ks : List UInt8}

theorem Up.start (hc : Came W 1 ao b o olds.length c (bc olds)) : Up W ao b o c olds W (.slice ao olds.length c) [] := ⟨0, Upon.start hc⟩
theorem Up.alloc (h : Up W ao b o c olds w v ks) (hc : Came W 1 ao b o olds.length c (bc olds)) (ob : Obj) : Up W ao b o c olds (w.alloc ob) v ks := by
  obtain ⟨r, h⟩ := h; exact ⟨r, h.alloc hc ob⟩
theorem Up.drew (h : Up W ao b o c olds w v ks) (hc : Came W 1 ao b o olds.length c (bc olds)) : Up W ao b o c olds w.drew v ks := by
  obtain ⟨r, h⟩ := h; exact ⟨r, h.drew hc⟩
theorem Up.kept (h : Up W ao b o c olds w v ks) : W.keptBut w (fun p => ∃ j, olds.length ≤ j ∧ j < c ∧ p = .cell b (o + j)) := by
  obtain ⟨r, h⟩ := h
  refine World.keptBut_mono (fun p ⟨j, hj, hp⟩ => ⟨olds.length + j, by omega, ?_, ?_⟩) h.kept
  · have := h.rFit; omega
  · rw [hp, Nat.mul_one, Nat.add_assoc]
theorem Up.cell (h : Up W ao b o c olds w v ks) {b' o' : Nat} (hb : b' < W.heap.size) (hn : b' ≠ b ∨ o' < o + olds.length ∨ o + c ≤ o') : w.cell? ⟨b', o', none⟩ = W.cell? ⟨b', o', none⟩ :=
  h.kept.cell hb (fun ⟨j, h1, h2, e⟩ => by simp only [MemPlace.cell.injEq] at e; omega)
theorem Up.frozen (h : Up W ao b o c olds w v ks) (a : Addr) (ha : a.block < W.heap.size) : w.frozen? a = W.frozen? a := by
  obtain ⟨r, h⟩ := h; exact h.frozen a ha
theorem Up.size (h : Up W ao b o c olds w v ks) : W.heap.size ≤ w.heap.size := h.kept.size
theorem Up.shape (h : Up W ao b o c olds w v ks) : ∃ a' c', v = .slice a' (olds.length + ks.length) c' := by
  obtain ⟨r, h⟩ := h; exact h.shape

/-- Behind the appends: the slice lies where it lay, or in a new block. -/
theorem Up.row (h : Up W ao b o c olds w v ks) (hc : Came W 1 ao b o olds.length c (bc olds)) (hz : ∀ j, j < olds.length → W.frozen? ⟨b, o + j, none⟩ = false) (hmax : c ≤ maxLen) (hpos : 0 < c ∨ 0 < ks.length) :
    ∃ g' o' c', Row w v (olds ++ ks) g' o' c' ∧ ((g' = b ∧ o' = o ∧ c' = c) ∨ (W.heap.size ≤ g' ∧ o' = 0 ∧ c < olds.length + ks.length)) := by
  obtain ⟨r, h⟩ := h
  rcases h.val with ⟨hle, hv, hr⟩ | ⟨hgt, g, c', hv, ho⟩
  · have hcap : 0 < c := by omega
    refine ⟨b, o, c, ⟨?_, by simpa using hle, hmax, fun i hi => ?_, fun j hj => ?_⟩, .inl ⟨rfl, rfl, rfl⟩⟩
    · rw [hv, hc.addr hcap, List.length_append]
    · rw [h.inArray hc hcap hr i (by simpa using hi), bc_append]
    · have hb := hc.lt hcap
      constructor
      · by_cases hjo : j < olds.length
        · have e := h.inArray hc hcap hr j (by omega)
          rw [e, ← bc_append, List.getElem?_eq_getElem (by rw [bc_length, List.length_append]; omega)]
          rfl
        · by_cases hw : j - olds.length < r
          · have e := h.written (j - olds.length) hw
            rw [Nat.mul_one, show o + olds.length + (j - olds.length) = o + j by omega] at e
            have := h.rLe
            rw [e, List.getElem?_eq_getElem (by omega)]
            rfl
          · have e := h.old (b' := b) (o' := o + j) hb (fun j' hj' ⟨_, e'⟩ => by omega)
            rw [e]
            have := (hc.spare (j - olds.length) (by omega)).1
            rwa [Nat.mul_one, show o + olds.length + (j - olds.length) = o + j by omega] at this
      · rw [h.frozen _ hb]
        by_cases hjo : j < olds.length
        · exact hz j hjo
        · have := (hc.spare (j - olds.length) (by omega)).2
          rwa [Nat.mul_one, show o + olds.length + (j - olds.length) = o + j by omega] at this
  · refine ⟨g, 0, c', ⟨by rw [hv, List.length_append], by simpa using ho.le, ho.max, fun i hi => ?_, fun j hj => ?_⟩, .inr ⟨ho.new, rfl, hgt⟩⟩
    · rw [Nat.zero_add, ho.holds i (by simpa using hi), bc_append]
    · rw [Nat.zero_add]; exact ho.there j (by omega)

/-- THE LAW OF append IN THE WALK, at bytes. -/
theorem wpList_up (w : World) {ops : Array Oper} {rest : List Oper} {op : Oper} {a : Act} {Q : Exit → Act → World → Prop} (hgd : op.guard = none) (s x : Operand) (t tx : TypeId)
    (ho : op.op = .call { callee := .builtin .append, args := #[s, x], argTypes := #[t, tx] }) (ht : Tryd.prog.underlying t = some (.slice 5))
    {W : World} {ao : Option Addr} {b o c : Nat} {olds : List UInt8} (hc : Came W 1 ao b o olds.length c (bc olds))
    {v : Value} {ks : List UInt8} (hv : a.eval s = v) (h : Up W ao b o c olds w v ks)
    (xv : Value) (news : List UInt8) (hx : a.eval x = xv) (hs : Src Tryd.prog 1 tx xv news.length (bc news) w) (hlim : olds.length + ks.length + news.length ≤ 140737488355328)
    (hK : ∀ v' w', Up W ao b o c olds w' v' (ks ++ news) → wpList Tryd.prog ops Q rest (a.put op.dst v') w') : wpList Tryd.prog ops Q (op :: rest) a w := by
  obtain ⟨i0, hi, hz0, hz1, hz2⟩ := info_parts (show (Tryd.prog.info? 5).map (fun i => (i.zero, i.size, i.bytes)) = some (some (.int .u8 0), 1, 1) by kernel_rfl)
  obtain ⟨r, h⟩ := h
  refine wpList_append_upon w hgd s x t tx ho hc i0 (.int .u8 0) 1 ht hi hz0 hz1 hz2 rfl hv h xv news.length (bc news) hx hs (by unfold maxLen; omega) (by omega) fun v' w' h' => hK v' w' ⟨Upon.next olds.length c 1 ks.length r news.length, ?_⟩
  rw [List.length_append, bc_append]
  exact h'

end
end Go.Proofs.YthfjpofbaeeafaaDoor
