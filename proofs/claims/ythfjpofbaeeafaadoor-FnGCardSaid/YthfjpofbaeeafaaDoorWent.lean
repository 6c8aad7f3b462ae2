/-
  A slice that is appended to again and again, told by one relation ('Went'), and the law of append over it.
-/
import Derived.Test.YthfjpofbaeeafaaDoorInts
namespace Go.Proofs.YthfjpofbaeeafaaDoor
open Go.RowKit

/-- From the world W, in which the slice at offset o of block g (room for c) held 'olds', 'ks' has been appended: the slice now lies at o1 in g1. -/
structure Went (W : World) (g o c : Nat) (olds ks : List UInt8) (n g1 o1 c1 : Nat) (w : World) : Prop where
  row : Row w (.slice (some ⟨g1, o1, none⟩) n c1) (olds ++ ks) g1 o1 c1
  lies : (g1 = g ∧ o1 = o ∧ c1 = c) ∨ (W.heap.size ≤ g1 ∧ o1 = 0 ∧ c < olds.length + ks.length)
  kept : W.keptBut w (fun p => ∃ j, olds.length ≤ j ∧ j < c ∧ p = .cell g (o + j))

theorem Row.len {w : World} {xs : List UInt8} {g o c n : Nat} {a : Option Addr} {k : Nat} (h : Row w (.slice a n k) xs g o c) : n = xs.length ∧ k = c ∧ a = some ⟨g, o, none⟩ := by
  have := h.val
  simp only [Value.slice.injEq] at this
  exact ⟨this.2.1, this.2.2, this.1⟩

section
variable {W w : World} {g o c n g1 o1 c1 : Nat} {olds ks : List UInt8}

theorem Went.refl {v : Value} (h : Row W v olds g o c) : Went W g o c olds [] olds.length g o c W :=
  ⟨by rw [List.append_nil, ← h.val]; exact h, .inl ⟨rfl, rfl, rfl⟩, World.keptBut_refl _ _⟩

theorem Went.len (h : Went W g o c olds ks n g1 o1 c1 w) : n = olds.length + ks.length := by
  have := h.row.len.1
  rwa [List.length_append] at this

theorem Went.res (h : Went W g o c olds ks n g1 o1 c1 w) : AppRes W g o c olds ks (.returned (.slice (some ⟨g1, o1, none⟩) n c1)) w :=
  ⟨_, g1, o1, c1, rfl, h.row, h.lies, h.kept⟩

theorem Went.of_res {e : Ending} (h : AppRes W g o c olds ks e w) : ∃ n g1 o1 c1, e = .returned (.slice (some ⟨g1, o1, none⟩) n c1) ∧ Went W g o c olds ks n g1 o1 c1 w := by
  obtain ⟨v', g', o', c', rfl, hr, hg, hk⟩ := h
  exact ⟨(olds ++ ks).length, g', o', c', by rw [hr.val], by rw [← hr.val]; exact hr, hg, hk⟩

theorem Went.then {w2 : World} {k2 : List UInt8} {n2 g2 o2 c2 : Nat} (h : Went W g o c olds ks n g1 o1 c1 w) (h2 : Went w g1 o1 c1 (olds ++ ks) k2 n2 g2 o2 c2 w2) : Went W g o c olds (ks ++ k2) n2 g2 o2 c2 w2 := by
  obtain ⟨v', g', o', c', he, hr, hg, hk⟩ := AppRes.then h.lies h.kept h2.res
  have hv := hr.val
  simp only [Ending.returned.injEq] at he
  rw [← he] at hv hr
  obtain ⟨_, rfl, e3⟩ := hr.len
  simp only [Option.some.injEq, Addr.mk.injEq, and_true] at e3
  obtain ⟨rfl, rfl⟩ := e3
  exact ⟨hr, hg, hk⟩

theorem Went.still {w2 : World} (h : Went W g o c olds ks n g1 o1 c1 w) (hs : Still w w2) : Went W g o c olds ks n g1 o1 c1 w2 :=
  ⟨h.row.still hs, h.lies, World.keptBut_trans h.kept (World.keptBut_mono (fun _ f => f.elim) hs)⟩

theorem Went.since {W0 : World} (h : Went W g o c olds ks n g1 o1 c1 w) (hs : Still W0 W) : Went W0 g o c olds ks n g1 o1 c1 w :=
  ⟨h.row, h.lies.imp id (fun ⟨a, b⟩ => ⟨Nat.le_trans hs.size a, b⟩), keptBut_then (World.keptBut_mono (fun _ f => f.elim) hs) h.kept (fun _ hp => Or.inl hp)⟩

theorem Went.tabs {B : Nat} (h : Went W g o c olds ks n g1 o1 c1 w) (ht : Tabs B W) (hB : B ≤ g) : Tabs B w :=
  ht.kept h.kept (fun p hp ⟨j, _, _, e⟩ => by rw [e] at hp; exact absurd hp (by show ¬ g < B; omega))

theorem Went.above {B : Nat} (h : Went W g o c olds ks n g1 o1 c1 w) (ht : Tabs B W) (hB : B ≤ g) : B ≤ g1 := by
  have := ht.le
  rcases h.lies with ⟨a, _⟩ | ⟨a, _⟩ <;> omega

theorem Went.pos (h : Went W g o c olds ks n g1 o1 c1 w) (hc : 0 < c) : 0 < c1 := by
  have := h.row.le
  rw [List.length_append] at this
  rcases h.lies with ⟨_, _, a⟩ | ⟨_, _, a⟩ <;> omega

theorem Went.cell (h : Went W g o c olds ks n g1 o1 c1 w) {b' o' : Nat} (hb : b' < W.heap.size) (hn : b' ≠ g) : w.cell? ⟨b', o', none⟩ = W.cell? ⟨b', o', none⟩ :=
  h.kept.cell hb (fun ⟨j, _, _, e⟩ => by simp only [MemPlace.cell.injEq] at e; exact hn e.1)

/-- THE LAW OF append. -/
theorem wpList_went {w0 : World} {ops : Array Oper} {rest : List Oper} {op : Oper} {a : Act} {Q : Exit → Act → World → Prop} (hgd : op.guard = none) (s x : Operand) (t tx : TypeId)
    (ho : op.op = .call { callee := .builtin .append, args := #[s, x], argTypes := #[t, tx] }) (ht : Tryd.prog.underlying t = some (.slice 5))
    (h : Went W g o c olds ks n g1 o1 c1 w) (hc0 : 0 < c) (hst : Still w w0) (hv : a.eval s = .slice (some ⟨g1, o1, none⟩) n c1)
    (xv : Value) (news : List UInt8) (hx : a.eval x = xv) (hs : Src Tryd.prog 1 tx xv news.length (bc news) w0) (hlim : olds.length + ks.length + news.length ≤ 1000000000)
    (hK : ∀ n2 g2 o2 c2 w2, Went W g o c olds (ks ++ news) n2 g2 o2 c2 w2 → wpList Tryd.prog ops Q rest (a.put op.dst (.slice (some ⟨g2, o2, none⟩) n2 c2)) w2) : wpList Tryd.prog ops Q (op :: rest) a w0 := by
  have h1 := h.still hst
  have hr := h1.row
  have hcm := hr.came
  obtain ⟨hn, _, _⟩ := hr.len
  have hst' := Up.start hcm
  rw [← hn] at hst'
  refine wpList_up w0 hgd s x t tx ho ht hcm hv hst' xv news hx hs (by rw [List.length_append]; simp; omega) fun v' w' hup => ?_
  obtain ⟨n2, g2, o2, c2, he, hw⟩ := Went.of_res (Up.res hr (h1.pos hc0) hup)
  simp only [Ending.returned.injEq] at he
  rw [he]
  exact hK n2 g2 o2 c2 w' (h1.then hw)
end

theorem src_one' (w : World) (x : Int) (b : UInt8) (hx : x = (b.toNat : Int)) (t : TypeId) (ht : Tryd.prog.underlying t = some (.slice 5)) : Src Tryd.prog 1 t (.slice (some ⟨w.heap.size, 0, none⟩) 1 1) 1 (bc [b]) (w.alloc (.cells #[.int .u8 x] 5)) := by
  rw [hx]; exact src_one w b t ht

theorem src_two (w : World) (x y : Int) (b d : UInt8) (hx : x = (b.toNat : Int)) (hy : y = (d.toNat : Int)) (t : TypeId) (ht : Tryd.prog.underlying t = some (.slice 5)) :
    Src Tryd.prog 1 t (.slice (some ⟨w.heap.size, 0, none⟩) 2 2) 2 (bc [b, d]) (w.alloc (.cells #[.int .u8 x, .int .u8 y] 5)) := by
  rw [hx, hy]
  refine Src.ofSlice _ ht _ _ _ _ rfl (fun j u hj => ?_) (bc_one _)
  match j, hj with
  | 0, hj =>
    simp [bc] at hj
    subst hj
    rw [Addr.add_lit, Nat.zero_add]
    exact (World.cell?_alloc_new w _ _ 0).trans (by simp)
  | 1, hj =>
    simp [bc] at hj
    subst hj
    rw [Addr.add_lit, Nat.zero_add]
    exact (World.cell?_alloc_new w _ _ 1).trans (by simp)
  | j + 2, hj => simp [bc] at hj

theorem src_three (w : World) (x y z : Int) (b d e : UInt8) (hx : x = (b.toNat : Int)) (hy : y = (d.toNat : Int)) (hz : z = (e.toNat : Int)) (t : TypeId) (ht : Tryd.prog.underlying t = some (.slice 5)) :
    Src Tryd.prog 1 t (.slice (some ⟨w.heap.size, 0, none⟩) 3 3) 3 (bc [b, d, e]) (w.alloc (.cells #[.int .u8 x, .int .u8 y, .int .u8 z] 5)) := by
  rw [hx, hy, hz]
  refine Src.ofSlice _ ht _ _ _ _ rfl (fun j u hj => ?_) (bc_one _)
  match j, hj with
  | 0, hj =>
    simp [bc] at hj
    subst hj
    rw [Addr.add_lit, Nat.zero_add]
    exact (World.cell?_alloc_new w _ _ 0).trans (by simp)
  | 1, hj =>
    simp [bc] at hj
    subst hj
    rw [Addr.add_lit, Nat.zero_add]
    exact (World.cell?_alloc_new w _ _ 1).trans (by simp)
  | 2, hj =>
    simp [bc] at hj
    subst hj
    rw [Addr.add_lit, Nat.zero_add]
    exact (World.cell?_alloc_new w _ _ 2).trans (by simp)
  | j + 3, hj => simp [bc] at hj

theorem src_four (w : World) (x y z t4 : Int) (b d e f : UInt8) (hx : x = (b.toNat : Int)) (hy : y = (d.toNat : Int)) (hz : z = (e.toNat : Int)) (ht4 : t4 = (f.toNat : Int)) (t : TypeId) (ht : Tryd.prog.underlying t = some (.slice 5)) :
    Src Tryd.prog 1 t (.slice (some ⟨w.heap.size, 0, none⟩) 4 4) 4 (bc [b, d, e, f]) (w.alloc (.cells #[.int .u8 x, .int .u8 y, .int .u8 z, .int .u8 t4] 5)) := by
  rw [hx, hy, hz, ht4]
  refine Src.ofSlice _ ht _ _ _ _ rfl (fun j u hj => ?_) (bc_one _)
  match j, hj with
  | 0, hj =>
    simp [bc] at hj
    subst hj
    rw [Addr.add_lit, Nat.zero_add]
    exact (World.cell?_alloc_new w _ _ 0).trans (by simp)
  | 1, hj =>
    simp [bc] at hj
    subst hj
    rw [Addr.add_lit, Nat.zero_add]
    exact (World.cell?_alloc_new w _ _ 1).trans (by simp)
  | 2, hj =>
    simp [bc] at hj
    subst hj
    rw [Addr.add_lit, Nat.zero_add]
    exact (World.cell?_alloc_new w _ _ 2).trans (by simp)
  | 3, hj =>
    simp [bc] at hj
    subst hj
    rw [Addr.add_lit, Nat.zero_add]
    exact (World.cell?_alloc_new w _ _ 3).trans (by simp)
  | j + 4, hj => simp [bc] at hj

end Go.Proofs.YthfjpofbaeeafaaDoor
