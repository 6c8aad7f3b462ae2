/-
  A slice that is appended to again and again, told by one relation ('Went'), and the law of append over it.
  fmtB: an integer, p, and a power of two.
  fmtX without a precision: what it writes, and the small facts that its walk asks for.
  fmtEFG: what it writes, and the small facts that its walk asks for.
  fmtEFG for the verbs g and G: which form it takes.
-/
import Derived.Test.YthfjpofbaeeafaaDoorInts
namespace Go.Proofs.YthfjpofbaeeafaaDoor
open Go.RowKit

/-- From the world W, in which the slice at offset o of block g (room for c) held 'olds', 'ks' has been appended: the slice now lies at o1 in g1. -/
structure Went (W : World) (g o c : Nat) (olds ks : List UInt8) (n g1 o1 c1 : Nat) (w : World) : Prop where
  row : Row w (.slice (some ⟨g1, o1, none⟩) n c1) (olds ++ ks) g1 o1 c1
  lies : (g1 = g ∧ o1 = o ∧ c1 = c) ∨ (W.heap.size ≤ g1 ∧ o1 = 0 ∧ c < olds.length + ks.length)
  kept : W.keptBut w (fun p => ∃ j, olds.length ≤ j ∧ j < c ∧ p = .cell g (o + j))

theorem Row.len {w : World} {xs : List UInt8} {g o c n : Nat} {a : Option Addr} {k : Nat} (h : Row w (.slice a n k) xs g o c) : n = xs.length ∧ k = c ∧ a = some ⟨g, o, none⟩ := by
  have := h.val
  simp only [Value.slice.injEq] at this
  exact ⟨this.2.1, this.2.2, this.1⟩

section
variable {W w : World} {g o c n g1 o1 c1 : Nat} {olds ks : List UInt8}

theorem Went.refl {v : Value} (h : Row W v olds g o c) : Went W g o c olds [] olds.length g o c W :=
  ⟨by rw [List.append_nil, ← h.val]; exact h, .inl ⟨rfl, rfl, rfl⟩, World.keptBut_refl _ _⟩

theorem Went.len (h : Went W g o c olds ks n g1 o1 c1 w) : n = olds.length + ks.length := by
  have := h.row.len.1
  rwa [List.length_append] at this

theorem Went.res (h : Went W g o c olds ks n g1 o1 c1 w) : AppRes W g o c olds ks (.returned (.slice (some ⟨g1, o1, none⟩) n c1)) w :=
  ⟨_, g1, o1, c1, rfl, h.row, h.lies, h.kept⟩

theorem Went.of_res {e : Ending} (h : AppRes W g o c olds ks e w) : ∃ n g1 o1 c1, e = .returned (.slice (some ⟨g1, o1, none⟩) n c1) ∧ Went W g o c olds ks n g1 o1 c1 w := by
  obtain ⟨v', g', o', c', rfl, hr, hg, hk⟩ := h
  exact ⟨(olds ++ ks).length, g', o', c', by rw [hr.val], by rw [← hr.val]; exact hr, hg, hk⟩

theorem Went.then {w2 : World} {k2 : List UInt8} {n2 g2 o2 c2 : Nat} (h : Went W g o c olds ks n g1 o1 c1 w) (h2 : Went w g1 o1 c1 (olds ++ ks) k2 n2 g2 o2 c2 w2) : Went W g o c olds (ks ++ k2) n2 g2 o2 c2 w2 := by
  obtain ⟨v', g', o', c', he, hr, hg, hk⟩ := AppRes.then h.lies h.kept h2.res
  have hv := hr.val
  simp only [Ending.returned.injEq] at he
  rw [← he] at hv hr
  obtain ⟨_, rfl, e3⟩ := hr.len
  simp only [Option.some.injEq, Addr.mk.injEq, and_true] at e3
  obtain ⟨rfl, rfl⟩ := e3
  exact ⟨hr, hg, hk⟩

theorem Went.still {w2 : World} (h : Went W g o c olds ks n g1 o1 c1 w) (hs : Still w w2) : Went W g o c olds ks n g1 o1 c1 w2 :=
  ⟨h.row.still hs, h.lies, World.keptBut_trans h.kept (World.keptBut_mono (fun _ f => f.elim) hs)⟩

theorem Went.since {W0 : World} (h : Went W g o c olds ks n g1 o1 c1 w) (hs : Still W0 W) : Went W0 g o c olds ks n g1 o1 c1 w :=
  ⟨h.row, h.lies.imp id (fun ⟨a, b⟩ => ⟨Nat.le_trans hs.size a, b⟩), keptBut_then (World.keptBut_mono (fun _ f => f.elim) hs) h.kept (fun _ hp => Or.inl hp)⟩

theorem Went.tabs {B : Nat} (h : Went W g o c olds ks n g1 o1 c1 w) (ht : Tabs B W) (hB : B ≤ g) : Tabs B w :=
  ht.kept h.kept (fun p hp ⟨j, _, _, e⟩ => by rw [e] at hp; exact absurd hp (by show ¬ g < B; omega))

theorem Went.above {B : Nat} (h : Went W g o c olds ks n g1 o1 c1 w) (ht : Tabs B W) (hB : B ≤ g) : B ≤ g1 := by
  have := ht.le
  rcases h.lies with ⟨a, _⟩ | ⟨a, _⟩ <;> omega

theorem Went.pos (h : Went W g o c olds ks n g1 o1 c1 w) (hc : 0 < c) : 0 < c1 := by
  have := h.row.le
  rw [List.length_append] at this
  rcases h.lies with ⟨_, _, a⟩ | ⟨_, _, a⟩ <;> omega

theorem Went.cell (h : Went W g o c olds ks n g1 o1 c1 w) {b' o' : Nat} (hb : b' < W.heap.size) (hn : b' ≠ g) : w.cell? ⟨b', o', none⟩ = W.cell? ⟨b', o', none⟩ :=
  h.kept.cell hb (fun ⟨j, _, _, e⟩ => by simp only [MemPlace.cell.injEq] at e; exact hn e.1)

/-- THE LAW OF append. -/
theorem wpList_went {w0 : World} {ops : Array Oper} {rest : List Oper} {op : Oper} {a : Act} {Q : Exit → Act → World → Prop} (hgd : op.guard = none) (s x : Operand) (t tx : TypeId)
    (ho : op.op = .call { callee := .builtin .append, args := #[s, x], argTypes := #[t, tx] }) (ht : Tryd.prog.underlying t = some (.slice 5))
    (h : Went W g o c olds ks n g1 o1 c1 w) (hc0 : 0 < c) (hst : Still w w0) (hv : a.eval s = .slice (some ⟨g1, o1, none⟩) n c1)
    (xv : Value) (news : List UInt8) (hx : a.eval x = xv) (hs : Src Tryd.prog 1 tx xv news.length (bc news) w0) (hlim : olds.length + ks.length + news.length ≤ 1000000000)
    (hK : ∀ n2 g2 o2 c2 w2, Went W g o c olds (ks ++ news) n2 g2 o2 c2 w2 → wpList Tryd.prog ops Q rest (a.put op.dst (.slice (some ⟨g2, o2, none⟩) n2 c2)) w2) : wpList Tryd.prog ops Q (op :: rest) a w0 := by
  have h1 := h.still hst
  have hr := h1.row
  have hcm := hr.came
  obtain ⟨hn, _, _⟩ := hr.len
  have hst' := Up.start hcm
  rw [← hn] at hst'
  refine wpList_up w0 hgd s x t tx ho ht hcm hv hst' xv news hx hs (by rw [List.length_append]; simp; omega) fun v' w' hup => ?_
  obtain ⟨n2, g2, o2, c2, he, hw⟩ := Went.of_res (Up.res hr (h1.pos hc0) hup)
  simp only [Ending.returned.injEq] at he
  rw [he]
  exact hK n2 g2 o2 c2 w' (h1.then hw)
end

theorem src_one' (w : World) (x : Int) (b : UInt8) (hx : x = (b.toNat : Int)) (t : TypeId) (ht : Tryd.prog.underlying t = some (.slice 5)) : Src Tryd.prog 1 t (.slice (some ⟨w.heap.size, 0, none⟩) 1 1) 1 (bc [b]) (w.alloc (.cells #[.int .u8 x] 5)) := by
  rw [hx]; exact src_one w b t ht

theorem src_two (w : World) (x y : Int) (b d : UInt8) (hx : x = (b.toNat : Int)) (hy : y = (d.toNat : Int)) (t : TypeId) (ht : Tryd.prog.underlying t = some (.slice 5)) :
    Src Tryd.prog 1 t (.slice (some ⟨w.heap.size, 0, none⟩) 2 2) 2 (bc [b, d]) (w.alloc (.cells #[.int .u8 x, .int .u8 y] 5)) := by
  rw [hx, hy]
  refine Src.ofSlice _ ht _ _ _ _ rfl (fun j u hj => ?_) (bc_one _)
  match j, hj with
  | 0, hj =>
    simp [bc] at hj
    subst hj
    rw [Addr.add_lit, Nat.zero_add]
    exact (World.cell?_alloc_new w _ _ 0).trans (by simp)
  | 1, hj =>
    simp [bc] at hj
    subst hj
    rw [Addr.add_lit, Nat.zero_add]
    exact (World.cell?_alloc_new w _ _ 1).trans (by simp)
  | j + 2, hj => simp [bc] at hj

theorem src_three (w : World) (x y z : Int) (b d e : UInt8) (hx : x = (b.toNat : Int)) (hy : y = (d.toNat : Int)) (hz : z = (e.toNat : Int)) (t : TypeId) (ht : Tryd.prog.underlying t = some (.slice 5)) :
    Src Tryd.prog 1 t (.slice (some ⟨w.heap.size, 0, none⟩) 3 3) 3 (bc [b, d, e]) (w.alloc (.cells #[.int .u8 x, .int .u8 y, .int .u8 z] 5)) := by
  rw [hx, hy, hz]
  refine Src.ofSlice _ ht _ _ _ _ rfl (fun j u hj => ?_) (bc_one _)
  match j, hj with
  | 0, hj =>
    simp [bc] at hj
    subst hj
    rw [Addr.add_lit, Nat.zero_add]
    exact (World.cell?_alloc_new w _ _ 0).trans (by simp)
  | 1, hj =>
    simp [bc] at hj
    subst hj
    rw [Addr.add_lit, Nat.zero_add]
    exact (World.cell?_alloc_new w _ _ 1).trans (by simp)
  | 2, hj =>
    simp [bc] at hj
    subst hj
    rw [Addr.add_lit, Nat.zero_add]
    exact (World.cell?_alloc_new w _ _ 2).trans (by simp)
  | j + 3, hj => simp [bc] at hj

theorem src_four (w : World) (x y z t4 : Int) (b d e f : UInt8) (hx : x = (b.toNat : Int)) (hy : y = (d.toNat : Int)) (hz : z = (e.toNat : Int)) (ht4 : t4 = (f.toNat : Int)) (t : TypeId) (ht : Tryd.prog.underlying t = some (.slice 5)) :
    Src Tryd.prog 1 t (.slice (some ⟨w.heap.size, 0, none⟩) 4 4) 4 (bc [b, d, e, f]) (w.alloc (.cells #[.int .u8 x, .int .u8 y, .int .u8 z, .int .u8 t4] 5)) := by
  rw [hx, hy, hz, ht4]
  refine Src.ofSlice _ ht _ _ _ _ rfl (fun j u hj => ?_) (bc_one _)
  match j, hj with
  | 0, hj =>
    simp [bc] at hj
    subst hj
    rw [Addr.add_lit, Nat.zero_add]
    exact (World.cell?_alloc_new w _ _ 0).trans (by simp)
  | 1, hj =>
    simp [bc] at hj
    subst hj
    rw [Addr.add_lit, Nat.zero_add]
    exact (World.cell?_alloc_new w _ _ 1).trans (by simp)
  | 2, hj =>
    simp [bc] at hj
    subst hj
    rw [Addr.add_lit, Nat.zero_add]
    exact (World.cell?_alloc_new w _ _ 2).trans (by simp)
  | 3, hj =>
    simp [bc] at hj
    subst hj
    rw [Addr.add_lit, Nat.zero_add]
    exact (World.cell?_alloc_new w _ _ 3).trans (by simp)
  | j + 4, hj => simp [bc] at hj


/-- A minus sign, if the number has one. -/
def sgn (neg : Bool) : List UInt8 := if neg then [45] else []

/-- What fmtB writes. -/
def fmtBText (neg : Bool) (mant : Nat) (exp : Int) : List UInt8 := sgn neg ++ Lib.decDigits mant ++ [112] ++ (if 0 ≤ exp then [43] else []) ++ Lib.itoa exp

theorem decDigits_le (u : Nat) (h : U64 u) : (Lib.decDigits u).length ≤ 20 := by
  rw [Lib.decDigits_length]
  by_cases hu : 1 ≤ u
  · have := Lib.numDigits_eq u hu h; split at this <;> omega
  · rw [Lib.nDigits_small (by omega)]; omega

set_option maxRecDepth 100000 in
set_option maxHeartbeats 1000000 in
theorem fmtB_any (neg : Bool) (mant : Nat) (hm : U64 mant) (exp : Int) (h0 : -100000 < exp) (h1 : exp < 100000) (v : Value) (olds : List UInt8) (g o c : Nat) (w : World) (hr : Row w v olds g o c) (hc0 : 0 < c) (hl : olds.length + 100 ≤ 1000000)
    {B : Nat} (ht : Tabs B w) (hBg : B ≤ g) :
    Calls Tryd.prog 56 #[v, .bool neg, .int .u64 mant, .int .i64 exp] w (AppRes w g o c olds (fmtBText neg mant exp)) := by
  have hd := decDigits_le mant hm
  have hv := hr.val
  rw [hv]
  have hW := Went.refl hr
  have hs45 := fun w => src_one w 45 62 Tryd.underlying62
  have hs43 := fun w => src_one w 43 62 Tryd.underlying62
  have hs112 := fun w => src_one w 112 62 Tryd.underlying62
  clear hv
  cases neg
  · by_cases he : 0 ≤ exp
    · go_enter Tryd.func56, Tryd.ntmps56
      have hW0 := hW
      have hT0 := ht
      go_wp2_with fail
      refine (appendUint_any mant hm _ _ _ _ _ _ hW0.row (hW0.pos hc0) (by simp; omega) hT0).mono ?_
      intro e w1 hres
      obtain ⟨n1, g1, o1, c1, rfl, hw1⟩ := Went.of_res hres
      have hW1 := hW0.then hw1
      clear hres hw1
      go_wp2_with (at_builtin; refine wpList_went rfl _ _ 62 62 rfl Tryd.underlying62 hW1 hc0 ((Still.refl _).alloc _) rfl _ [112] rfl (hs112 _) (by simp; omega) ?_)
      intro n2 g2 o2 c2 w2 hW2
      go_wp2_with (at_builtin; refine wpList_went rfl _ _ 62 62 rfl Tryd.underlying62 hW2 hc0 ((Still.refl _).alloc _) rfl _ [43] rfl (hs43 _) (by simp; omega) ?_)
      intro n3 g3 o3 c3 w3 hW3
      have hT3 := hW3.tabs ht hBg
      have hB3 := hW3.above ht hBg
      have hp3 := hW3.pos hc0
      go_wp2_with fail
      refine (appendInt_any exp (by omega) (by omega) _ _ _ _ _ _ hW3.row hp3 (by simp; omega) hT3 hB3).mono ?_
      intro e w4 hres
      obtain ⟨n4, g4, o4, c4, rfl, hw4⟩ := Went.of_res hres
      have hW4 := (hW3.then hw4).res
      clear hres hw4
      have HW := Lib.hid hW4
      clear hW4
      go_wp2_with fail
      go_ret
      simpa [fmtBText, sgn, he] using HW.out
    · have he' : exp < 0 := by omega
      go_enter Tryd.func56, Tryd.ntmps56
      have hW0 := hW
      have hT0 := ht
      go_wp2_with fail
      refine (appendUint_any mant hm _ _ _ _ _ _ hW0.row (hW0.pos hc0) (by simp; omega) hT0).mono ?_
      intro e w1 hres
      obtain ⟨n1, g1, o1, c1, rfl, hw1⟩ := Went.of_res hres
      have hW1 := hW0.then hw1
      clear hres hw1
      go_wp2_with (at_builtin; refine wpList_went rfl _ _ 62 62 rfl Tryd.underlying62 hW1 hc0 ((Still.refl _).alloc _) rfl _ [112] rfl (hs112 _) (by simp; omega) ?_)
      intro n2 g2 o2 c2 w2 hW2
      have hW3 := hW2
      have hT3 := hW3.tabs ht hBg
      have hB3 := hW3.above ht hBg
      have hp3 := hW3.pos hc0
      go_wp2_with fail
      refine (appendInt_any exp (by omega) (by omega) _ _ _ _ _ _ hW3.row hp3 (by simp; omega) hT3 hB3).mono ?_
      intro e w4 hres
      obtain ⟨n4, g4, o4, c4, rfl, hw4⟩ := Went.of_res hres
      have hW4 := (hW3.then hw4).res
      clear hres hw4
      have HW := Lib.hid hW4
      clear hW4
      go_wp2_with fail
      go_ret
      have hne : ¬ 0 ≤ exp := by omega
      simpa [fmtBText, sgn, hne] using HW.out
  · by_cases he : 0 ≤ exp
    · go_enter Tryd.func56, Tryd.ntmps56
      go_wp2_with (at_builtin; refine wpList_went rfl _ _ 62 62 rfl Tryd.underlying62 hW hc0 ((Still.refl _).alloc _) rfl _ [45] rfl (hs45 _) (by simp; omega) ?_)
      intro n0 g0 o0 c0 w0 hW0
      have hT0 := hW0.tabs ht hBg
      go_wp2_with fail
      refine (appendUint_any mant hm _ _ _ _ _ _ hW0.row (hW0.pos hc0) (by simp; omega) hT0).mono ?_
      intro e w1 hres
      obtain ⟨n1, g1, o1, c1, rfl, hw1⟩ := Went.of_res hres
      have hW1 := hW0.then hw1
      clear hres hw1
      go_wp2_with (at_builtin; refine wpList_went rfl _ _ 62 62 rfl Tryd.underlying62 hW1 hc0 ((Still.refl _).alloc _) rfl _ [112] rfl (hs112 _) (by simp; omega) ?_)
      intro n2 g2 o2 c2 w2 hW2
      go_wp2_with (at_builtin; refine wpList_went rfl _ _ 62 62 rfl Tryd.underlying62 hW2 hc0 ((Still.refl _).alloc _) rfl _ [43] rfl (hs43 _) (by simp; omega) ?_)
      intro n3 g3 o3 c3 w3 hW3
      have hT3 := hW3.tabs ht hBg
      have hB3 := hW3.above ht hBg
      have hp3 := hW3.pos hc0
      go_wp2_with fail
      refine (appendInt_any exp (by omega) (by omega) _ _ _ _ _ _ hW3.row hp3 (by simp; omega) hT3 hB3).mono ?_
      intro e w4 hres
      obtain ⟨n4, g4, o4, c4, rfl, hw4⟩ := Went.of_res hres
      have hW4 := (hW3.then hw4).res
      clear hres hw4
      have HW := Lib.hid hW4
      clear hW4
      go_wp2_with fail
      go_ret
      simpa [fmtBText, sgn, he] using HW.out
    · have he' : exp < 0 := by omega
      go_enter Tryd.func56, Tryd.ntmps56
      go_wp2_with (at_builtin; refine wpList_went rfl _ _ 62 62 rfl Tryd.underlying62 hW hc0 ((Still.refl _).alloc _) rfl _ [45] rfl (hs45 _) (by simp; omega) ?_)
      intro n0 g0 o0 c0 w0 hW0
      have hT0 := hW0.tabs ht hBg
      go_wp2_with fail
      refine (appendUint_any mant hm _ _ _ _ _ _ hW0.row (hW0.pos hc0) (by simp; omega) hT0).mono ?_
      intro e w1 hres
      obtain ⟨n1, g1, o1, c1, rfl, hw1⟩ := Went.of_res hres
      have hW1 := hW0.then hw1
      clear hres hw1
      go_wp2_with (at_builtin; refine wpList_went rfl _ _ 62 62 rfl Tryd.underlying62 hW1 hc0 ((Still.refl _).alloc _) rfl _ [112] rfl (hs112 _) (by simp; omega) ?_)
      intro n2 g2 o2 c2 w2 hW2
      have hW3 := hW2
      have hT3 := hW3.tabs ht hBg
      have hB3 := hW3.above ht hBg
      have hp3 := hW3.pos hc0
      go_wp2_with fail
      refine (appendInt_any exp (by omega) (by omega) _ _ _ _ _ _ hW3.row hp3 (by simp; omega) hT3 hB3).mono ?_
      intro e w4 hres
      obtain ⟨n4, g4, o4, c4, rfl, hw4⟩ := Went.of_res hres
      have hW4 := (hW3.then hw4).res
      clear hres hw4
      have HW := Lib.hid hW4
      clear hW4
      go_wp2_with fail
      go_ret
      have hne : ¬ 0 ≤ exp := by omega
      simpa [fmtBText, sgn, hne] using HW.out

/-- A digit in base 16. -/
def hexd (upper : Bool) (d : Nat) : UInt8 := if d < 10 then UInt8.ofNat (48 + d) else if upper then UInt8.ofNat (55 + d) else UInt8.ofNat (87 + d)
/-- The digits of a fraction of 64 bits, up to the last one that is none. -/
def hexTail (upper : Bool) : Nat → Nat → List UInt8
  | 0, _ => []
  | k + 1, m => if m = 0 then [] else hexd upper (m / 2 ^ 60) :: hexTail upper k (m * 16 % 2 ^ 64)
def dch (d : Nat) : UInt8 := UInt8.ofNat (48 + d)
/-- An exponent of two digits or more. -/
def expX (a : Nat) : List UInt8 := if a < 100 then [dch (a / 10), dch (a % 10)] else if a < 1000 then [dch (a / 100), dch (a / 10 % 10), dch (a % 10)] else [dch (a / 1000), dch (a / 100 % 10), dch (a / 10 % 10), dch (a % 10)]
def fracX (upper : Bool) (m : Nat) : List UInt8 := if m = 0 then [] else 46 :: hexTail upper 16 m
/-- What fmtX writes: the sign, 0x, the first digit, the others, p, and the exponent. -/
def fmtXText (upper neg : Bool) (lead tail : Nat) (exp : Int) : List UInt8 :=
  sgn neg ++ [48, if upper then 88 else 120, dch lead] ++ fracX upper tail ++ [if upper then 80 else 112] ++ [if exp < 0 then 45 else 43] ++ expX exp.natAbs

def P60 : Nat := 2 ^ 60
theorem and60 (m : Nat) (h : m < 2 * P60) : bits .and .u64 (m : Int) 1152921504606846976 = if m < P60 then 0 else 1152921504606846976 := by
  have h1 := u64_and_nat m (2 ^ 60) (by unfold P60 at h; omega) (by decide)
  refine (show _ = _ from h1).trans ?_
  unfold P60 at *
  by_cases hm : m < 2 ^ 60
  · rw [if_pos hm]
    have : m &&& 2 ^ 60 = 0 := Nat.eq_of_testBit_eq fun i => by
      rw [Nat.testBit_and, Nat.testBit_two_pow, Nat.zero_testBit]
      by_cases hi : 60 = i
      · subst hi; rw [Nat.testBit_lt_two_pow hm]; rfl
      · simp [hi]
    rw [this]; rfl
  · rw [if_neg hm]
    have hb : m.testBit 60 = true := by rw [Nat.testBit_eq_decide_div_mod_eq]; simp; omega
    have : m &&& 2 ^ 60 = 2 ^ 60 := Nat.eq_of_testBit_eq fun i => by
      rw [Nat.testBit_and, Nat.testBit_two_pow]
      by_cases hi : 60 = i
      · subst hi; simp [hb]
      · simp [hi]
    rw [this]; rfl
/-- What the loop over the digits keeps: what stands, and what is still to come, are the digits of T. -/
def HexInv (upper : Bool) (T q t : Nat) (ks : List UInt8) : Prop := ks ++ hexTail upper q t = hexTail upper 16 T ∧ t < 2 ^ 64 ∧ t % 16 ^ (16 - q) = 0

theorem hexInv_pos {upper : Bool} {T q t : Nat} {ks : List UInt8} (h : HexInv upper T q t ks) (ht : t ≠ 0) : 0 < q := by
  obtain ⟨_, h2, h3⟩ := h
  rcases Nat.eq_zero_or_pos q with rfl | hq
  · rw [Nat.sub_zero, show (16 : Nat) ^ 16 = 2 ^ 64 by decide, Nat.mod_eq_of_lt h2] at h3
    exact absurd h3 ht
  · exact hq
theorem hexInv_step {upper : Bool} {T q t : Nat} {ks : List UInt8} (h : HexInv upper T q t ks) (hq16 : q ≤ 16) (ht : t ≠ 0) : HexInv upper T (q - 1) (t * 16 % 2 ^ 64) (ks ++ [hexd upper (t / P60)]) := by
  have hq := hexInv_pos h ht
  obtain ⟨h1, h2, h3⟩ := h
  refine ⟨?_, Nat.mod_lt _ (by decide), ?_⟩
  · rw [← h1, List.append_assoc]
    congr 1
    obtain ⟨q', rfl⟩ : ∃ q', q = q' + 1 := ⟨q - 1, by omega⟩
    rw [hexTail, if_neg ht]
    rfl
  · have e : 16 - (q - 1) = (16 - q) + 1 := by omega
    rw [e, show 16 ^ (16 - q + 1) = 16 ^ (16 - q) * 16 from Nat.pow_succ _ _]
    have hd : 16 ^ (16 - q) * 16 ∣ 2 ^ 64 := by
      rw [← Nat.pow_succ, show (2 : Nat) ^ 64 = 16 ^ 16 by decide]
      exact Nat.pow_dvd_pow _ (by omega)
    rw [Nat.mod_mod_of_dvd _ hd]
    exact Nat.mod_eq_zero_of_dvd (Nat.mul_dvd_mul_right (Nat.dvd_of_mod_eq_zero h3) 16)
theorem xlt {x M j k : Nat} (hx : x = M * 2 ^ j) (hk : M * 2 ^ k < 2 * P60) (hj : j < k) : x < P60 := by
  have h1 : M * 2 ^ (j + 1) ≤ M * 2 ^ k := Nat.mul_le_mul_left _ (Nat.pow_le_pow_right (by decide) hj)
  rw [Nat.pow_succ, ← Nat.mul_assoc, ← hx] at h1
  omega
theorem k60 {M k : Nat} (hM : 0 < M) (hk : M * 2 ^ k < 2 * P60) : k ≤ 60 := by
  have h1 : 2 ^ k ≤ M * 2 ^ k := Nat.le_mul_of_pos_left _ hM
  have h2 : 2 ^ k < 2 ^ 61 := by unfold P60 at hk; omega
  have := (Nat.pow_lt_pow_iff_right (a := 2) (by decide)).1 h2
  omega
theorem shlM {mant mb M k : Nat} (hM : M = mant * 2 ^ (60 - mb)) (hk : M * 2 ^ k < 2 * P60) : IntKind.u64.wrap ((mant : Int) * 2 ^ (60 - mb)) = (M : Int) := by
  have h1 : M ≤ M * 2 ^ k := Nat.le_mul_of_pos_right _ (Nat.two_pow_pos k)
  have h2 : ((mant : Int) * 2 ^ (60 - mb)) = (M : Int) := by rw [hM]; simp
  rw [h2, IntKind.wrap_u64]
  unfold P60 at hk
  omega
theorem and15 (t : Nat) (h : t < 2 ^ 64) : bits .and .u64 ((t : Int) / 1152921504606846976) 15 = ((t / P60 : Nat) : Int) := by
  have e : (t : Int) / 1152921504606846976 = ((t / P60 : Nat) : Int) := by unfold P60; omega
  have hd : t / P60 < 16 := by unfold P60; omega
  rw [e]
  generalize t / P60 = d at hd
  have : ∀ d : Fin 16, bits .and .u64 ((d.val : Nat) : Int) 15 = ((d.val : Nat) : Int) := by decide
  exact this ⟨d, hd⟩
theorem hexIdx_false (d : Nat) (h : d < 16) (W : World) : (Instr.index 9 (.string ⟨#[48, 49, 50, 51, 52, 53, 54, 55, 56, 57, 97, 98, 99, 100, 101, 102]⟩) (.int .u64 (d : Int))).run Tryd.prog W = .ok (.int .u8 ((hexd false d).toNat : Int)) W :=
  match d, h with
  | 0, _ => by kernel_rfl
  | 1, _ => by kernel_rfl
  | 2, _ => by kernel_rfl
  | 3, _ => by kernel_rfl
  | 4, _ => by kernel_rfl
  | 5, _ => by kernel_rfl
  | 6, _ => by kernel_rfl
  | 7, _ => by kernel_rfl
  | 8, _ => by kernel_rfl
  | 9, _ => by kernel_rfl
  | 10, _ => by kernel_rfl
  | 11, _ => by kernel_rfl
  | 12, _ => by kernel_rfl
  | 13, _ => by kernel_rfl
  | 14, _ => by kernel_rfl
  | 15, _ => by kernel_rfl
  | d + 16, h => absurd h (by omega)
theorem hexIdx_true (d : Nat) (h : d < 16) (W : World) : (Instr.index 9 (.string ⟨#[48, 49, 50, 51, 52, 53, 54, 55, 56, 57, 65, 66, 67, 68, 69, 70]⟩) (.int .u64 (d : Int))).run Tryd.prog W = .ok (.int .u8 ((hexd true d).toNat : Int)) W :=
  match d, h with
  | 0, _ => by kernel_rfl
  | 1, _ => by kernel_rfl
  | 2, _ => by kernel_rfl
  | 3, _ => by kernel_rfl
  | 4, _ => by kernel_rfl
  | 5, _ => by kernel_rfl
  | 6, _ => by kernel_rfl
  | 7, _ => by kernel_rfl
  | 8, _ => by kernel_rfl
  | 9, _ => by kernel_rfl
  | 10, _ => by kernel_rfl
  | 11, _ => by kernel_rfl
  | 12, _ => by kernel_rfl
  | 13, _ => by kernel_rfl
  | 14, _ => by kernel_rfl
  | 15, _ => by kernel_rfl
  | d + 16, h => absurd h (by omega)
theorem dch_eq (x : Int) (d : Nat) (hd : d < 10) (hx : x = d + 48) : x = ((dch d).toNat : Int) := by
  unfold dch
  rw [UInt8.toNat_ofNat']
  omega
theorem hexTail_zero (upper : Bool) (q : Nat) : hexTail upper q 0 = [] := by cases q <;> simp [hexTail]
theorem hexTail_length (upper : Bool) : ∀ k m, (hexTail upper k m).length ≤ k
  | 0, _ => by simp [hexTail]
  | k + 1, m => by
    unfold hexTail
    split
    · simp
    · simpa using hexTail_length upper k _
theorem fracX_length (upper : Bool) (T : Nat) : (fracX upper T).length ≤ 17 := by
  unfold fracX
  split
  · simp
  · simpa using hexTail_length upper 16 T


theorem imax_int (k k' : IntKind) (x y : Int) : Builtin.max2 (.int k x) (.int k' y) = pure (.int k (if x < y then y else x)) := by simp only [Builtin.max2, gt_iff_lt]
theorem imin_int (k k' : IntKind) (x y : Int) : Builtin.min2 (.int k x) (.int k' y) = pure (.int k (if y < x then y else x)) := by simp only [Builtin.min2]
theorem imax_two (ats : Array TypeId) (ty : TypeId) (a b : Value) : Builtin.max_ ats ty #[a, b] = (Builtin.max2 a b >>= fun s => pure s) := by simp only [Builtin.max_, List.foldlM_cons, List.foldlM_nil]
theorem imin_two (ats : Array TypeId) (ty : TypeId) (a b : Value) : Builtin.min_ ats ty #[a, b] = (Builtin.min2 a b >>= fun s => pure s) := by simp only [Builtin.min_, List.foldlM_cons, List.foldlM_nil]

/-- The first n of a list, filled up with noughts. -/
def fill (n : Nat) (l : List UInt8) : List UInt8 := l.take n ++ List.replicate (n - l.length) 48
/-- A sign and an exponent of two digits or three. -/
def expE (e : Int) : List UInt8 :=
  (if e < 0 then 45 else 43) :: (if e.natAbs < 10 then [48, dch e.natAbs] else if e.natAbs < 100 then [dch (e.natAbs / 10), dch (e.natAbs % 10)] else [dch (e.natAbs / 100), dch (e.natAbs / 10 % 10), dch (e.natAbs % 10)])
/-- What stands behind the point. -/
def fracE (prec : Nat) (l : List UInt8) : List UInt8 := if prec = 0 then [] else 46 :: fill prec l
/-- For the verbs e, E. -/
def eText (neg : Bool) (verb : UInt8) (ds : List UInt8) (dp : Int) (prec : Nat) : List UInt8 :=
  sgn neg ++ [ds.headD 48] ++ fracE prec (ds.drop 1) ++ [verb] ++ expE (if ds.length = 0 then 0 else dp - 1)
/-- For the verb f. -/
def fText (neg : Bool) (ds : List UInt8) (dp : Int) (prec : Nat) : List UInt8 :=
  sgn neg ++ (if 0 < dp then fill dp.toNat ds else [48]) ++ fracE prec (List.replicate (-dp).toNat 48 ++ ds.drop dp.toNat)

theorem fill_length (n : Nat) (l : List UInt8) : (fill n l).length = n := by
  unfold fill
  rw [List.length_append, List.length_take, List.length_replicate]
  omega
theorem fracE_length (n : Nat) (l : List UInt8) : (fracE n l).length ≤ n + 1 := by
  unfold fracE
  split
  · simp
  · rw [List.length_cons, fill_length]; omega
theorem expE_length (e : Int) : (expE e).length ≤ 4 := by
  unfold expE
  rw [List.length_cons]
  by_cases h1 : e.natAbs < 10
  · rw [if_pos h1]; simp
  · rw [if_neg h1]
    by_cases h2 : e.natAbs < 100
    · rw [if_pos h2]; simp
    · rw [if_neg h2]; simp

theorem fill_parts (prec NZ : Nat) (l : List UInt8) : fill prec (List.replicate NZ 48 ++ l) = List.replicate (min prec NZ) 48 ++ l.take (prec - NZ) ++ List.replicate (prec - NZ - l.length) 48 := by
  unfold fill
  rw [List.take_append, List.take_replicate, List.length_append, List.length_replicate, Nat.sub_add_eq]

/-- A part of a row. -/
theorem Row.sub {w : World} {v : Value} {xs : List UInt8} {g o c : Nat} (h : Row w v xs g o c) (i m : Nat) (him : i ≤ m) (hm : m ≤ xs.length) :
    Row w (.slice (some ⟨g, o + i, none⟩) (m - i) (c - i)) ((xs.drop i).take (m - i)) g (o + i) (c - i) := by
  have hl := h.le
  have hx := h.max
  have hlen : ((xs.drop i).take (m - i)).length = m - i := by rw [List.length_take, List.length_drop]; omega
  refine ⟨by rw [hlen], by rw [hlen]; omega, by omega, fun j hj => ?_, fun j hj => ?_⟩
  · rw [hlen] at hj
    rw [Nat.add_assoc, h.get (i + j) (by omega)]
    simp [bc, List.getElem?_drop, hj]
  · rw [Nat.add_assoc]
    exact h.there (i + j) (by omega)

/-- A row in another old block stays. -/
theorem Row.went {W w : World} {g o c n g1 o1 c1 : Nat} {olds ks : List UInt8} {v : Value} {xs : List UInt8} {gs os cs : Nat} (h : Row W v xs gs os cs) (hw : Went W g o c olds ks n g1 o1 c1 w) (hg : gs ≠ g) (hb : gs < W.heap.size) : Row w v xs gs os cs := by
  refine ⟨h.val, h.le, h.max, fun i hi => ?_, fun j hj => ?_⟩
  · rw [hw.cell hb hg]; exact h.get i hi
  · rw [hw.cell hb hg, keptBut_frozen hw.kept (a := ⟨gs, os + j, none⟩) hb]; exact h.there j hj

theorem Row.at {w : World} {v : Value} {xs : List UInt8} {g o c : Nat} (h : Row w v xs g o c) (i : Nat) (hi : i < xs.length) : w.cell? ⟨g, o + i, none⟩ = some (.int .u8 (xs[i].toNat : Int)) := by
  rw [h.get i hi]
  simp [bc, hi]


/-- The precision that decides between the two forms. -/
def gEp (sh : Bool) (dp : Int) (nd prec : Nat) : Int := if sh then 6 else if nd < prec ∧ dp ≤ nd then nd else prec
/-- With an exponent? -/
def gE (sh : Bool) (dp : Int) (nd prec : Nat) : Bool := decide (dp - 1 < -4 ∨ gEp sh dp nd prec ≤ dp - 1)

theorem gE_yes {sh : Bool} {dp : Int} {nd prec : Nat} (h : gE sh dp nd prec = true) : dp - 1 < -4 ∨ gEp sh dp nd prec ≤ dp - 1 := of_decide_eq_true h
theorem gE_no {sh : Bool} {dp : Int} {nd prec : Nat} (h : gE sh dp nd prec = false) : ¬ (dp - 1 < -4 ∨ gEp sh dp nd prec ≤ dp - 1) := of_decide_eq_false h
theorem nd_pos {sh : Bool} {dp : Int} {nd prec : Nat} (h0 : nd = 0 → dp = 0) (hp : 1 ≤ prec) (h : gE sh dp nd prec = true) : 1 ≤ nd := by
  rcases Nat.eq_zero_or_pos nd with h1 | h1
  · exfalso
    have h2 := h0 h1
    unfold gE at h
    have h3 := of_decide_eq_true h
    subst h2
    subst h1
    unfold gEp at h3
    cases sh
    · rw [if_neg (by decide), if_pos ⟨by omega, by omega⟩] at h3
      omega
    · rw [if_pos rfl] at h3
      omega
  · exact h1

end Go.Proofs.YthfjpofbaeeafaaDoor
