/-
  From the rows' list of package-level variables to what the walks ask of the world: the tables.
-/
import Derived.Test.YthfjpofbaeeafaaDoorTabs
import Derived.Test.YthfjpofbaeeafaaDoorRows
import Derived.Lib.LaidU8
import Derived.LaidOnce
import Derived.Lay
import Derived.ChangeSame
import Derived.MakeChecks
namespace Go.Proofs.YthfjpofbaeeafaaDoor
open Go.RowKit

/-- The list that all rows bear. -/
def theLaid : List (String × DataW Unit) := [("math/bits.deBruijn32tab", Rows.laid_math_bits_deBruijn32tab), ("math/bits.deBruijn64tab", Rows.laid_math_bits_deBruijn64tab), ("internal/strconv.optimize", Rows.laid_internal_strconv_optimize), ("internal/strconv.uint64pow10", Rows.laid_internal_strconv_uint64pow10), ("internal/strconv.leftcheats", Rows.laid_internal_strconv_leftcheats), ("internal/strconv.pow10Tab", Rows.laid_internal_strconv_pow10Tab)]

theorem gOpt : Tryd.prog.globalNamed "internal/strconv.optimize" = some 1 := by kernel_rfl
theorem gU10 : Tryd.prog.globalNamed "internal/strconv.uint64pow10" = some 2 := by kernel_rfl
theorem gTab : Tryd.prog.globalNamed "internal/strconv.pow10Tab" = some 3 := by kernel_rfl
theorem gCheats : Tryd.prog.globalNamed "internal/strconv.leftcheats" = some 4 := by kernel_rfl
theorem tOpt : (Tryd.prog.globals[1]?).map (·.type) = some 4 := by kernel_rfl
theorem tU10 : (Tryd.prog.globals[2]?).map (·.type) = some 128 := by kernel_rfl
theorem tTab : (Tryd.prog.globals[3]?).map (·.type) = some 138 := by kernel_rfl
theorem tCheats : (Tryd.prog.globals[4]?).map (·.type) = some 145 := by kernel_rfl
theorem u128x : Tryd.prog.underlying 128 = some (.array 20 22) := by kernel_rfl
theorem u138x : Tryd.prog.underlying 138 = some (.array 696 137) := by kernel_rfl
theorem u145x : Tryd.prog.underlying 145 = some (.slice 144) := by kernel_rfl
theorem c22x : Tryd.prog.cellsOf 22 = 1 := by kernel_rfl
theorem c128x : Tryd.prog.cellsOf 128 = 20 := by kernel_rfl
theorem c137x : Tryd.prog.cellsOf 137 = 2 := by kernel_rfl
theorem c138x : Tryd.prog.cellsOf 138 = 1392 := by kernel_rfl
theorem c144x : Tryd.prog.cellsOf 144 = 2 := by kernel_rfl
theorem u22x : Tryd.prog.underlying 22 = some (.int .u64) := by kernel_rfl
theorem u4x : Tryd.prog.underlying 4 = some .bool := by kernel_rfl
theorem u3x : Tryd.prog.underlying 3 = some (.int .i64) := by kernel_rfl
theorem u9x : Tryd.prog.underlying 9 = some .string := by kernel_rfl
theorem c3x : Tryd.prog.cellsOf 3 = 1 := by kernel_rfl
theorem c9x : Tryd.prog.cellsOf 9 = 1 := by kernel_rfl
theorem pair_of_struct {fuel : Nat} {cs : List Value} {a b : Nat} {p : List MemPlace} {W : World}
    (h : DataW.trod (fun _ => ()) Tryd.prog W 0 (fun _ => true) false fuel 137 cs = some (.agg [.lit (.int .u64 (a : Int)), .lit (.int .u64 (b : Int))], p)) : cs = [.int .u64 (a : Int), .int .u64 (b : Int)] := by
  have h2 : cs = [(a : Int), (b : Int)].map fun z => Value.int .u64 z := by
    refine Lib.ints_of_struct (zs := [(a : Int), (b : Int)]) (p := p) (fuel := fuel) Tryd.underlying137 (fun i f hf => ?_) (by simpa using c137x) h
    match i, hf with
    | 0, hf => cases hf; exact ⟨u22x, rfl, c22x⟩
    | 1, hf => cases hf; exact ⟨u22x, rfl, c22x⟩
    | i + 2, hf => simp at hf
  exact h2

theorem cheat_of_struct {fuel : Nat} {cs : List Value} {a : Nat} {s : List UInt8} {p : List MemPlace} {W : World}
    (h : DataW.trod (fun _ => ()) Tryd.prog W 0 (fun _ => true) false fuel 144 cs = some (.agg [.lit (.int .i64 (a : Int)), .lit (.string s)], p)) : cs = [.int .i64 (a : Int), .string ⟨s.toArray⟩] := by
  obtain ⟨y0, y1, n, hx, hl, h0, h1⟩ := ChangeShapes.trod_struct2 Tryd.underlying144 h
  rw [c144x] at hl
  simp only [c3x, c9x, List.drop_zero] at h0 h1
  match cs, hl with
  | [c0, c1], _ =>
    obtain ⟨z, hz, rfl, _⟩ := DataW.trod_int u3x h0
    obtain ⟨t, ht, rfl, _⟩ := DataW.trod_string u9x h1
    simp only [List.take_succ_cons, List.take_zero, List.drop_succ_cons, List.drop_zero, List.cons.injEq, and_true] at hz ht
    subst hz ht
    simp only [Prod.mk.injEq, DataW.agg.injEq, List.cons.injEq, DataW.lit.injEq, Lit.int.injEq, Lit.string.injEq, and_true, true_and] at hx
    obtain ⟨⟨hx1, hx2⟩, _⟩ := hx
    subst hx1 hx2
    rfl

theorem opt_of {W : World} (h : laidMet Tryd.prog theLaid W) : W.cell? ⟨1, 0, none⟩ = some (.bool true) := by
  obtain ⟨g, t, cs, fuel, p, hg, ht, hv, hd⟩ := Lib.laidMet.reads h (n := "internal/strconv.optimize") (d := Rows.laid_internal_strconv_optimize) (by simp [theLaid])
  obtain rfl := Option.some.inj (gOpt.symm.trans hg)
  obtain rfl := Option.some.inj (tOpt.symm.trans ht)
  obtain ⟨b, hcs, hx⟩ := DataW.trod_bool u4x hd
  have hb : true = b := by
    have := congrArg Prod.fst hx
    simpa [Rows.laid_internal_strconv_optimize] using this
  have hc := World.var?_cell hg hv 0
  rw [hc, ← Array.getElem?_toList, hcs, ← hb]
  rfl

theorem u10_of {W : World} (h : laidMet Tryd.prog theLaid W) : Lib.TabIs Tryd.prog W "internal/strconv.uint64pow10" .u64 Lib.pow10Tab := by
  obtain ⟨g, t, cs, fuel, p, hg, ht, hv, hd⟩ := Lib.laidMet.reads h (n := "internal/strconv.uint64pow10") (d := Rows.laid_internal_strconv_uint64pow10) (by simp [theLaid])
  obtain rfl := Option.some.inj (gU10.symm.trans hg)
  obtain rfl := Option.some.inj (tU10.symm.trans ht)
  have e : (Rows.laid_internal_strconv_uint64pow10 : DataW Unit) = Lib.tabData .u64 Lib.pow10Tab := by kernel_rfl
  rw [e] at hd
  unfold Lib.TabIs
  rw [hv, ← Lib.cells_of_tab u128x u22x c22x c128x hd]

theorem tab_of {W : World} (h : laidMet Tryd.prog theLaid W) (i : Nat) (hi : i < 696) : W.cell? ⟨3, 2 * i, none⟩ = some (.int .u64 (p10hi i : Int)) ∧ W.cell? ⟨3, 2 * i + 1, none⟩ = some (.int .u64 (p10lo i : Int)) := by
  obtain ⟨g, t, cs, fuel, p, hg, ht, hv, hd⟩ := Lib.laidMet.reads h (n := "internal/strconv.pow10Tab") (d := Rows.laid_internal_strconv_pow10Tab) (by simp [theLaid])
  obtain rfl := Option.some.inj (gTab.symm.trans hg)
  obtain rfl := Option.some.inj (tTab.symm.trans ht)
  unfold Rows.laid_internal_strconv_pow10Tab Go.Pinned.pow10Tab at hd
  obtain ⟨fuel', d, q, hd1, hd2⟩ := Lib.array_elem u138x hd i hi
  rw [List.getElem?_map, Option.map_eq_some_iff] at hd1
  obtain ⟨r, hr, rfl⟩ := hd1
  have hc := pair_of_struct hd2
  rw [c137x] at hc
  have h0 := congrArg (·[0]?) hc
  have h1 := congrArg (·[1]?) hc
  simp only [List.getElem?_take, List.getElem?_drop, List.getElem?_cons_zero, List.getElem?_cons_succ] at h0 h1
  have hg1 : p10hi i = r.1 := by unfold p10hi; rw [List.getD_eq_getElem?_getD, hr]; rfl
  have hg2 : p10lo i = r.2 := by unfold p10lo; rw [List.getD_eq_getElem?_getD, hr]; rfl
  rw [World.var?_cell hg hv (2 * i), World.var?_cell hg hv (2 * i + 1), ← Array.getElem?_toList, ← Array.getElem?_toList, hg1, hg2, Nat.mul_comm 2 i]
  exact ⟨by simpa using h0, by simpa using h1⟩

theorem cheats_of {W : World} (h : laidMet Tryd.prog theLaid W) : ∃ ab ao ac, ab < W.heap.size ∧ W.cell? ⟨4, 0, none⟩ = some (.slice (some ⟨ab, ao, none⟩) 61 ac) ∧
    ∀ k, k < 61 → W.cell? ⟨ab, ao + 2 * k, none⟩ = some (.int .i64 (chDelta k : Int)) ∧ W.cell? ⟨ab, ao + 2 * k + 1, none⟩ = some (.string ⟨(chCut k).toArray⟩) := by
  obtain ⟨g, t, cs, fuel, p, hg, ht, hv, hd⟩ := Lib.laidMet.reads h (n := "internal/strconv.leftcheats") (d := Rows.laid_internal_strconv_leftcheats) (by simp [theLaid])
  obtain rfl := Option.some.inj (gCheats.symm.trans hg)
  obtain rfl := Option.some.inj (tCheats.symm.trans ht)
  have hlen : Go.Pinned.cheatRows.length = 61 := by kernel_rfl
  rcases DataW.trod_slice u145x hd with ⟨_, hx⟩ | ⟨a, len, cap, elems, rest, n, rfl, hcs, hx, _, hl, hcap, hel, hall, _, _⟩
  · have := congrArg Prod.fst hx
    simp [Rows.laid_internal_strconv_leftcheats, Go.Pinned.leftcheats] at this
  · have hx1 := congrArg Prod.fst hx
    simp only [Rows.laid_internal_strconv_leftcheats, Go.Pinned.leftcheats, DataW.slice.injEq] at hx1
    obtain ⟨hx1, _⟩ := hx1
    have hlen2 : len = 61 := by
      have := congrArg List.length hx1
      simp only [List.length_map] at this
      omega
    subst hlen2
    have key : ∀ k, k < 61 → W.cell? (a.add (2 * k)) = some (.int .i64 (chDelta k : Int)) ∧ W.cell? (a.add (2 * k + 1)) = some (.string ⟨(chCut k).toArray⟩) := by
      intro k hk
      have h1 := hall k hk
      obtain ⟨y, hy⟩ : ∃ y, elems[k]? = some y := ⟨elems[k]'(by omega), List.getElem?_eq_getElem (by omega)⟩
      rw [hy, Option.bind_eq_some_iff] at h1
      obtain ⟨cs', hcs', htr⟩ := h1
      have hy2 := congrArg (·[k]?) hx1
      simp only [List.getElem?_map, hy, Option.map_some] at hy2
      rw [Option.map_eq_some_iff] at hy2
      obtain ⟨r, hr, hr2⟩ := hy2
      have hyy : y = (.agg [.lit (.int .i64 (r.1 : Int)), .lit (.string r.2)], y.2) := by rw [hr2]
      rw [hyy] at htr
      have hc := cheat_of_struct htr
      obtain ⟨_, hl2, hcell⟩ := World.cells?_some hcs'
      rw [c144x] at hcell
      have q0 := hcell 0 (by omega)
      have q1 := hcell 1 (by omega)
      have hg1 : chDelta k = r.1 := by unfold chDelta; rw [List.getD_eq_getElem?_getD, hr]; rfl
      have hg2 : chCut k = r.2 := by unfold chCut; rw [List.getD_eq_getElem?_getD, hr]; rfl
      rw [hc] at q0 q1
      rw [hg1, hg2]
      rw [Addr.add_add, Nat.mul_comm] at q0 q1
      exact ⟨q0, q1⟩
    obtain ⟨b, off, spot⟩ := a
    have hspot : spot = none := by simpa [Addr.add] using World.cell?_spot (key 0 (by decide)).1
    subst hspot
    refine ⟨b, off, cap, ?_, ?_, fun k hk => ?_⟩
    · exact World.block_lt_of_cell? _ _ (key 0 (by decide)).1
    · rw [World.var?_cell hg hv 0, ← Array.getElem?_toList, hcs]
      rfl
    · have := key k hk
      rw [Addr.add_lit, Addr.add_lit, ← Nat.add_assoc] at this
      exact this

/-- ALL THE TABLES, from the row's own condition. -/
theorem tabs_of {W : World} (h : laidMet Tryd.prog theLaid W) : Tabs W.heap.size W := by
  obtain ⟨ab, ao, ac, h1, h2, h3⟩ := cheats_of h
  have := World.block_lt_of_cell? _ _ h2
  exact ⟨this, Nat.le_refl _, opt_of h, u10_of h, fun i hi => tab_of h i hi, ab, ao, ac, h1, h2, h3⟩

end Go.Proofs.YthfjpofbaeeafaaDoor
