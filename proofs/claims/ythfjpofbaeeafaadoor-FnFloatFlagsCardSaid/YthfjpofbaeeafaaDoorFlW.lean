/-
  The law FnFloatFlags: the walk of the law itself.
-/
import Derived.Test.YthfjpofbaeeafaaDoorFlL
import Derived.Test.YthfjpofbaeeafaaDoorRF
namespace Go.Proofs.YthfjpofbaeeafaaDoor
open Go.RowKit

/-- A block that holds flags. -/
structure FlAt (W w : World) (F : Nat) (wid prec : Int) (hw hp mi pl sh sp ze : Bool) : Prop where
  c0 : w.cell? ⟨F, 0, none⟩ = some (.int .i64 wid)
  c1 : w.cell? ⟨F, 1, none⟩ = some (.int .i64 prec)
  c2 : w.cell? ⟨F, 2, none⟩ = some (.bool hw)
  c3 : w.cell? ⟨F, 3, none⟩ = some (.bool hp)
  c4 : w.cell? ⟨F, 4, none⟩ = some (.bool mi)
  c5 : w.cell? ⟨F, 5, none⟩ = some (.bool pl)
  c6 : w.cell? ⟨F, 6, none⟩ = some (.bool sh)
  c7 : w.cell? ⟨F, 7, none⟩ = some (.bool sp)
  c8 : w.cell? ⟨F, 8, none⟩ = some (.bool ze)
  st : Still W w
  lo : W.heap.size ≤ F
  fz : ∀ o, w.frozen? ⟨F, o, none⟩ = false
  lt : F < w.heap.size

theorem FlAt.alloc (W : World) (wid prec : Int) (hw hp mi pl sh sp ze : Bool) : FlAt W (W.alloc (.cells #[.int .i64 wid, .int .i64 prec, .bool hw, .bool hp, .bool mi, .bool pl, .bool sh, .bool sp, .bool ze] 29)) W.heap.size wid prec hw hp mi pl sh sp ze := by
  have hc := fun i => World.cell?_alloc_new W #[Value.int .i64 wid, .int .i64 prec, .bool hw, .bool hp, .bool mi, .bool pl, .bool sh, .bool sp, .bool ze] 29 i
  exact ⟨hc 0, hc 1, hc 2, hc 3, hc 4, hc 5, hc 6, hc 7, hc 8, (Still.refl W).alloc _, Nat.le_refl _, fun o => World.frozen?_alloc_new _ _ _ _, by simp⟩
theorem FlAt.still {W w w' : World} {F : Nat} {wid prec : Int} {hw hp mi pl sh sp ze : Bool} (h : FlAt W w F wid prec hw hp mi pl sh sp ze) (hs : Still w w') : FlAt W w' F wid prec hw hp mi pl sh sp ze :=
  ⟨hs.cell h.c0, hs.cell h.c1, hs.cell h.c2, hs.cell h.c3, hs.cell h.c4, hs.cell h.c5, hs.cell h.c6, hs.cell h.c7, hs.cell h.c8, h.st.trans hs, h.lo, fun o => (keptBut_frozen hs (a := ⟨F, o, none⟩) h.lt).trans (h.fz o), Nat.lt_of_lt_of_le h.lt hs.size⟩

theorem FlAt.s0 {W w : World} {F : Nat} {wid prec : Int} {hw hp mi pl sh sp ze : Bool} (h : FlAt W w F wid prec hw hp mi pl sh sp ze) (x : Int) : FlAt W (w.setCell ⟨F, 0, none⟩ (.int .i64 x)) F x prec hw hp mi pl sh sp ze :=
  have o : ∀ i, i ≠ 0 → (w.setCell ⟨F, 0, none⟩ (.int .i64 x)).cell? ⟨F, i, none⟩ = w.cell? ⟨F, i, none⟩ := fun i hi => cell_other (fun e => hi (congrArg Addr.off e))
  ⟨cell_same h.c0, (o 1 (by decide)).trans h.c1, (o 2 (by decide)).trans h.c2, (o 3 (by decide)).trans h.c3, (o 4 (by decide)).trans h.c4, (o 5 (by decide)).trans h.c5, (o 6 (by decide)).trans h.c6, (o 7 (by decide)).trans h.c7, (o 8 (by decide)).trans h.c8, h.st.setCell h.lo _, h.lo, fun o => by rw [World.frozen?_setCell]; exact h.fz o, by have := h.lt; simpa [World.setCell] using this⟩
theorem FlAt.s1 {W w : World} {F : Nat} {wid prec : Int} {hw hp mi pl sh sp ze : Bool} (h : FlAt W w F wid prec hw hp mi pl sh sp ze) (x : Int) : FlAt W (w.setCell ⟨F, 1, none⟩ (.int .i64 x)) F wid x hw hp mi pl sh sp ze :=
  have o : ∀ i, i ≠ 1 → (w.setCell ⟨F, 1, none⟩ (.int .i64 x)).cell? ⟨F, i, none⟩ = w.cell? ⟨F, i, none⟩ := fun i hi => cell_other (fun e => hi (congrArg Addr.off e))
  ⟨(o 0 (by decide)).trans h.c0, cell_same h.c1, (o 2 (by decide)).trans h.c2, (o 3 (by decide)).trans h.c3, (o 4 (by decide)).trans h.c4, (o 5 (by decide)).trans h.c5, (o 6 (by decide)).trans h.c6, (o 7 (by decide)).trans h.c7, (o 8 (by decide)).trans h.c8, h.st.setCell h.lo _, h.lo, fun o => by rw [World.frozen?_setCell]; exact h.fz o, by have := h.lt; simpa [World.setCell] using this⟩
theorem FlAt.s2 {W w : World} {F : Nat} {wid prec : Int} {hw hp mi pl sh sp ze : Bool} (h : FlAt W w F wid prec hw hp mi pl sh sp ze) (x : Bool) : FlAt W (w.setCell ⟨F, 2, none⟩ (.bool x)) F wid prec x hp mi pl sh sp ze :=
  have o : ∀ i, i ≠ 2 → (w.setCell ⟨F, 2, none⟩ (.bool x)).cell? ⟨F, i, none⟩ = w.cell? ⟨F, i, none⟩ := fun i hi => cell_other (fun e => hi (congrArg Addr.off e))
  ⟨(o 0 (by decide)).trans h.c0, (o 1 (by decide)).trans h.c1, cell_same h.c2, (o 3 (by decide)).trans h.c3, (o 4 (by decide)).trans h.c4, (o 5 (by decide)).trans h.c5, (o 6 (by decide)).trans h.c6, (o 7 (by decide)).trans h.c7, (o 8 (by decide)).trans h.c8, h.st.setCell h.lo _, h.lo, fun o => by rw [World.frozen?_setCell]; exact h.fz o, by have := h.lt; simpa [World.setCell] using this⟩
theorem FlAt.s3 {W w : World} {F : Nat} {wid prec : Int} {hw hp mi pl sh sp ze : Bool} (h : FlAt W w F wid prec hw hp mi pl sh sp ze) (x : Bool) : FlAt W (w.setCell ⟨F, 3, none⟩ (.bool x)) F wid prec hw x mi pl sh sp ze :=
  have o : ∀ i, i ≠ 3 → (w.setCell ⟨F, 3, none⟩ (.bool x)).cell? ⟨F, i, none⟩ = w.cell? ⟨F, i, none⟩ := fun i hi => cell_other (fun e => hi (congrArg Addr.off e))
  ⟨(o 0 (by decide)).trans h.c0, (o 1 (by decide)).trans h.c1, (o 2 (by decide)).trans h.c2, cell_same h.c3, (o 4 (by decide)).trans h.c4, (o 5 (by decide)).trans h.c5, (o 6 (by decide)).trans h.c6, (o 7 (by decide)).trans h.c7, (o 8 (by decide)).trans h.c8, h.st.setCell h.lo _, h.lo, fun o => by rw [World.frozen?_setCell]; exact h.fz o, by have := h.lt; simpa [World.setCell] using this⟩
theorem FlAt.s4 {W w : World} {F : Nat} {wid prec : Int} {hw hp mi pl sh sp ze : Bool} (h : FlAt W w F wid prec hw hp mi pl sh sp ze) (x : Bool) : FlAt W (w.setCell ⟨F, 4, none⟩ (.bool x)) F wid prec hw hp x pl sh sp ze :=
  have o : ∀ i, i ≠ 4 → (w.setCell ⟨F, 4, none⟩ (.bool x)).cell? ⟨F, i, none⟩ = w.cell? ⟨F, i, none⟩ := fun i hi => cell_other (fun e => hi (congrArg Addr.off e))
  ⟨(o 0 (by decide)).trans h.c0, (o 1 (by decide)).trans h.c1, (o 2 (by decide)).trans h.c2, (o 3 (by decide)).trans h.c3, cell_same h.c4, (o 5 (by decide)).trans h.c5, (o 6 (by decide)).trans h.c6, (o 7 (by decide)).trans h.c7, (o 8 (by decide)).trans h.c8, h.st.setCell h.lo _, h.lo, fun o => by rw [World.frozen?_setCell]; exact h.fz o, by have := h.lt; simpa [World.setCell] using this⟩
theorem FlAt.s5 {W w : World} {F : Nat} {wid prec : Int} {hw hp mi pl sh sp ze : Bool} (h : FlAt W w F wid prec hw hp mi pl sh sp ze) (x : Bool) : FlAt W (w.setCell ⟨F, 5, none⟩ (.bool x)) F wid prec hw hp mi x sh sp ze :=
  have o : ∀ i, i ≠ 5 → (w.setCell ⟨F, 5, none⟩ (.bool x)).cell? ⟨F, i, none⟩ = w.cell? ⟨F, i, none⟩ := fun i hi => cell_other (fun e => hi (congrArg Addr.off e))
  ⟨(o 0 (by decide)).trans h.c0, (o 1 (by decide)).trans h.c1, (o 2 (by decide)).trans h.c2, (o 3 (by decide)).trans h.c3, (o 4 (by decide)).trans h.c4, cell_same h.c5, (o 6 (by decide)).trans h.c6, (o 7 (by decide)).trans h.c7, (o 8 (by decide)).trans h.c8, h.st.setCell h.lo _, h.lo, fun o => by rw [World.frozen?_setCell]; exact h.fz o, by have := h.lt; simpa [World.setCell] using this⟩
theorem FlAt.s6 {W w : World} {F : Nat} {wid prec : Int} {hw hp mi pl sh sp ze : Bool} (h : FlAt W w F wid prec hw hp mi pl sh sp ze) (x : Bool) : FlAt W (w.setCell ⟨F, 6, none⟩ (.bool x)) F wid prec hw hp mi pl x sp ze :=
  have o : ∀ i, i ≠ 6 → (w.setCell ⟨F, 6, none⟩ (.bool x)).cell? ⟨F, i, none⟩ = w.cell? ⟨F, i, none⟩ := fun i hi => cell_other (fun e => hi (congrArg Addr.off e))
  ⟨(o 0 (by decide)).trans h.c0, (o 1 (by decide)).trans h.c1, (o 2 (by decide)).trans h.c2, (o 3 (by decide)).trans h.c3, (o 4 (by decide)).trans h.c4, (o 5 (by decide)).trans h.c5, cell_same h.c6, (o 7 (by decide)).trans h.c7, (o 8 (by decide)).trans h.c8, h.st.setCell h.lo _, h.lo, fun o => by rw [World.frozen?_setCell]; exact h.fz o, by have := h.lt; simpa [World.setCell] using this⟩
theorem FlAt.s7 {W w : World} {F : Nat} {wid prec : Int} {hw hp mi pl sh sp ze : Bool} (h : FlAt W w F wid prec hw hp mi pl sh sp ze) (x : Bool) : FlAt W (w.setCell ⟨F, 7, none⟩ (.bool x)) F wid prec hw hp mi pl sh x ze :=
  have o : ∀ i, i ≠ 7 → (w.setCell ⟨F, 7, none⟩ (.bool x)).cell? ⟨F, i, none⟩ = w.cell? ⟨F, i, none⟩ := fun i hi => cell_other (fun e => hi (congrArg Addr.off e))
  ⟨(o 0 (by decide)).trans h.c0, (o 1 (by decide)).trans h.c1, (o 2 (by decide)).trans h.c2, (o 3 (by decide)).trans h.c3, (o 4 (by decide)).trans h.c4, (o 5 (by decide)).trans h.c5, (o 6 (by decide)).trans h.c6, cell_same h.c7, (o 8 (by decide)).trans h.c8, h.st.setCell h.lo _, h.lo, fun o => by rw [World.frozen?_setCell]; exact h.fz o, by have := h.lt; simpa [World.setCell] using this⟩
theorem FlAt.s8 {W w : World} {F : Nat} {wid prec : Int} {hw hp mi pl sh sp ze : Bool} (h : FlAt W w F wid prec hw hp mi pl sh sp ze) (x : Bool) : FlAt W (w.setCell ⟨F, 8, none⟩ (.bool x)) F wid prec hw hp mi pl sh sp x :=
  have o : ∀ i, i ≠ 8 → (w.setCell ⟨F, 8, none⟩ (.bool x)).cell? ⟨F, i, none⟩ = w.cell? ⟨F, i, none⟩ := fun i hi => cell_other (fun e => hi (congrArg Addr.off e))
  ⟨(o 0 (by decide)).trans h.c0, (o 1 (by decide)).trans h.c1, (o 2 (by decide)).trans h.c2, (o 3 (by decide)).trans h.c3, (o 4 (by decide)).trans h.c4, (o 5 (by decide)).trans h.c5, (o 6 (by decide)).trans h.c6, (o 7 (by decide)).trans h.c7, cell_same h.c8, h.st.setCell h.lo _, h.lo, fun o => by rw [World.frozen?_setCell]; exact h.fz o, by have := h.lt; simpa [World.setCell] using this⟩

/-- The sign as text. -/
def sgl (neg pl sp : Bool) : List UInt8 := if neg then [45] else if pl then [43] else if sp then [32] else []
theorem sgl_len (neg pl sp : Bool) : (sgl neg pl sp).length ≤ 1 := by cases neg <;> cases pl <;> cases sp <;> decide
theorem sgl_asc (neg pl sp : Bool) : ∀ c ∈ sgl neg pl sp, c.toNat < 128 := by cases neg <;> cases pl <;> cases sp <;> decide
/-- What the law wants. -/
def wantTxt (hw mi ze : Bool) (wid : Nat) (s b : List UInt8) : List UInt8 := if ze && hw then s ++ (List.replicate (wid - (s.length + b.length)) 48 ++ b) else padTxt hw mi ze wid (s ++ b)
theorem fl_in (neg : Bool) (b : List UInt8) : outTxt false false false false 0 (sgB neg false false) b = sgn neg ++ b := by
  cases neg <;> rfl
theorem fl_plain (hw mi pl sp ze neg : Bool) (wid : Nat) (b : List UInt8) (hps : ¬ (pl = true ∧ sp = true)) (hzm : ze = true → mi = false) :
    wantTxt hw mi ze wid (sgl neg pl sp) b = outTxt hw mi pl ze wid (sgB neg sp pl) b := by
  have key : ∀ (h : UInt8) (pl : Bool), (pl || h != 43) = true → wantTxt hw mi ze wid [h] b = outTxt hw mi pl ze wid h b := fun h pl hh => by
    unfold wantTxt outTxt
    rw [hh, if_pos rfl]
    cases ze
    · simp
    · have hm := hzm rfl
      subst hm
      cases hw
      · simp
      · by_cases hl : b.length + 1 < wid
        · have hl2 : 1 + b.length = b.length + 1 := Nat.add_comm _ _
          simp [hl, hl2]
        · have h0 : wid - (b.length + 1) = 0 := by omega
          have h1 : wid - (1 + b.length) = 0 := by omega
          simp [hl, padTxt, h0, h1]
  cases neg
  · cases pl
    · cases sp
      · show wantTxt hw mi ze wid [] b = outTxt hw mi false ze wid 43 b
        unfold wantTxt outTxt
        cases ze
        · simp
        · have hm := hzm rfl
          subst hm
          cases hw
          · simp
          · simp [padTxt]
      · exact key 32 false (by decide)
    · cases sp
      · exact key 43 true (by decide)
      · exact absurd ⟨rfl, rfl⟩ hps
  · exact key 45 pl (by cases pl <;> decide)

set_option maxRecDepth 100000 in
set_option maxHeartbeats 2000000 in
theorem fl_walk_no (wide : Bool) (wid p pr k : Int) (hw hp mi pl sh sp ze : Bool) (bits : Nat) (w : World) (hU : U64 bits) (hf : fExp wide bits = fTop wide) :
    Calls Tryd.prog 5 #[.agg #[.int .i64 wid, .int .i64 p, .bool hw, .bool hp, .bool mi, .bool pl, .bool sh, .bool sp, .bool ze], .int .u64 (bits : Int), .bool wide, .int .i64 pr, .int .i64 k] w fun e w' => e = .returned (.bool true) ∧ Still w w' := by
  have hno := fun w => number_no wide bits w hU hf
  go_enter Tryd.func5, Tryd.ntmps5
  go_wp2_with fail
  refine (hno _).mono ?_
  rintro e w1 ⟨⟨b, c, rfl⟩, hk⟩
  go_wp2_with fail
  go_ret
  exact ⟨rfl, by repeat (first | exact ((Still.refl _).alloc _).trans hk | exact Still.refl _ | (with_reducible refine Still.setCell ?_ (Nat.le_refl _) _) | (with_reducible refine Still.alloc ?_ _))⟩

set_option maxRecDepth 100000 in
set_option maxHeartbeats 2000000 in
theorem fl_walk_both (wide : Bool) (wid p pr k : Int) (hw hp mi sh ze : Bool) (bits : Nat) (w : World) (hU : U64 bits) (hf : fExp wide bits ≠ fTop wide) :
    Calls Tryd.prog 5 #[.agg #[.int .i64 wid, .int .i64 p, .bool hw, .bool hp, .bool mi, .bool true, .bool sh, .bool true, .bool ze], .int .u64 (bits : Int), .bool wide, .int .i64 pr, .int .i64 k] w fun e w' => e = .returned (.bool true) ∧ Still w w' := by
  have hyes := fun w => number_fin wide bits w hU hf
  unfold fAgg at hyes
  obtain ⟨sz, hsz⟩ : ∃ sz : Int, sz = if wide then 64 else 32 := ⟨_, rfl⟩
  obtain ⟨dbl, hdbl⟩ : ∃ dbl, dbl = fDbl wide bits := ⟨_, rfl⟩
  rw [← hsz, ← hdbl] at hyes
  clear hsz hdbl
  go_enter Tryd.func5, Tryd.ntmps5
  go_wp2_with fail
  refine (hyes _).mono ?_
  rintro e w1 ⟨rfl, hk⟩
  have hF := (FlAt.alloc w wid p hw hp mi true sh true ze).still hk
  have e5 := hF.c5
  have e7 := hF.c7
  have hlt := hF.lt
  have HF := Lib.hid hF
  clear hF
  go_wp2_with fail
  go_ret
  exact ⟨rfl, by repeat (first | exact HF.out.st | exact Still.refl _ | (with_reducible refine Still.setCell ?_ (Nat.le_refl _) _) | (with_reducible refine Still.alloc ?_ _))⟩

set_option maxRecDepth 100000 in
set_option maxHeartbeats 8000000 in
theorem fl_walk_fin (wide : Bool) (wid p pr k : Int) (hw hp mi pl sh sp ze : Bool) (bits : Nat) (B : Nat) (w : World) (hT : Tabs B w) (hU : U64 bits) (hf : fExp wide bits ≠ fTop wide) (hps : ¬ (pl = true ∧ sp = true))
    (sz : Int) (hsz : sz = if wide then 64 else 32) (dbl : Nat) (hdbl : dbl = fDbl wide bits) (BD : Int → Nat → List UInt8)
    (hBD : ∀ V P, (V = 101 ∨ V = 69 ∨ V = 102 ∨ V = 103 ∨ V = 71) → P < 20 → (∃ d ds, BD V P = d :: ds ∧ 48 ≤ d.toNat ∧ d.toNat < 58) ∧ (∀ c ∈ BD V P, c.toNat < 128) ∧ (BD V P).length ≤ 20000)
    (hFL : ∀ V P hw mi pl sp ze wid, wid ≤ 5000 → (V = 101 ∨ V = 69 ∨ V = 102 ∨ V = 103 ∨ V = 71) → P < 20 → ∀ w, Tabs B w → Calls Tryd.prog 13 #[.agg #[.int .i64 (wid : Nat), .int .i64 (P : Nat), .bool hw, .bool true, .bool mi, .bool pl, .bool sh, .bool sp, .bool ze], .int .u64 dbl, .int .i64 sz, .int .u8 V, .int .i64 6] w fun e w' =>
      e = .returned (.string ⟨(outTxt hw mi pl ze wid (sgB (fNeg wide bits) sp pl) (BD V P)).toArray⟩) ∧ Still w w') :
    Calls Tryd.prog 5 #[.agg #[.int .i64 wid, .int .i64 p, .bool hw, .bool hp, .bool mi, .bool pl, .bool sh, .bool sp, .bool ze], .int .u64 (bits : Int), .bool wide, .int .i64 pr, .int .i64 k] w fun e w' => e = .returned (.bool true) ∧ Still w w' := by
  have hyes := fun w => number_fin wide bits w hU hf
  obtain ⟨NEG, hNEG⟩ : ∃ NEG, NEG = fNeg wide bits := ⟨_, rfl⟩
  unfold fAgg at hyes
  rw [← hsz, ← hdbl] at hyes
  rw [← hNEG] at hFL
  obtain ⟨P, hP20, hbP⟩ := below_det pr 20 (by decide) (by decide)
  obtain ⟨KK, hK5, hbK⟩ := below_det k 5 (by decide) (by decide)
  obtain ⟨wd, q, hwd, hcl⟩ := clean_all wid p hw hp mi pl sh sp ze
  obtain ⟨ZE, hZE⟩ : ∃ ZE, ZE = (ze && !mi) := ⟨_, rfl⟩
  rw [← hZE] at hcl
  have HFL := Lib.hid hFL
  have HBD := Lib.hid hBD
  have HBP := Lib.hid hbP
  have HBK := Lib.hid hbK
  have HCL := Lib.hid hcl
  have HZE := Lib.hid hZE
  have HPS := Lib.hid hps
  clear hsz hdbl hNEG hf hFL hBD hbP hbK hcl hZE hps
  have hpsc : pl = false ∨ (pl = true ∧ sp = false) := by
    have := HPS.out
    cases pl
    · exact Or.inl rfl
    · cases sp
      · exact Or.inr ⟨rfl, rfl⟩
      · exact absurd ⟨rfl, rfl⟩ this
  go_enter Tryd.func5, Tryd.ntmps5
  go_wp2_with fail
  refine (hyes _).mono ?_
  rintro e w1 ⟨rfl, hk⟩
  have hF := (FlAt.alloc w wid p hw hp mi pl sh sp ze).still hk
  obtain ⟨F, hFe⟩ : ∃ F, F = w.heap.size := ⟨_, rfl⟩
  rw [← hFe] at hF
  rw [← hFe]
  clear hFe
  have e0 := hF.c0; have e1 := hF.c1; have e2 := hF.c2; have e3 := hF.c3; have e4 := hF.c4; have e5 := hF.c5; have e6 := hF.c6; have e7 := hF.c7; have e8 := hF.c8
  have hlt := hF.lt
  have HF := Lib.hid hF
  clear hF hyes
  rcases hpsc with rfl | ⟨rfl, rfl⟩
  · go_wp2_with fail
    refine (HCL.out _).mono ?_
    rintro e w2 ⟨rfl, hk2⟩
    have hF2 := HF.out.still (((Still.refl _).alloc _).trans hk2)
    clear e0 e1 e2 e3 e4 e5 e6 e7 e8 hlt
    have e0 := hF2.c0; have e1 := hF2.c1; have e2 := hF2.c2; have e3 := hF2.c3; have e4 := hF2.c4; have e5 := hF2.c5; have e6 := hF2.c6; have e7 := hF2.c7; have e8 := hF2.c8
    have z0 := hF2.fz 0; have z1 := hF2.fz 1; have z2 := hF2.fz 2; have z3 := hF2.fz 3; have z4 := hF2.fz 4; have z5 := hF2.fz 5; have z6 := hF2.fz 6; have z7 := hF2.fz 7; have z8 := hF2.fz 8
    have hlt := hF2.lt
    have HF2 := Lib.hid hF2
    clear hF2 hk2
    go_upto_region 5 with fail
    have hF3 := (((((((((HF2.out.s0 wd).s1 q).s2 hw).s3 hp).s4 mi).s5 false).s6 sh).s7 sp).s8 ZE)
    generalize hw3 : World.setCell _ _ (Value.bool ZE) = w3 at hF3 ⊢
    clear hw3 e0 e1 e2 e3 e4 e5 e6 e7 e8 hlt z0 z1 z2 z3 z4 z5 z6 z7 z8
    have f1 := hF3.c1; have f3 := hF3.c3; have y1 := hF3.fz 1; have y3 := hF3.fz 3
    have HF3 := Lib.hid hF3
    clear hF3
    go_wp2_with fail
    refine (HBP.out _).mono ?_
    rintro e _ ⟨rfl, rfl⟩
    go_upto_region 6 with fail
    have hF4 := (HF3.out.s1 P).s3 true
    generalize hw4 : World.setCell _ _ (Value.bool true) = w4 at hF4 ⊢
    clear hw4 f1 f3 y1 y3
    have HF4 := Lib.hid hF4
    clear hF4
    go_cut [15] (fun v wx => ∃ V : Int, v = .int .u8 V ∧ (V = 101 ∨ V = 69 ∨ V = 102 ∨ V = 103 ∨ V = 71) ∧ w4 = wx)
    case first =>
      go_wp2_with fail
      refine (HBK.out _).mono ?_
      rintro e _ ⟨rfl, rfl⟩
      have hkk : KK = 0 ∨ KK = 1 ∨ KK = 2 ∨ KK = 3 ∨ KK = 4 := by omega
      rcases hkk with rfl | rfl | rfl | rfl | rfl
      all_goals
        go_wp2_with fail
        go_meet
        exact ⟨_, rfl, by decide, rfl⟩
    case rest =>
      obtain ⟨V, rfl, hV, rfl⟩ := hcut
      have hP := (by omega : P < 20)
      obtain ⟨⟨d, ds, hd, hd1, hd2⟩, hasc, hbl⟩ := HBD.out V P hV hP
      have hin := fun w hT => HFL.out V P false false false false false 0 (by omega) hV hP w hT
      have hout := fun w hT => HFL.out V P hw mi false sp ZE wd (by omega) hV hP w hT
      rw [fl_in] at hin
      rw [← fl_plain hw mi false sp ZE NEG wd (BD V P) (by simp) (fun h => by have := HZE.out; rw [h] at this; cases mi; rfl; simp at this)] at hout
      obtain ⟨b, hb⟩ : ∃ b, b = BD V P := ⟨_, rfl⟩
      rw [← hb] at hin hout hd hasc hbl
      obtain ⟨IN, hIN⟩ : ∃ IN : ByteArray, IN = ⟨(sgn NEG ++ b).toArray⟩ := ⟨_, rfl⟩
      have hINl : IN.data.toList = sgn NEG ++ b := by rw [hIN]
      rw [← hIN] at hin
      have hin2 : ∀ w, Tabs B w → Calls Tryd.prog 13 #[.agg #[.int .i64 0, .int .i64 P, .bool false, .bool true, .bool false, .bool false, .bool sh, .bool false, .bool false], .int .u64 dbl, .int .i64 sz, .int .u8 V, .int .i64 6] w fun e w' => e = .returned (.string IN) ∧ Still w w' := hin
      have f1 := HF4.out.c1; have f6 := HF4.out.c6
      have hT4 := HF4.out.st.tabs hT
      have HIN := Lib.hid hin2
      have HOUT := Lib.hid hout
      have HINL := Lib.hid hINl
      have HD := Lib.hid hd
      have HASC := Lib.hid hasc
      clear hin hout hin2 hIN hINl hb hd hasc
      go_wp2_with fail
      refine (HIN.out _ hT4).mono ?_
      rintro e w5 ⟨rfl, hk5⟩
      have hF5 := HF4.out.still hk5
      have g5 := hF5.c5; have g7 := hF5.c7
      have HF5 := Lib.hid hF5
      clear hF5 hk5 f1 f6
      go_upto_block 0 with fail
      go_cut [16, 17] (fun v16 v17 wx => ∃ I2 SG : ByteArray, v16 = .string I2 ∧ v17 = .string SG ∧ Hid (SG.data.toList = sgl NEG false sp) ∧ Hid (I2.data.toList = b) ∧ Still w5 wx)
      case first =>
        have hsz := list_size HINL.out
        have hbp : 0 < b.length := by rw [HD.out]; simp
        rw [List.length_append] at hsz
        have h0 : 0 < IN.size := by omega
        have hne := str_ne h0
        have hne2 : IN.toList.isEmpty = false := by simpa using hne
        have h1I : (1 : Int) ≤ IN.size := by omega
        have hx := list_idx HINL.out h0
        cases NEG
        · have hx0 : IN[0] = d := by
            rw [HD.out] at hx
            simpa [sgn] using hx.symm
          have t1 : ((d.toNat : Int) == 45) = false := by rw [beq_eq_false_iff_ne]; omega
          have t2 : ¬ (d.toNat : Int) = 45 := by omega
          clear hx
          cases sp
          · go_wp2_with fail
            go_meet
            exact ⟨IN, _, rfl, rfl, Lib.hid rfl, Lib.hid (by rw [HINL.out]; rfl), Still.refl _⟩
          · go_wp2_with fail
            go_meet
            exact ⟨IN, _, rfl, rfl, Lib.hid rfl, Lib.hid (by rw [HINL.out]; rfl), Still.refl _⟩
        · have hx0 : IN[0] = 45 := by simpa [sgn] using hx.symm
          have hd3 : Hid ((IN.extract 1 ((sgn true).length + b.length)).data.toList = b) := Lib.hid (by
            have h := drop_extract HINL.out 1
            rw [hsz] at h
            rw [h]; rfl)
          clear hx
          go_wp2_with fail
          go_region
          go_wp2_with fail
          go_meet
          exact ⟨_, _, rfl, rfl, Lib.hid rfl, hd3, (Still.refl _).drew⟩
      case rest =>
        obtain ⟨I2, SG, rfl, rfl, hSG, hI2, hk6⟩ := hcut
        have hF6 := HF5.out.still hk6
        have hsl := sgl_len NEG false sp
        have hSGz := list_size hSG.out
        have hI2z := list_size hI2.out
        have hpad := fun w => pad_spec (SG ++ I2) (sgl NEG false sp ++ b) (by rw [str_append, hSG.out, hI2.out]) (fun c hc => by
          rcases List.mem_append.1 hc with hc | hc
          · exact sgl_asc NEG false sp c hc
          · exact HASC.out c hc) (by rw [List.length_append]; omega) wd P (by omega) hw true mi false sh sp ZE w
        have e0 := hF6.c0; have e1 := hF6.c1; have e2 := hF6.c2; have e3 := hF6.c3; have e4 := hF6.c4; have e5 := hF6.c5; have e6 := hF6.c6; have e7 := hF6.c7; have e8 := hF6.c8
        obtain ⟨sl, hsl2⟩ : ∃ sl, sl = SG.size := ⟨_, rfl⟩
        obtain ⟨bl, hbl2⟩ : ∃ bl, bl = I2.size := ⟨_, rfl⟩
        have hslb : sl ≤ 1 := by omega
        have hblb : bl ≤ 20000 := by omega
        have hcc1 : ¬ ((SG.size + I2.size : Nat) : Int) > IntKind.i64.max := by rw [show IntKind.i64.max = 9223372036854775807 from rfl]; omega
        have hS1 : (SG.size : Int) ≤ 1 := by omega
        have hS2 : (I2.size : Int) ≤ 20000 := by omega
        obtain ⟨OUTS, hOUTS⟩ : ∃ OUTS : ByteArray, OUTS = ⟨(wantTxt hw mi ZE wd (sgl NEG false sp) b).toArray⟩ := ⟨_, rfl⟩
        have hout := HOUT.out
        rw [← hOUTS] at hout
        have HO := Lib.hid hout
        have HOS := Lib.hid hOUTS
        have HPAD := Lib.hid hpad
        have HF6 := Lib.hid hF6
        have HSL := Lib.hid hsl2
        have HBL := Lib.hid hbl2
        have HSGZ := Lib.hid hSGz
        have HI2Z := Lib.hid hI2z
        clear hout hOUTS hpad hF6 hk6 hsl2 hbl2 hSGz hI2z hsl g5 g7
        cases ZE
        · go_wp2_with fail
          refine (HPAD.out _).mono ?_
          rintro e w7 ⟨r, hr, rfl, hk7⟩
          have hr2 : r = OUTS := by rw [HOS.out]; exact ba_of_list hr
          subst hr2
          have hF7 := HF6.out.still hk7
          clear e0 e1 e2 e3 e4 e5 e6 e7 e8
          have e0 := hF7.c0; have e1 := hF7.c1; have e2 := hF7.c2; have e3 := hF7.c3; have e4 := hF7.c4; have e5 := hF7.c5; have e6 := hF7.c6; have e7 := hF7.c7; have e8 := hF7.c8
          have hT7 := hF7.st.tabs hT
          have HF7 := Lib.hid hF7
          clear hF7 hk7 hr hcc1
          go_wp2_with fail
          refine (HO.out _ hT7).mono ?_
          rintro e w8 ⟨rfl, hk8⟩
          go_wp2_with fail
          go_ret
          exact ⟨rfl, HF7.out.st.trans hk8⟩
        · cases hw
          · go_wp2_with fail
            refine (HPAD.out _).mono ?_
            rintro e w7 ⟨r, hr, rfl, hk7⟩
            have hr2 : r = OUTS := by rw [HOS.out]; exact ba_of_list hr
            subst hr2
            have hF7 := HF6.out.still hk7
            clear e0 e1 e2 e3 e4 e5 e6 e7 e8
            have e0 := hF7.c0; have e1 := hF7.c1; have e2 := hF7.c2; have e3 := hF7.c3; have e4 := hF7.c4; have e5 := hF7.c5; have e6 := hF7.c6; have e7 := hF7.c7; have e8 := hF7.c8
            have hT7 := hF7.st.tabs hT
            have HF7 := Lib.hid hF7
            clear hF7 hk7 hr hcc1
            go_wp2_with fail
            refine (HO.out _ hT7).mono ?_
            rintro e w8 ⟨rfl, hk8⟩
            go_wp2_with fail
            go_ret
            exact ⟨rfl, HF7.out.st.trans hk8⟩
          · go_wp2_with fail
            refine (HPAD.out _).mono ?_
            rintro e w7 ⟨r, hr, rfl, hk7⟩
            have hF7 := HF6.out.still hk7
            clear e0 e1 e2 e3 e4 e5 e6 e7 e8
            have e0 := hF7.c0; have e1 := hF7.c1; have e2 := hF7.c2; have e3 := hF7.c3; have e4 := hF7.c4; have e5 := hF7.c5; have e6 := hF7.c6; have e7 := hF7.c7; have e8 := hF7.c8
            have hT7 := hF7.st.tabs hT
            have HF7 := Lib.hid hF7
            obtain ⟨N, hN⟩ : ∃ N, N = wd - (sl + bl) := ⟨_, rfl⟩
            have HN := Lib.hid hN
            have hNb : N ≤ 5000 := by omega
            clear hF7 hk7 hr hcc1 hN
            go_wp2_with fail
            go_loopg [16] N (fun q v wr => ∃ (j : Nat) (I3 : ByteArray), v = .string I3 ∧ j + q = N ∧ Hid (I3.data.toList = List.replicate j 48 ++ b) ∧ w7 = wr)
            case atStart => exact ⟨0, I2, rfl, by omega, Lib.hid hI2.out, rfl⟩
            case round =>
              obtain ⟨j, I3, rfl, hjq, hI3, rfl⟩ := hrel
              have hz3 : I3.size = j + bl := by
                rw [list_size hI3.out, List.length_append, List.length_replicate, HBL.out, HI2Z.out]
              have hz3I : (I3.size : Int) = (j : Int) + bl := by omega
              have hSzI : (SG.size : Int) = (sl : Int) := by have := HSL.out; omega
              by_cases hj : j < N
              · have hlt : (sl : Int) + ((j : Int) + bl) < wd := by have := HN.out; omega
                have hcc2 : ¬ ((({ data := #[48] } : ByteArray).size + I3.size : Nat) : Int) > IntKind.i64.max := by rw [show IntKind.i64.max = 9223372036854775807 from rfl]; show ¬ ((1 + I3.size : Nat) : Int) > _; omega
                go_wp2_with fail
                go_roundg (gk - 1)
                case measure => omega
                case rel =>
                  refine ⟨j + 1, { data := #[48] } ++ I3, rfl, by omega, Lib.hid ?_, rfl⟩
                  rw [str_append, hI3.out, List.replicate_succ]
                  rfl
              · obtain rfl : j = N := by omega
                have hlt : ¬ (sl : Int) + ((j : Int) + bl) < wd := by have := HN.out; omega
                have hcc3 : ¬ ((SG.size + I3.size : Nat) : Int) > IntKind.i64.max := by rw [show IntKind.i64.max = 9223372036854775807 from rfl]; omega
                have hW : SG ++ I3 = OUTS := by
                  rw [HOS.out]
                  refine ba_of_list ?_
                  rw [str_append, hSG.out, hI3.out, HN.out, HSL.out, HBL.out, HSGZ.out, HI2Z.out]
                  rfl
                go_wp2_with fail
                refine (HO.out _ hT7).mono ?_
                rintro e w8 ⟨rfl, hk8⟩
                go_wp2_with fail
                go_ret
                exact ⟨rfl, HF7.out.st.trans hk8⟩
  · go_wp2_with fail
    refine (HCL.out _).mono ?_
    rintro e w2 ⟨rfl, hk2⟩
    have hF2 := HF.out.still (((Still.refl _).alloc _).trans hk2)
    clear e0 e1 e2 e3 e4 e5 e6 e7 e8 hlt
    have e0 := hF2.c0; have e1 := hF2.c1; have e2 := hF2.c2; have e3 := hF2.c3; have e4 := hF2.c4; have e5 := hF2.c5; have e6 := hF2.c6; have e7 := hF2.c7; have e8 := hF2.c8
    have z0 := hF2.fz 0; have z1 := hF2.fz 1; have z2 := hF2.fz 2; have z3 := hF2.fz 3; have z4 := hF2.fz 4; have z5 := hF2.fz 5; have z6 := hF2.fz 6; have z7 := hF2.fz 7; have z8 := hF2.fz 8
    have hlt := hF2.lt
    have HF2 := Lib.hid hF2
    clear hF2 hk2
    go_upto_region 5 with fail
    have hF3 := (((((((((HF2.out.s0 wd).s1 q).s2 hw).s3 hp).s4 mi).s5 true).s6 sh).s7 false).s8 ZE)
    generalize hw3 : World.setCell _ _ (Value.bool ZE) = w3 at hF3 ⊢
    clear hw3 e0 e1 e2 e3 e4 e5 e6 e7 e8 hlt z0 z1 z2 z3 z4 z5 z6 z7 z8
    have f1 := hF3.c1; have f3 := hF3.c3; have y1 := hF3.fz 1; have y3 := hF3.fz 3
    have HF3 := Lib.hid hF3
    clear hF3
    go_wp2_with fail
    refine (HBP.out _).mono ?_
    rintro e _ ⟨rfl, rfl⟩
    go_upto_region 6 with fail
    have hF4 := (HF3.out.s1 P).s3 true
    generalize hw4 : World.setCell _ _ (Value.bool true) = w4 at hF4 ⊢
    clear hw4 f1 f3 y1 y3
    have HF4 := Lib.hid hF4
    clear hF4
    go_cut [15] (fun v wx => ∃ V : Int, v = .int .u8 V ∧ (V = 101 ∨ V = 69 ∨ V = 102 ∨ V = 103 ∨ V = 71) ∧ w4 = wx)
    case first =>
      go_wp2_with fail
      refine (HBK.out _).mono ?_
      rintro e _ ⟨rfl, rfl⟩
      have hkk : KK = 0 ∨ KK = 1 ∨ KK = 2 ∨ KK = 3 ∨ KK = 4 := by omega
      rcases hkk with rfl | rfl | rfl | rfl | rfl
      all_goals
        go_wp2_with fail
        go_meet
        exact ⟨_, rfl, by decide, rfl⟩
    case rest =>
      obtain ⟨V, rfl, hV, rfl⟩ := hcut
      have hP := (by omega : P < 20)
      obtain ⟨⟨d, ds, hd, hd1, hd2⟩, hasc, hbl⟩ := HBD.out V P hV hP
      have hin := fun w hT => HFL.out V P false false false false false 0 (by omega) hV hP w hT
      have hout := fun w hT => HFL.out V P hw mi true false ZE wd (by omega) hV hP w hT
      rw [fl_in] at hin
      rw [← fl_plain hw mi true false ZE NEG wd (BD V P) (by simp) (fun h => by have := HZE.out; rw [h] at this; cases mi; rfl; simp at this)] at hout
      obtain ⟨b, hb⟩ : ∃ b, b = BD V P := ⟨_, rfl⟩
      rw [← hb] at hin hout hd hasc hbl
      obtain ⟨IN, hIN⟩ : ∃ IN : ByteArray, IN = ⟨(sgn NEG ++ b).toArray⟩ := ⟨_, rfl⟩
      have hINl : IN.data.toList = sgn NEG ++ b := by rw [hIN]
      rw [← hIN] at hin
      have hin2 : ∀ w, Tabs B w → Calls Tryd.prog 13 #[.agg #[.int .i64 0, .int .i64 P, .bool false, .bool true, .bool false, .bool false, .bool sh, .bool false, .bool false], .int .u64 dbl, .int .i64 sz, .int .u8 V, .int .i64 6] w fun e w' => e = .returned (.string IN) ∧ Still w w' := hin
      have f1 := HF4.out.c1; have f6 := HF4.out.c6
      have hT4 := HF4.out.st.tabs hT
      have HIN := Lib.hid hin2
      have HOUT := Lib.hid hout
      have HINL := Lib.hid hINl
      have HD := Lib.hid hd
      have HASC := Lib.hid hasc
      clear hin hout hin2 hIN hINl hb hd hasc
      go_wp2_with fail
      refine (HIN.out _ hT4).mono ?_
      rintro e w5 ⟨rfl, hk5⟩
      have hF5 := HF4.out.still hk5
      have g5 := hF5.c5; have g7 := hF5.c7
      have HF5 := Lib.hid hF5
      clear hF5 hk5 f1 f6
      go_upto_block 0 with fail
      go_cut [16, 17] (fun v16 v17 wx => ∃ I2 SG : ByteArray, v16 = .string I2 ∧ v17 = .string SG ∧ Hid (SG.data.toList = sgl NEG true false) ∧ Hid (I2.data.toList = b) ∧ Still w5 wx)
      case first =>
        have hsz := list_size HINL.out
        have hbp : 0 < b.length := by rw [HD.out]; simp
        rw [List.length_append] at hsz
        have h0 : 0 < IN.size := by omega
        have hne := str_ne h0
        have hne2 : IN.toList.isEmpty = false := by simpa using hne
        have h1I : (1 : Int) ≤ IN.size := by omega
        have hx := list_idx HINL.out h0
        cases NEG
        · have hx0 : IN[0] = d := by
            rw [HD.out] at hx
            simpa [sgn] using hx.symm
          have t1 : ((d.toNat : Int) == 45) = false := by rw [beq_eq_false_iff_ne]; omega
          have t2 : ¬ (d.toNat : Int) = 45 := by omega
          clear hx
          go_wp2_with fail
          go_meet
          exact ⟨IN, _, rfl, rfl, Lib.hid rfl, Lib.hid (by rw [HINL.out]; rfl), Still.refl _⟩
        · have hx0 : IN[0] = 45 := by simpa [sgn] using hx.symm
          have hd3 : Hid ((IN.extract 1 ((sgn true).length + b.length)).data.toList = b) := Lib.hid (by
            have h := drop_extract HINL.out 1
            rw [hsz] at h
            rw [h]; rfl)
          clear hx
          go_wp2_with fail
          go_region
          go_wp2_with fail
          go_meet
          exact ⟨_, _, rfl, rfl, Lib.hid rfl, hd3, (Still.refl _).drew⟩
      case rest =>
        obtain ⟨I2, SG, rfl, rfl, hSG, hI2, hk6⟩ := hcut
        have hF6 := HF5.out.still hk6
        have hsl := sgl_len NEG true false
        have hSGz := list_size hSG.out
        have hI2z := list_size hI2.out
        have hpad := fun w => pad_spec (SG ++ I2) (sgl NEG true false ++ b) (by rw [str_append, hSG.out, hI2.out]) (fun c hc => by
          rcases List.mem_append.1 hc with hc | hc
          · exact sgl_asc NEG true false c hc
          · exact HASC.out c hc) (by rw [List.length_append]; omega) wd P (by omega) hw true mi true sh false ZE w
        have e0 := hF6.c0; have e1 := hF6.c1; have e2 := hF6.c2; have e3 := hF6.c3; have e4 := hF6.c4; have e5 := hF6.c5; have e6 := hF6.c6; have e7 := hF6.c7; have e8 := hF6.c8
        obtain ⟨sl, hsl2⟩ : ∃ sl, sl = SG.size := ⟨_, rfl⟩
        obtain ⟨bl, hbl2⟩ : ∃ bl, bl = I2.size := ⟨_, rfl⟩
        have hslb : sl ≤ 1 := by omega
        have hblb : bl ≤ 20000 := by omega
        have hcc1 : ¬ ((SG.size + I2.size : Nat) : Int) > IntKind.i64.max := by rw [show IntKind.i64.max = 9223372036854775807 from rfl]; omega
        have hS1 : (SG.size : Int) ≤ 1 := by omega
        have hS2 : (I2.size : Int) ≤ 20000 := by omega
        obtain ⟨OUTS, hOUTS⟩ : ∃ OUTS : ByteArray, OUTS = ⟨(wantTxt hw mi ZE wd (sgl NEG true false) b).toArray⟩ := ⟨_, rfl⟩
        have hout := HOUT.out
        rw [← hOUTS] at hout
        have HO := Lib.hid hout
        have HOS := Lib.hid hOUTS
        have HPAD := Lib.hid hpad
        have HF6 := Lib.hid hF6
        have HSL := Lib.hid hsl2
        have HBL := Lib.hid hbl2
        have HSGZ := Lib.hid hSGz
        have HI2Z := Lib.hid hI2z
        clear hout hOUTS hpad hF6 hk6 hsl2 hbl2 hSGz hI2z hsl g5 g7
        cases ZE
        · go_wp2_with fail
          refine (HPAD.out _).mono ?_
          rintro e w7 ⟨r, hr, rfl, hk7⟩
          have hr2 : r = OUTS := by rw [HOS.out]; exact ba_of_list hr
          subst hr2
          have hF7 := HF6.out.still hk7
          clear e0 e1 e2 e3 e4 e5 e6 e7 e8
          have e0 := hF7.c0; have e1 := hF7.c1; have e2 := hF7.c2; have e3 := hF7.c3; have e4 := hF7.c4; have e5 := hF7.c5; have e6 := hF7.c6; have e7 := hF7.c7; have e8 := hF7.c8
          have hT7 := hF7.st.tabs hT
          have HF7 := Lib.hid hF7
          clear hF7 hk7 hr hcc1
          go_wp2_with fail
          refine (HO.out _ hT7).mono ?_
          rintro e w8 ⟨rfl, hk8⟩
          go_wp2_with fail
          go_ret
          exact ⟨rfl, HF7.out.st.trans hk8⟩
        · cases hw
          · go_wp2_with fail
            refine (HPAD.out _).mono ?_
            rintro e w7 ⟨r, hr, rfl, hk7⟩
            have hr2 : r = OUTS := by rw [HOS.out]; exact ba_of_list hr
            subst hr2
            have hF7 := HF6.out.still hk7
            clear e0 e1 e2 e3 e4 e5 e6 e7 e8
            have e0 := hF7.c0; have e1 := hF7.c1; have e2 := hF7.c2; have e3 := hF7.c3; have e4 := hF7.c4; have e5 := hF7.c5; have e6 := hF7.c6; have e7 := hF7.c7; have e8 := hF7.c8
            have hT7 := hF7.st.tabs hT
            have HF7 := Lib.hid hF7
            clear hF7 hk7 hr hcc1
            go_wp2_with fail
            refine (HO.out _ hT7).mono ?_
            rintro e w8 ⟨rfl, hk8⟩
            go_wp2_with fail
            go_ret
            exact ⟨rfl, HF7.out.st.trans hk8⟩
          · go_wp2_with fail
            refine (HPAD.out _).mono ?_
            rintro e w7 ⟨r, hr, rfl, hk7⟩
            have hF7 := HF6.out.still hk7
            clear e0 e1 e2 e3 e4 e5 e6 e7 e8
            have e0 := hF7.c0; have e1 := hF7.c1; have e2 := hF7.c2; have e3 := hF7.c3; have e4 := hF7.c4; have e5 := hF7.c5; have e6 := hF7.c6; have e7 := hF7.c7; have e8 := hF7.c8
            have hT7 := hF7.st.tabs hT
            have HF7 := Lib.hid hF7
            obtain ⟨N, hN⟩ : ∃ N, N = wd - (sl + bl) := ⟨_, rfl⟩
            have HN := Lib.hid hN
            have hNb : N ≤ 5000 := by omega
            clear hF7 hk7 hr hcc1 hN
            go_wp2_with fail
            go_loopg [16] N (fun q v wr => ∃ (j : Nat) (I3 : ByteArray), v = .string I3 ∧ j + q = N ∧ Hid (I3.data.toList = List.replicate j 48 ++ b) ∧ w7 = wr)
            case atStart => exact ⟨0, I2, rfl, by omega, Lib.hid hI2.out, rfl⟩
            case round =>
              obtain ⟨j, I3, rfl, hjq, hI3, rfl⟩ := hrel
              have hz3 : I3.size = j + bl := by
                rw [list_size hI3.out, List.length_append, List.length_replicate, HBL.out, HI2Z.out]
              have hz3I : (I3.size : Int) = (j : Int) + bl := by omega
              have hSzI : (SG.size : Int) = (sl : Int) := by have := HSL.out; omega
              by_cases hj : j < N
              · have hlt : (sl : Int) + ((j : Int) + bl) < wd := by have := HN.out; omega
                have hcc2 : ¬ ((({ data := #[48] } : ByteArray).size + I3.size : Nat) : Int) > IntKind.i64.max := by rw [show IntKind.i64.max = 9223372036854775807 from rfl]; show ¬ ((1 + I3.size : Nat) : Int) > _; omega
                go_wp2_with fail
                go_roundg (gk - 1)
                case measure => omega
                case rel =>
                  refine ⟨j + 1, { data := #[48] } ++ I3, rfl, by omega, Lib.hid ?_, rfl⟩
                  rw [str_append, hI3.out, List.replicate_succ]
                  rfl
              · obtain rfl : j = N := by omega
                have hlt : ¬ (sl : Int) + ((j : Int) + bl) < wd := by have := HN.out; omega
                have hcc3 : ¬ ((SG.size + I3.size : Nat) : Int) > IntKind.i64.max := by rw [show IntKind.i64.max = 9223372036854775807 from rfl]; omega
                have hW : SG ++ I3 = OUTS := by
                  rw [HOS.out]
                  refine ba_of_list ?_
                  rw [str_append, hSG.out, hI3.out, HN.out, HSL.out, HBL.out, HSGZ.out, HI2Z.out]
                  rfl
                go_wp2_with fail
                refine (HO.out _ hT7).mono ?_
                rintro e w8 ⟨rfl, hk8⟩
                go_wp2_with fail
                go_ret
                exact ⟨rfl, HF7.out.st.trans hk8⟩

theorem bodyOf_head (sh : Bool) (V : Int) (P : Nat) (mant ex : List UInt8) (d : UInt8) (ds : List UInt8) (h : mant = d :: ds) : ∃ l, bodyOf sh V P mant ex = d :: l := by
  unfold bodyOf shp
  cases sh
  · exact ⟨ds ++ ex, by rw [if_neg (by decide), h]; rfl⟩
  · rw [if_pos rfl]
    by_cases hp : (shF mant).1 = true
    · rw [if_pos hp, h]; exact ⟨_, rfl⟩
    · rw [if_neg hp, h]; exact ⟨_, rfl⟩

/-- THE LAW's WALK. -/
theorem fl_walk (wide : Bool) (wid p pr k : Int) (hw hp mi pl sh sp ze : Bool) (bits : Nat) (B : Nat) (w : World) (hT : Tabs B w) (hU : U64 bits) :
    Calls Tryd.prog 5 #[.agg #[.int .i64 wid, .int .i64 p, .bool hw, .bool hp, .bool mi, .bool pl, .bool sh, .bool sp, .bool ze], .int .u64 (bits : Int), .bool wide, .int .i64 pr, .int .i64 k] w fun e w' => e = .returned (.bool true) ∧ Still w w' := by
  by_cases hf : fExp wide bits = fTop wide
  · exact fl_walk_no wide wid p pr k hw hp mi pl sh sp ze bits w hU hf
  · by_cases hps : pl = true ∧ sp = true
    · obtain ⟨rfl, rfl⟩ := hps
      exact fl_walk_both wide wid p pr k hw hp mi sh ze bits w hU hf
    · have hall : ∀ x : Int × Nat, ∃ b : List UInt8, (x.1 = 101 ∨ x.1 = 69 ∨ x.1 = 102 ∨ x.1 = 103 ∨ x.1 = 71) → x.2 < 20 → ∃ mant ex, FlTxt mant ex ∧ AFspec (fDbl wide bits) (if wide then 64 else 32) x.1 x.2 (sgn (fNeg wide bits) ++ (mant ++ ex)) ∧ b = bodyOf sh x.1 x.2 mant ex := fun x => by
        by_cases hV : x.1 = 101 ∨ x.1 = 69 ∨ x.1 = 102 ∨ x.1 = 103 ∨ x.1 = 71
        · by_cases hP : x.2 < 20
          · obtain ⟨mant, ex, h1, h2⟩ := fl_text wide bits hU hf x.1 hV x.2 (by omega)
            exact ⟨_, fun _ _ => ⟨mant, ex, h1, h2, rfl⟩⟩
          · exact ⟨[], fun _ h => absurd h hP⟩
        · exact ⟨[], fun h => absurd h hV⟩
      obtain ⟨f, hfx⟩ := Classical.axiomOfChoice hall
      refine fl_walk_fin wide wid p pr k hw hp mi pl sh sp ze bits B w hT hU hf hps _ rfl _ rfl (fun V P => f (V, P)) (fun V P hV hP => ?_) (fun V P hw mi pl sp ze wid hwid hV hP w hT => ?_)
      · obtain ⟨mant, ex, h1, _, h3⟩ := hfx (V, P) hV hP
        obtain ⟨d, ds, hm, hd1, hd2⟩ := h1.head
        obtain ⟨l, hl⟩ := bodyOf_head sh V P mant ex d ds hm
        have ha := out_ascii sh (if V = 103 ∨ V = 71 then (P : Int) else 0) P (by omega) (by split <;> omega) mant ex (fun x hx => by
          rcases h1.dig x hx with rfl | h
          · decide
          · omega) h1.exa (by rw [List.length_append]; have := h1.len; omega) (by rw [hm]; simp)
        show (∃ d ds, f (V, P) = d :: ds ∧ 48 ≤ d.toNat ∧ d.toNat < 58) ∧ (∀ c ∈ f (V, P), c.toNat < 128) ∧ (f (V, P)).length ≤ 20000
        rw [h3]
        exact ⟨⟨d, l, hl, hd1, hd2⟩, ha.2, ha.1.2⟩
      · obtain ⟨mant, ex, h1, h2, h3⟩ := hfx (V, P) hV hP
        exact implFloat_full (fDbl wide bits) (if wide then 64 else 32) V 6 hw mi pl sh sp ze wid P B w hT hV hwid (by omega) (fNeg wide bits) mant ex h1 h2 _ (by rw [← h3])

end Go.Proofs.YthfjpofbaeeafaaDoor
