/-
  'laws.FnFloatFlags' returns true whatever the input, with its arguments read as before: the tied card, with no condition of its own.
-/
import Derived.Test.YthfjpofbaeeafaaDoorLaid
import Derived.Test.YthfjpofbaeeafaaDoorFlW
import Derived.Test.YthfjpofbaeeafaaDoorCards
import Derived.Test.YthfjpofbaeeafaaDoorTie
import Derived.WalkKit
import Derived.ProofKit
import Derived.OpenShut
import Derived.SevenTiedAt
import Derived.ChangeSame
import Derived.WideShapes
namespace Go.Proofs.YthfjpofbaeeafaaDoor
open Go.ChangeShapes Go.WideShapes Go.ChangeAt Go.RowKit

theorem own : ownKnob Tryd.prog.godebug = none := by kernel_rfl
theorem theLaid_plain (w : World) : laidMetH Tryd.prog theLaid w = laidMet Tryd.prog theLaid w := MakeChecks.laidMetH_plain _ _ _ (by kernel_rfl)
theorem wit_laid (os : Os) (args : Array Value) : laidMetH Tryd.prog theLaid ((World.laidAll Tryd.prog os theLaid).forCall (fun _ _ => 0) ⟨#[], args, []⟩).memory := by
  rw [theLaid_plain]
  exact laidMet_laidAll _ (by kernel_rfl) (by kernel_rfl)

section
variable {H : Type} {enc : TypeId × Value → H} {w : World} {base : Nat} {spare : Nat → Bool} {held : Bool}
theorem c3y : Tryd.prog.cellsOf 3 = 1 := by kernel_rfl
theorem c4y : Tryd.prog.cellsOf 4 = 1 := by kernel_rfl
theorem c29y : Tryd.prog.cellsOf 29 = 9 := by kernel_rfl
set_option maxRecDepth 100000 in
/-- The flags: what an argument of this type is. -/
theorem open_flags {r : Reach} {b0 : Nat} {v : Value} {d : DataW H} {ps : List MemPlace} (hv : Value.okWide Tryd.prog w r b0 29 v) (h : DataW.Trod enc Tryd.prog w base spare held 29 v d ps) :
    ∃ (wid p : Int) (hw hp mi pl sh sp ze : Bool), v = .agg #[.int .i64 wid, .int .i64 p, .bool hw, .bool hp, .bool mi, .bool pl, .bool sh, .bool sp, .bool ze] ∧
      d = .agg [.lit (.int .i64 wid), .lit (.int .i64 p), .lit (.bool hw), .lit (.bool hp), .lit (.bool mi), .lit (.bool pl), .lit (.bool sh), .lit (.bool sp), .lit (.bool ze)] ∧ ps = [] ∧ (Lit.int .i64 wid).wf = true ∧ (Lit.int .i64 p).wf = true := by
  obtain ⟨cs, rfl, hsz⟩ := okWide_struct Tryd.underlying29 hv
  obtain ⟨l⟩ := cs
  obtain ⟨fuel, hf⟩ := h
  obtain ⟨xs, n, _, hx, hcl, hlen, hg⟩ := DataW.trod_struct Tryd.underlying29 hf
  have hl9 : l.length = 9 := by
    have := hsz.trans c29y
    simpa using this
  match l, hl9, xs, hlen with
  | [a0, a1, a2, a3, a4, a5, a6, a7, a8], _, [y0, y1, y2, y3, y4, y5, y6, y7, y8], _ =>
    have g0 := hg 0 _ rfl
    simp only [Value.cells] at g0
    have t0 : DataW.trod enc Tryd.prog w base spare held n 3 [a0] = some y0 := g0
    obtain ⟨z0, e0, q0, wf0⟩ := DataW.trod_int Tryd.underlying3 t0
    obtain rfl : a0 = _ := (List.cons.inj e0).1
    subst q0
    have g1 := hg 1 _ rfl
    simp only [Value.cells] at g1
    have t1 : DataW.trod enc Tryd.prog w base spare held n 3 [a1] = some y1 := g1
    obtain ⟨z1, e1, q1, wf1⟩ := DataW.trod_int Tryd.underlying3 t1
    obtain rfl : a1 = _ := (List.cons.inj e1).1
    subst q1
    have g2 := hg 2 _ rfl
    simp only [Value.cells] at g2
    have t2 : DataW.trod enc Tryd.prog w base spare held n 4 [a2] = some y2 := g2
    obtain ⟨z2, e2, q2⟩ := DataW.trod_bool Tryd.underlying4 t2
    obtain rfl : a2 = _ := (List.cons.inj e2).1
    subst q2
    have g3 := hg 3 _ rfl
    simp only [Value.cells] at g3
    have t3 : DataW.trod enc Tryd.prog w base spare held n 4 [a3] = some y3 := g3
    obtain ⟨z3, e3, q3⟩ := DataW.trod_bool Tryd.underlying4 t3
    obtain rfl : a3 = _ := (List.cons.inj e3).1
    subst q3
    have g4 := hg 4 _ rfl
    simp only [Value.cells] at g4
    have t4 : DataW.trod enc Tryd.prog w base spare held n 4 [a4] = some y4 := g4
    obtain ⟨z4, e4, q4⟩ := DataW.trod_bool Tryd.underlying4 t4
    obtain rfl : a4 = _ := (List.cons.inj e4).1
    subst q4
    have g5 := hg 5 _ rfl
    simp only [Value.cells] at g5
    have t5 : DataW.trod enc Tryd.prog w base spare held n 4 [a5] = some y5 := g5
    obtain ⟨z5, e5, q5⟩ := DataW.trod_bool Tryd.underlying4 t5
    obtain rfl : a5 = _ := (List.cons.inj e5).1
    subst q5
    have g6 := hg 6 _ rfl
    simp only [Value.cells] at g6
    have t6 : DataW.trod enc Tryd.prog w base spare held n 4 [a6] = some y6 := g6
    obtain ⟨z6, e6, q6⟩ := DataW.trod_bool Tryd.underlying4 t6
    obtain rfl : a6 = _ := (List.cons.inj e6).1
    subst q6
    have g7 := hg 7 _ rfl
    simp only [Value.cells] at g7
    have t7 : DataW.trod enc Tryd.prog w base spare held n 4 [a7] = some y7 := g7
    obtain ⟨z7, e7, q7⟩ := DataW.trod_bool Tryd.underlying4 t7
    obtain rfl : a7 = _ := (List.cons.inj e7).1
    subst q7
    have g8 := hg 8 _ rfl
    simp only [Value.cells] at g8
    have t8 : DataW.trod enc Tryd.prog w base spare held n 4 [a8] = some y8 := g8
    obtain ⟨z8, e8, q8⟩ := DataW.trod_bool Tryd.underlying4 t8
    obtain rfl : a8 = _ := (List.cons.inj e8).1
    subst q8
    simp only [Prod.mk.injEq] at hx
    exact ⟨z0, z1, z2, z3, z4, z5, z6, z7, z8, rfl, by simpa using hx.1, by simpa using hx.2, wf0, wf1⟩

theorem shut_flags {wid p : Int} (hw hp mi pl sh sp ze : Bool) (h0 : (Lit.int .i64 wid).wf = true) (h1 : (Lit.int .i64 p).wf = true) :
    DataW.Trod enc Tryd.prog w base spare held 29 (.agg #[.int .i64 wid, .int .i64 p, .bool hw, .bool hp, .bool mi, .bool pl, .bool sh, .bool sp, .bool ze])
      (.agg [.lit (.int .i64 wid), .lit (.int .i64 p), .lit (.bool hw), .lit (.bool hp), .lit (.bool mi), .lit (.bool pl), .lit (.bool sh), .lit (.bool sp), .lit (.bool ze)]) [] := by
  refine ⟨2, ?_⟩
  have k : ∀ x : Int, (Lit.int .i64 x).wf = true → DataW.trod enc Tryd.prog w base spare held 1 3 [.int .i64 x] = some (.lit (.int .i64 x), []) := fun x hx => by
    simp [DataW.trod, Tryd.underlying3, hx]
  have kb : ∀ b : Bool, DataW.trod enc Tryd.prog w base spare held 1 4 [.bool b] = some (.lit (.bool b), []) := fun b => by
    simp [DataW.trod, Tryd.underlying4]
  have ts := trod_struct_mk (enc := enc) (w := w) (base := base) (spare := spare) (held := held) (n := 1) (cs := [.int .i64 wid, .int .i64 p, .bool hw, .bool hp, .bool mi, .bool pl, .bool sh, .bool sp, .bool ze])
    (xs := [(.lit (.int .i64 wid), []), (.lit (.int .i64 p), []), (.lit (.bool hw), []), (.lit (.bool hp), []), (.lit (.bool mi), []), (.lit (.bool pl), []), (.lit (.bool sh), []), (.lit (.bool sp), []), (.lit (.bool ze), [])]) Tryd.underlying29 (by rw [c29y]; rfl)
    (by simp [c3y, c4y, k wid h0, k p h1, kb])
  simpa [Value.cells] using ts
end

set_option maxRecDepth 100000 in
theorem flc_lifted (os : Os) (started : os.Started) (H : Type) (enc : TypeId × Value → H) :
    ReturnsInHanded {} Tryd.checked os 5 .any (fun w args => (Rows.fnFloatFlagsSpec.pre enc Tryd.prog Tryd.f5 [] false w args ∧ laidMetH Tryd.prog theLaid w) ∧ sizedMet enc Tryd.prog Tryd.f5 (OpenSpec.ofChange Rows.fnFloatFlagsSpec) false w args)
      (Rows.fnFloatFlagsSpec.post enc Tryd.prog Tryd.f5 false true false false) := by
  refine returnsInHanded_of_change_and (C := Tryd.checked) (X := fun w _ => laidMetH Tryd.prog theLaid w) (fun _ _ _ hh h => h.of_heap hh) own started (by kernel_rfl) Tryd.func5
    (ChangeSpec.witness_shaped (enc := enc) (C := Tryd.checked) (os := os) (X := fun w _ => laidMetH Tryd.prog theLaid w) false (World.laidAll Tryd.prog os theLaid) #[.agg #[.int .i64 0, .int .i64 0, .bool false, .bool false, .bool false, .bool false, .bool false, .bool false, .bool false], .int .u64 0, .bool false, .int .i64 0, .int .i64 0] 8 (World.laidAll_os _ _ _)
      (World.shaped_of_ZipB (by kernel_rfl) (by kernel_rfl)) (by kernel_rfl) (by kernel_rfl) (by kernel_rfl) (wit_laid os _)) ?_
  intro W base args ds gs before hval0 hW _ _ hL _
  have hval : ∀ (j : Nat) t v, Tryd.f5.params[j]? = some t → args[j]? = some v → Value.okWide Tryd.prog W .any base t v := hval0
  have hW' := hW
  obtain ⟨p, q, hA0, hV, rfl, _, _⟩ := hW
  have hA : DataW.TrodAll enc Tryd.prog W 0 (fun _ => true) true Tryd.f5.params.toList args.toList ds p := hA0
  rw [Tryd.params5] at hA hval
  obtain ⟨v0, vs0, d0, ds0, p0, q0, hargs, rfl, rfl, h0, r0⟩ := trodAll_cons hA
  obtain ⟨v1, vs1, d1, ds1, p1, q1, rfl, rfl, rfl, h1, r1⟩ := trodAll_cons r0
  obtain ⟨v2, vs2, d2, ds2, p2, q2, rfl, rfl, rfl, h2, r2⟩ := trodAll_cons r1
  obtain ⟨v3, vs3, d3, ds3, p3, q3, rfl, rfl, rfl, h3, r3⟩ := trodAll_cons r2
  obtain ⟨v4, vs4, d4, ds4, p4, q4, rfl, rfl, rfl, h4, r4⟩ := trodAll_cons r3
  obtain ⟨rfl, rfl, rfl⟩ := trodAll_nil r4
  obtain rfl : args = #[v0, v1, v2, v3, v4] := by cases args; simp_all
  obtain ⟨rfl, rfl⟩ := trodVars_none hV
  obtain ⟨wid, p, hw, hp, mi, pl, sh, sp, ze, rfl, rfl, rfl, w00, w01⟩ := open_flags (hval 0 29 v0 rfl rfl) h0
  obtain ⟨bits, rfl, rfl, rfl, w1⟩ := open_int Tryd.underlying22 (hval 1 22 v1 rfl rfl) h1
  obtain ⟨wide, rfl, rfl, rfl⟩ := open_bool Tryd.underlying4 (hval 2 4 v2 rfl rfl) h2
  obtain ⟨pr, rfl, rfl, rfl, w3⟩ := open_int Tryd.underlying3 (hval 3 3 v3 rfl rfl) h3
  obtain ⟨k, rfl, rfl, rfl, w4⟩ := open_int Tryd.underlying3 (hval 4 3 v4 rfl rfl) h4
  simp only [List.append_nil] at hW'
  have hb : 0 ≤ bits ∧ bits ≤ 18446744073709551615 := by simpa [Lit.wf, IntKind.min, IntKind.max, IntKind.signed, IntKind.bits] using w1
  rw [theLaid_plain] at hL
  obtain ⟨n, rfl⟩ : ∃ n : Nat, bits = (n : Int) := ⟨bits.toNat, by omega⟩
  have hb3 : -9223372036854775808 ≤ pr ∧ pr ≤ 9223372036854775807 := by simpa [Lit.wf, IntKind.min, IntKind.max, IntKind.signed, IntKind.bits] using w3
  have hb4 : -9223372036854775808 ≤ k ∧ k ≤ 9223372036854775807 := by simpa [Lit.wf, IntKind.min, IntKind.max, IntKind.signed, IntKind.bits] using w4
  refine (fl_walk wide wid p pr k hw hp mi pl sh sp ze n W.heap.size W (tabs_of hL) (by unfold U64; omega)).mono fun e W' ⟨he, hk⟩ => ?_
  subst he
  exact ⟨_, rfl, _, _, _, [], [], [], hW', trodAll_mk1 (shut_bool Tryd.underlying4 _), trodAll_cons_mk (shut_flags hw hp mi pl sh sp ze w00 w01) (trodAll_cons_mk (shut_int Tryd.underlying22 w1) (trodAll_cons_mk (shut_bool Tryd.underlying4 _) (trodAll_cons_mk (shut_int Tryd.underlying3 w3) (trodAll_cons_mk (shut_int Tryd.underlying3 w4) trodAll_mk0)))), rfl, World.keptBut_mono (fun _ f => f.elim) hk, fun h => by cases h⟩

theorem flc_holds : Rows.FnFloatFlagsSaid :=
  OpenClaim.holds_of_wide 5 Tryd.f5 rfl rfl rfl rfl rfl rfl rfl ⟨rfl, rfl, rfl, rfl, rfl⟩ rfl rfl rfl rfl rfl (by kernel_rfl) Tryd.func5 (by kernel_rfl)
    (of_decide_eq_true (by kernel_rfl)) (by unfold Func.isWrapper; first | (rw [if_pos (by decide +kernel)]; kernel_rfl) | (rw [if_neg (by decide +kernel)]; exact ⟨rfl, rfl⟩))
    (fun os started H enc _ => flc_lifted os started H enc)

theorem flc_plain (f : FuncId) (fn : Func) (hf : Tryd.pinned.checked.prog.funcNamed "valuesastext/laws.FnFloatFlags" = some f) (hfn : Tryd.pinned.checked.prog.funcs[f]? = some fn) :
    false = Tryd.pinned.checked.prog.looks [] ∧ ∀ (j : Nat) t, fn.params[j]? = some t → Tryd.pinned.checked.prog.wantsStandIn t = false := by
  obtain rfl : f = 5 := Option.some.inj ((show Tryd.prog.funcNamed "valuesastext/laws.FnFloatFlags" = some 5 by kernel_rfl).symm.trans hf) |>.symm
  obtain rfl : fn = Tryd.f5 := (Option.some.inj (Tryd.func5.symm.trans hfn)).symm
  refine ⟨by kernel_rfl, fun j t ht => ?_⟩
  rw [Tryd.params5] at ht
  have hm : t ∈ [29, 22, 4, 3, 3] := by simpa using Array.mem_of_getElem? ht
  have hall : ([29, 22, 4, 3, 3].all fun u => !Tryd.prog.wantsStandIn u) = true := by kernel_rfl
  exact (show Tryd.prog.wantsStandIn t = false by simpa using List.all_eq_true.1 hall t hm)

/-- THE TIED CARD OF 'laws.FnFloatFlags'. -/
theorem flc_card : Rows.FnFloatFlagsCardSaid :=
  Claim7.holds_tied_plain_at .later [] _ _ _ _ flc_holds (fun _ h => by cases h) (by kernel_rfl) (fun _ h => by cases h) fnFloatFlags_row_tie rfl ⟨rfl, rfl⟩ (by kernel_rfl) rfl flc_plain (by kernel_rfl)
#print axioms flc_card
end Go.Proofs.YthfjpofbaeeafaaDoor
