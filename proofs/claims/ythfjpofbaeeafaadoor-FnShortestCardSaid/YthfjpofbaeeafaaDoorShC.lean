/-
  'laws.FnShortest' returns true whatever the input, with its arguments read as before: the tied card, with no condition of its own.
-/
import Derived.Test.YthfjpofbaeeafaaDoorLaid
import Derived.Test.YthfjpofbaeeafaaDoorShW
import Derived.Test.YthfjpofbaeeafaaDoorCards
import Derived.Test.YthfjpofbaeeafaaDoorTie
import Derived.WalkKit
import Derived.ProofKit
import Derived.OpenShut
import Derived.SevenTiedAt
namespace Go.Proofs.YthfjpofbaeeafaaDoor
open Go.ChangeShapes Go.WideShapes Go.ChangeAt Go.RowKit

theorem own : ownKnob Tryd.prog.godebug = none := by kernel_rfl
theorem theLaid_plain (w : World) : laidMetH Tryd.prog theLaid w = laidMet Tryd.prog theLaid w := MakeChecks.laidMetH_plain _ _ _ (by kernel_rfl)
theorem wit_laid (os : Os) (args : Array Value) : laidMetH Tryd.prog theLaid ((World.laidAll Tryd.prog os theLaid).forCall (fun _ _ => 0) ⟨#[], args, []⟩).memory := by
  rw [theLaid_plain]
  exact laidMet_laidAll _ (by kernel_rfl) (by kernel_rfl)

set_option maxRecDepth 100000 in
theorem shc_lifted (os : Os) (started : os.Started) (H : Type) (enc : TypeId × Value → H) :
    ReturnsInHanded {} Tryd.checked os 10 .any (fun w args => (Rows.fnShortestSpec.pre enc Tryd.prog Tryd.f10 [] false w args ∧ laidMetH Tryd.prog theLaid w) ∧ sizedMet enc Tryd.prog Tryd.f10 (OpenSpec.ofChange Rows.fnShortestSpec) false w args)
      (Rows.fnShortestSpec.post enc Tryd.prog Tryd.f10 false true false false) := by
  refine returnsInHanded_of_change_and (C := Tryd.checked) (X := fun w _ => laidMetH Tryd.prog theLaid w) (fun _ _ _ hh h => h.of_heap hh) own started (by kernel_rfl) Tryd.func10
    (ChangeSpec.witness_shaped (enc := enc) (C := Tryd.checked) (os := os) (X := fun w _ => laidMetH Tryd.prog theLaid w) false (World.laidAll Tryd.prog os theLaid) #[.int .u64 0, .bool false, .int .i64 0] 8 (World.laidAll_os _ _ _)
      (World.shaped_of_ZipB (by kernel_rfl) (by kernel_rfl)) (by kernel_rfl) (by kernel_rfl) (by kernel_rfl) (wit_laid os _)) ?_
  intro W base args ds gs before hval0 hW _ _ hL _
  have hval : ∀ (j : Nat) t v, Tryd.f10.params[j]? = some t → args[j]? = some v → Value.okWide Tryd.prog W .any base t v := hval0
  have hW' := hW
  obtain ⟨p, q, hA0, hV, rfl, _, _⟩ := hW
  have hA : DataW.TrodAll enc Tryd.prog W 0 (fun _ => true) true Tryd.f10.params.toList args.toList ds p := hA0
  rw [Tryd.params10] at hA hval
  obtain ⟨v0, vs0, d0, ds0, p0, q0, hargs, rfl, rfl, h0, r0⟩ := trodAll_cons hA
  obtain ⟨v1, vs1, d1, ds1, p1, q1, rfl, rfl, rfl, h1, r1⟩ := trodAll_cons r0
  obtain ⟨v2, vs2, d2, ds2, p2, q2, rfl, rfl, rfl, h2, r2⟩ := trodAll_cons r1
  obtain ⟨rfl, rfl, rfl⟩ := trodAll_nil r2
  obtain rfl : args = #[v0, v1, v2] := by cases args; simp_all
  obtain ⟨rfl, rfl⟩ := trodVars_none hV
  obtain ⟨bits, rfl, rfl, rfl, w0⟩ := open_int Tryd.underlying22 (hval 0 22 v0 rfl rfl) h0
  obtain ⟨wide, rfl, rfl, rfl⟩ := open_bool Tryd.underlying4 (hval 1 4 v1 rfl rfl) h1
  obtain ⟨k, rfl, rfl, rfl, w2⟩ := open_int Tryd.underlying3 (hval 2 3 v2 rfl rfl) h2
  simp only [List.append_nil] at hW'
  have hb : 0 ≤ bits ∧ bits ≤ 18446744073709551615 := by simpa [Lit.wf, IntKind.min, IntKind.max, IntKind.signed, IntKind.bits] using w0
  rw [theLaid_plain] at hL
  obtain ⟨n, rfl⟩ : ∃ n : Nat, bits = (n : Int) := ⟨bits.toNat, by omega⟩
  have hb2 : -9223372036854775808 ≤ k ∧ k ≤ 9223372036854775807 := by simpa [Lit.wf, IntKind.min, IntKind.max, IntKind.signed, IntKind.bits] using w2
  refine (sh_walk wide k n W.heap.size W (tabs_of hL) (by unfold U64; omega)).mono fun e W' ⟨he, hk⟩ => ?_
  subst he
  exact ⟨_, rfl, _, _, _, [], [], [], hW', trodAll_mk1 (shut_bool Tryd.underlying4 _), trodAll_cons_mk (shut_int Tryd.underlying22 w0) (trodAll_cons_mk (shut_bool Tryd.underlying4 _) (trodAll_cons_mk (shut_int Tryd.underlying3 w2) trodAll_mk0)), rfl, World.keptBut_mono (fun _ f => f.elim) hk, fun h => by cases h⟩

theorem shc_holds : Rows.FnShortestSaid :=
  OpenClaim.holds_of_wide 10 Tryd.f10 rfl rfl rfl rfl rfl rfl rfl ⟨rfl, rfl, rfl, rfl, rfl⟩ rfl rfl rfl rfl rfl (by kernel_rfl) Tryd.func10 (by kernel_rfl)
    (of_decide_eq_true (by kernel_rfl)) (by unfold Func.isWrapper; first | (rw [if_pos (by decide +kernel)]; kernel_rfl) | (rw [if_neg (by decide +kernel)]; exact ⟨rfl, rfl⟩))
    (fun os started H enc _ => shc_lifted os started H enc)

theorem shc_plain (f : FuncId) (fn : Func) (hf : Tryd.pinned.checked.prog.funcNamed "valuesastext/laws.FnShortest" = some f) (hfn : Tryd.pinned.checked.prog.funcs[f]? = some fn) :
    false = Tryd.pinned.checked.prog.looks [] ∧ ∀ (j : Nat) t, fn.params[j]? = some t → Tryd.pinned.checked.prog.wantsStandIn t = false := by
  obtain rfl : f = 10 := Option.some.inj ((show Tryd.prog.funcNamed "valuesastext/laws.FnShortest" = some 10 by kernel_rfl).symm.trans hf) |>.symm
  obtain rfl : fn = Tryd.f10 := (Option.some.inj (Tryd.func10.symm.trans hfn)).symm
  refine ⟨by kernel_rfl, fun j t ht => ?_⟩
  rw [Tryd.params10] at ht
  have hm : t ∈ [22, 4, 3] := by simpa using Array.mem_of_getElem? ht
  have hall : ([22, 4, 3].all fun u => !Tryd.prog.wantsStandIn u) = true := by kernel_rfl
  exact (show Tryd.prog.wantsStandIn t = false by simpa using List.all_eq_true.1 hall t hm)

/-- THE TIED CARD OF 'laws.FnShortest'. -/
theorem shc_card : Rows.FnShortestCardSaid :=
  Claim7.holds_tied_plain_at .later [] _ _ _ _ shc_holds (fun _ h => by cases h) (by kernel_rfl) (fun _ h => by cases h) fnShortest_row_tie rfl ⟨rfl, rfl⟩ (by kernel_rfl) rfl shc_plain (by kernel_rfl)
#print axioms shc_card
end Go.Proofs.YthfjpofbaeeafaaDoor
