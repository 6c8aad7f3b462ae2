/-
  ZZFloat and impl.Float with all flags, for a number whose text is known.
-/
import Derived.Test.YthfjpofbaeeafaaDoorFS
namespace Go.Proofs.YthfjpofbaeeafaaDoor
open Go.RowKit

theorem shF_has (l : List UInt8) : (shF l).1 = decide ((46 : UInt8) ∈ l) := by
  have h : ∀ (l : List UInt8) (st : Bool × Bool × Nat), (l.foldl shStep st).1 = (st.1 || decide ((46 : UInt8) ∈ l)) := by
    intro l
    induction l with
    | nil => intro st; simp
    | cons c l ih =>
      intro st
      rw [List.foldl_cons, ih]
      unfold shStep
      by_cases h1 : c = 46
      · subst h1; simp
      · rw [if_neg h1]
        have h2 : ¬ (46 : UInt8) = c := fun e => h1 e.symm
        split <;> simp [h2]
  have := h l (false, false, 0)
  simpa [shF] using this

theorem padTxt_ne (hw mi ze : Bool) (wid : Nat) (l : List UInt8) (h : l ≠ []) : padTxt hw mi ze wid l ≠ [] := by
  unfold padTxt
  split
  · split
    · intro e; exact h (List.append_eq_nil_iff.1 e).1
    · intro e; exact h (List.append_eq_nil_iff.1 e).2
  · exact h
theorem outTxt_ne (hw mi pl ze : Bool) (wid : Nat) (h : UInt8) (b : List UInt8) (hb : b ≠ []) : outTxt hw mi pl ze wid h b ≠ [] := by
  unfold outTxt
  split
  · split
    · exact List.cons_ne_nil _ _
    · exact padTxt_ne _ _ _ _ _ (List.cons_ne_nil _ _)
  · exact padTxt_ne _ _ _ _ _ hb

/-- What is written of the number. -/
def bodyOf (sh : Bool) (verb : Int) (P : Nat) (mant ex : List UInt8) : List UInt8 := if sh then shp (if verb = 103 ∨ verb = 71 then (P : Int) else 0) mant ex else mant ++ ex
theorem bodyOf_ne (sh : Bool) (verb : Int) (P : Nat) (mant ex : List UInt8) (hm : mant ≠ []) : bodyOf sh verb P mant ex ≠ [] := by
  unfold bodyOf
  split
  · unfold shp
    split
    · intro e; exact hm (List.append_eq_nil_iff.1 e).1
    · intro e; exact absurd (List.append_eq_nil_iff.1 e).1 (by simp)
  · intro e; exact hm (List.append_eq_nil_iff.1 e).1

/-- A number's text: what is asked of it. -/
structure FlTxt (mant ex : List UInt8) : Prop where
  head : ∃ d ds, mant = d :: ds ∧ 48 ≤ d.toNat ∧ d.toNat < 58
  dig : ∀ c ∈ mant, c = 46 ∨ 48 ≤ c.toNat ∧ c.toNat < 58
  form : ex = [] ∨ ∃ c l, ex = c :: l ∧ (c = 101 ∨ c = 69)
  exa : ∀ c ∈ ex, c.toNat < 128
  len : mant.length + ex.length ≤ 9000

set_option maxRecDepth 100000 in
set_option maxHeartbeats 1000000 in
theorem zzFloat_full (bits : Nat) (size verb prec : Int) (hw mi pl sh sp ze : Bool) (wid P : Nat) (B : Nat) (w : World) (hT : Tabs B w)
    (hverb : verb = 101 ∨ verb = 69 ∨ verb = 102 ∨ verb = 103 ∨ verb = 71) (hwid : wid ≤ 5000) (hP : P ≤ 1000) (neg : Bool) (mant ex : List UInt8) (hX : FlTxt mant ex)
    (hA : AFspec bits size verb P (sgn neg ++ (mant ++ ex))) (out : List UInt8) (hout : out = outTxt hw mi pl ze wid (sgB neg sp pl) (bodyOf sh verb P mant ex)) :
    Calls Tryd.prog 26 #[.agg #[.int .i64 wid, .int .i64 P, .bool hw, .bool true, .bool mi, .bool pl, .bool sh, .bool sp, .bool ze, .bool false, .bool false], .int .u64 bits, .int .i64 size, .int .i32 verb, .int .i64 prec] w fun e w' =>
      e = .returned (.string ⟨out.toArray⟩) ∧ w.keptBut w' (fun _ => False) := by
  have hx := ext38 bits
  obtain ⟨d, ds, hm, hd1, hd2⟩ := hX.head
  have hne : out ≠ [] := by rw [hout]; exact outTxt_ne _ _ _ _ _ _ _ (bodyOf_ne _ _ _ _ _ (by rw [hm]; exact List.cons_ne_nil _ _))
  have hsl : (sgn neg).length ≤ 1 := by cases neg <;> decide
  have hlen : (sgn neg ++ (mant ++ ex)).length ≤ 10000 := by
    rw [List.length_append, List.length_append]
    have := hX.len
    omega
  go_enter Tryd.func26, Tryd.ntmps26
  go_wp2_with fail
  refine (zzFmt_any _ _ _ _ _ _ _ _ _ _ _ _ _).mono ?_
  rintro e w1 ⟨rfl, hh1, hs1, hb1⟩
  have hk1 : w.keptBut w1 (fun _ => False) := World.keptBut_trans (World.keptBut_trans (World.keptBut_alloc _ _ _) (World.keptBut_alloc _ _ _)) (hb1.frame _)
  have hcb : w1.cell? ⟨w.heap.size + 1, 0, none⟩ = some (.slice none 0 0) := (hb1.cell (p := ⟨w.heap.size + 1, 0, none⟩) (by simp)).trans (by
    simp)
  have hfb : w1.frozen? ⟨w.heap.size + 1, 0, none⟩ = false := (hb1.frozen (p := ⟨w.heap.size + 1, 0, none⟩) (by simp)).trans (by
    simp)
  simp only [World.size_alloc] at hh1 hs1
  have hF := fc_of_heap hh1
  have hR := row_of_heap hh1
  have hT1 : Tabs B w1 := hT.kept hk1 (fun _ _ h => h)
  have hTle := hT.le
  have hcall := fmtFloat_full (w.heap.size + 1 + 1 + 1) (w.heap.size + 1) bits size verb prec hw mi pl sh sp ze wid P 0 _ B w1 hT1 (by omega) hverb hwid hP hF hR hcb hfb hA neg mant ex rfl d ds hm hd1 hd2 hX.dig hX.form hX.exa hlen (by omega) (by omega)
  rw [show outTxt hw mi pl ze wid (sgB neg sp pl) (if sh then shp (if verb = 103 ∨ verb = 71 then (P : Int) else 0) mant ex else mant ++ ex) = out from hout.symm] at hcall
  have HC := Lib.hid hcall
  have HH := Lib.hid hs1
  have HHH := Lib.hid hh1
  have HNE := Lib.hid hne
  clear hs1 hh1 hF hR hcb hfb hcall hA hX hm hd1 hd2 hout hverb hlen hne hsl
  go_wp2_with fail
  refine HC.out.mono ?_
  rintro e w2 ⟨rfl, hB2, hk2⟩
  obtain ⟨hz2, ⟨_, hnil⟩ | ⟨g, c, bv, hc2, hr2, hg2, hcp⟩⟩ := hB2
  · exact absurd hnil HNE.out
  · rw [hr2.val] at hc2
    have hconv := run_convert_bytes_back (P := Tryd.prog) w2 74 9 5 ⟨g, 0, none⟩ c out Tryd.underlying74 Tryd.underlying5 Tryd.underlying9 (fun j hj => by
      rw [Addr.add_lit, hr2.get j hj, bc_get out j hj])
    have hkk : Still w w2 := keptBut_then hk1 hk2 (fun p hp => Or.inr (by rcases hp with e | e <;> omega))
    have HK := Lib.hid hkk
    clear hr2 hk2 hg2 hkk hk1 HC HNE
    go_wp2_with fail
    go_ret
    exact ⟨rfl, HK.out⟩

/-- impl.Float with all flags. -/
theorem implFloat_full (bits : Nat) (size verb prec : Int) (hw mi pl sh sp ze : Bool) (wid P : Nat) (B : Nat) (w : World) (hT : Tabs B w)
    (hverb : verb = 101 ∨ verb = 69 ∨ verb = 102 ∨ verb = 103 ∨ verb = 71) (hwid : wid ≤ 5000) (hP : P ≤ 1000) (neg : Bool) (mant ex : List UInt8) (hX : FlTxt mant ex)
    (hA : AFspec bits size verb P (sgn neg ++ (mant ++ ex))) (out : List UInt8) (hout : out = outTxt hw mi pl ze wid (sgB neg sp pl) (bodyOf sh verb P mant ex)) :
    Calls Tryd.prog 13 #[.agg #[.int .i64 wid, .int .i64 P, .bool hw, .bool true, .bool mi, .bool pl, .bool sh, .bool sp, .bool ze], .int .u64 bits, .int .i64 size, .int .u8 verb, .int .i64 prec] w fun e w' =>
      e = .returned (.string ⟨out.toArray⟩) ∧ Still w w' := by
  have hvb : IntKind.i32.wrap verb = verb := by rw [IntKind.wrap_i32]; omega
  have hz := fun w hT => zzFloat_full bits size verb prec hw mi pl sh sp ze wid P B w hT hverb hwid hP neg mant ex hX hA out hout
  have HZ := Lib.hid hz
  clear hz hX hA hout hverb
  go_enter Tryd.func13, Tryd.ntmps13
  go_wp2_with (go_at_call 27; refine (flags_any _ _ _ _ _ _ _ _ _ _).mono ?_; rintro e w1 ⟨rfl, hk1⟩)
  refine (HZ.out _ (hk1.tabs ((Still.refl w).alloc _ |>.tabs hT))).mono ?_
  rintro e w2 ⟨rfl, hk2⟩
  go_wp2_with fail
  go_ret
  exact ⟨rfl, ((Still.refl w).alloc _).trans (hk1.trans hk2)⟩

end Go.Proofs.YthfjpofbaeeafaaDoor
