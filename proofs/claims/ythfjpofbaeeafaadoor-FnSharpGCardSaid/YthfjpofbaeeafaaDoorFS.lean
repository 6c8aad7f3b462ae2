/-
  (*fmt).fmtFloat with all flags, for a number whose text is known: the verbs e, E, f, g, G with a precision.
-/
import Derived.Test.YthfjpofbaeeafaaDoorAF
import Derived.Test.YthfjpofbaeeafaaDoorWP
import Derived.Test.YthfjpofbaeeafaaDoorGL
import Derived.Deep.CutBlock
import Derived.StillTailTactics
namespace Go.Proofs.YthfjpofbaeeafaaDoor
open Go.RowKit

/-- Where the number's bytes lie. -/
structure NumAt (w wx : World) (f : Nat) (v : Value) (num : List UInt8) (g o c : Nat) : Prop where
  row : Row wx v num g o c
  kept : w.keptBut wx (fun p => ∃ j, 12 ≤ j ∧ p = .cell f j)
  pos : 0 < c
  lies : g = f ∧ 12 ≤ o ∨ w.heap.size ≤ g

/-- One byte of the number under the flag #: is there a point, was there a digit other than 0, how many digits from it on. -/
def shStep (st : Bool × Bool × Nat) (c : UInt8) : Bool × Bool × Nat :=
  if c = 46 then (true, st.2.1, st.2.2) else if c = 48 then (st.1, st.2.1, if st.2.1 then st.2.2 + 1 else st.2.2) else (st.1, true, st.2.2 + 1)
def shF (l : List UInt8) : Bool × Bool × Nat := l.foldl shStep (false, false, 0)
theorem shF_snoc (l : List UInt8) (c : UInt8) : shF (l ++ [c]) = shStep (shF l) c := by simp [shF]
/-- How many noughts. -/
def shZ (D0 : Int) (mant : List UInt8) : Nat := (D0 - (shF mant).2.2 - (if (shF mant).1 = false ∧ mant = [48] then 1 else 0)).toNat
/-- The number under the flag #. -/
def shp (D0 : Int) (mant ex : List UInt8) : List UInt8 := (if (shF mant).1 then mant else mant ++ [46]) ++ (List.replicate (shZ D0 mant) 48 ++ ex)

/-- The sign's byte. -/
def sgB (neg sp pl : Bool) : UInt8 := if neg then 45 else if sp && !pl then 32 else 43
/-- What is written. -/
def outTxt (hw mi pl ze : Bool) (wid : Nat) (h : UInt8) (b : List UInt8) : List UInt8 :=
  if pl || h != 43 then (if ze && !mi && hw && decide (b.length + 1 < wid) then h :: (List.replicate (wid - (b.length + 1)) 48 ++ b) else padTxt hw mi ze wid (h :: b)) else padTxt hw mi ze wid b

theorem BufIs.mono {w : World} {S S' bb : Nat} {xs : List UInt8} (h : BufIs w S' bb xs) (hS : S ≤ S') : BufIs w S bb xs := by
  obtain ⟨h1, h2⟩ := h
  refine ⟨h1, ?_⟩
  rcases h2 with h2 | ⟨g, c, bv, h2, h3, h4, h5⟩
  · exact Or.inl h2
  · exact Or.inr ⟨g, c, bv, h2, h3, Nat.le_trans hS h4, h5⟩

theorem out_ascii (sh : Bool) (D0 : Int) (P : Nat) (hP : P ≤ 1000) (hD : D0 ≤ P) (mant ex : List UInt8) (hm : ∀ x ∈ mant, x.toNat < 128) (he : ∀ x ∈ ex, x.toNat < 128) (hl : (mant ++ ex).length ≤ 10000) (hm1 : 1 ≤ mant.length) :
    (1 ≤ (if sh then shp D0 mant ex else mant ++ ex).length ∧ (if sh then shp D0 mant ex else mant ++ ex).length ≤ 20000) ∧ ∀ x ∈ (if sh then shp D0 mant ex else mant ++ ex), x.toNat < 128 := by
  rw [List.length_append] at hl
  cases sh
  · rw [if_neg (by decide)]
    refine ⟨by rw [List.length_append]; omega, fun x hx => ?_⟩
    rcases List.mem_append.1 hx with h | h
    · exact hm x h
    · exact he x h
  · rw [if_pos rfl]
    unfold shp
    have hz : shZ D0 mant ≤ 1000 := by unfold shZ; omega
    constructor
    · rw [List.length_append, List.length_append, List.length_replicate]
      split
      · omega
      · rw [List.length_append]; simp; omega
    · intro x hx
      rw [List.mem_append, List.mem_append] at hx
      rcases hx with h | h | h
      · split at h
        · exact hm x h
        · rw [List.mem_append, List.mem_singleton] at h
          rcases h with h | rfl
          · exact hm x h
          · decide
      · rw [(List.mem_replicate.1 h).2]; decide
      · exact he x h

theorem shF_cnt (l : List UInt8) : (shF l).2.2 ≤ l.length := by
  have h : ∀ (l : List UInt8) (st : Bool × Bool × Nat), (l.foldl shStep st).2.2 ≤ st.2.2 + l.length := by
    intro l
    induction l with
    | nil => intro st; simp
    | cons c l ih =>
      intro st
      rw [List.foldl_cons, List.length_cons]
      have h1 := ih (shStep st c)
      have h2 : (shStep st c).2.2 ≤ st.2.2 + 1 := by
        unfold shStep
        split
        · simp
        · split
          · simp only []
            split <;> omega
          · simp
      omega
  have := h l (false, false, 0)
  simpa [shF] using this

theorem row_six (w : World) : Row (w.alloc (.cells #[.int .u8 0, .int .u8 0, .int .u8 0, .int .u8 0, .int .u8 0, .int .u8 0] 90)) (.slice (some ⟨w.heap.size, 0, none⟩) 0 6) [] w.heap.size 0 6 := by
  refine ⟨rfl, by simp, by simp [maxLen], fun i hi => by simp at hi, fun j hj => ⟨?_, World.frozen?_alloc_new _ _ _ _⟩⟩
  rw [Nat.zero_add, World.cell?_alloc_new]
  have : j = 0 ∨ j = 1 ∨ j = 2 ∨ j = 3 ∨ j = 4 ∨ j = 5 := by omega
  rcases this with rfl | rfl | rfl | rfl | rfl | rfl <;> rfl

theorem Row.take {w : World} {v : Value} {xs : List UInt8} {g o c : Nat} (h : Row w v xs g o c) (n : Nat) (hn : n ≤ xs.length) : Row w (.slice (some ⟨g, o, none⟩) n c) (xs.take n) g o c := by
  have hl : (xs.take n).length = n := by rw [List.length_take]; omega
  refine ⟨by rw [hl], by have := h.le; omega, h.max, fun i hi => ?_, h.there⟩
  rw [hl] at hi
  rw [h.get i (by omega)]
  simp [bc, hi]

set_option maxRecDepth 100000 in
set_option maxHeartbeats 40000000 in
theorem fmtFloat_full (f bb bits : Nat) (size verb prec : Int) (hw mi pl sh sp ze : Bool) (wid P : Nat) (x0 : UInt8) (str : List UInt8) (B : Nat) (w : World) (hT : Tabs B w) (hBf : B ≤ f)
    (hverb : verb = 101 ∨ verb = 69 ∨ verb = 102 ∨ verb = 103 ∨ verb = 71) (hwid : wid ≤ 5000) (hP : P ≤ 1000)
    (hF : FC w f bb hw true mi pl sh sp ze wid P) (hR : Row w (.slice (some ⟨f, 12, none⟩) 1 68) [x0] f 12 68) (hB : w.cell? ⟨bb, 0, none⟩ = some (.slice none 0 0)) (hBz : w.frozen? ⟨bb, 0, none⟩ = false)
    (hA : AFspec bits size verb P str) (neg : Bool) (mant ex : List UInt8) (hstr : str = sgn neg ++ (mant ++ ex)) (d : UInt8) (ds : List UInt8) (hm : mant = d :: ds) (hd1 : 48 ≤ d.toNat) (hd2 : d.toNat < 58)
    (hmant : ∀ c ∈ mant, c = 46 ∨ 48 ≤ c.toNat ∧ c.toNat < 58) (hex : ex = [] ∨ ∃ c l, ex = c :: l ∧ (c = 101 ∨ c = 69)) (hexa : ∀ c ∈ ex, c.toNat < 128) (hlen : str.length ≤ 10000) (hbb : bb < w.heap.size) (hbf : bb ≠ f) :
    Calls Tryd.prog 37 #[.pointer (some ⟨f, 0, none⟩), .float .f64 bits, .int .i64 size, .int .i32 verb, .int .i64 prec] w fun e w' =>
      e = .returned (.tuple #[]) ∧ BufIs w' w.heap.size bb (outTxt hw mi pl ze wid (sgB neg sp pl) (if sh then shp (if verb = 103 ∨ verb = 71 then (P : Int) else 0) mant ex else mant ++ ex)) ∧ w.keptBut w' (fun p => p.block = bb ∨ p.block = f) := by
  have hA1 := hA B w f x0 hT hBf hR
  have h0 := hF.c0
  have h2 := hF.c2
  have h11 := hF.c11
  have hvb := byteOf_verb verb (by omega) (by omega)
  have hdi : (48 : Int) ≤ d.toNat := by omega
  have hdj : (d.toNat : Int) < 58 := by omega
  have hb1 : ((d.toNat : Int) == 45) = false := by simp; omega
  have hb2 : ((d.toNat : Int) == 43) = false := by simp; omega
  have hb3 : ((d.toNat : Int) == 73) = false := by simp; omega
  have hb4 : ((d.toNat : Int) == 78) = false := by simp; omega
  obtain ⟨body, hbody⟩ : ∃ body, body = mant ++ ex := ⟨_, rfl⟩
  have hbd : ∃ bs, body = d :: bs := ⟨ds ++ ex, by rw [hbody, hm]; rfl⟩
  have hbl : body.length ≤ 10000 := by
    rw [hstr, List.length_append] at hlen
    rw [hbody]; omega
  have hsl : str.length = (if neg then 1 else 0) + body.length := by
    rw [hstr, List.length_append, ← hbody]
    cases neg <;> rfl
  obtain ⟨h1b, hh1⟩ : ∃ h1b : UInt8, h1b = if neg then 45 else 43 := ⟨_, rfl⟩
  rw [← hbody] at hstr
  obtain ⟨out, hout⟩ : ∃ out, out = if sh then shp (if verb = 103 ∨ verb = 71 then (P : Int) else 0) mant ex else mant ++ ex := ⟨_, rfl⟩
  obtain ⟨h0b, hh0⟩ : ∃ h0b : UInt8, h0b = sgB neg sp pl := ⟨_, rfl⟩
  rw [← hout, ← hh0]
  have hasc : (1 ≤ out.length ∧ out.length ≤ 20000) ∧ ∀ x ∈ out, x.toNat < 128 := by
    rw [hout]
    exact out_ascii sh _ P hP (by split <;> omega) mant ex (fun x hx => by rcases hmant x hx with rfl | h; decide; omega) hexa (by rw [hbody] at hbl; exact hbl) (by rw [hm]; simp)
  have HASC := Lib.hid hasc
  clear hasc
  have HOUT := Lib.hid hout
  have HH0 := Lib.hid hh0
  have HSTR := Lib.hid hstr
  have HBODY := Lib.hid hbody
  have HM := Lib.hid hm
  have HMANT := Lib.hid hmant
  have HEX := Lib.hid hex
  have HEXA := Lib.hid hexa
  have HF := Lib.hid hF
  have HBD := Lib.hid hbd
  have HH1 := Lib.hid hh1
  have HB := Lib.hid hB
  have HBZ := Lib.hid hBz
  have HVB := Lib.hid hverb
  have HSL := Lib.hid hsl
  clear hout hh0 hstr hbody hm hmant hex hexa hF hbd hh1 hB hBz hA hR hverb hsl hlen
  go_enter Tryd.func37, Tryd.ntmps37
  go_upto_region 2 with fail
  go_cut [10] (fun v wx => ∃ g o c, v = .slice (some ⟨g, o, none⟩) (1 + str.length) c ∧ NumAt w wx f v (x0 :: str) g o c)
  case first =>
    --[A
    as_aux_lemma =>
      go_wp2_with fail
      refine hA1.mono ?_
      rintro e w1 ⟨v', g', o', c', rfl, hr1, hg1, hk1⟩
      have hlen : ([x0] ++ str).length = 1 + str.length := by rw [List.length_append]; rfl
      have hval := hr1.val
      rw [hlen] at hval
      rw [hval]
      have HR := Lib.hid hr1
      have HK := Lib.hid hk1
      have HG := Lib.hid hg1
      have HV := Lib.hid hval
      clear hr1 hk1 hg1 hval hA1
      go_wp2_with fail
      go_meet
      refine ⟨g', o', c', rfl, by rw [← HV.out]; exact HR.out, World.keptBut_mono (fun p ⟨j, _, _, e⟩ => ⟨12 + j, by omega, e⟩) HK.out, ?_, ?_⟩
      · have := HR.out.le; rw [hlen] at this; omega
      · rcases HG.out with ⟨a, b, _⟩ | ⟨a, _, _⟩
        · exact Or.inl ⟨a, by omega⟩
        · exact Or.inr a
    --]A
  case rest =>
    clear hA1
    obtain ⟨g, o, c, rfl, hn⟩ := hcut
    go_step
    go_step
    go_cut [10] (fun v wx => ∃ g o c, v = .slice (some ⟨g, o, none⟩) (1 + body.length) c ∧ NumAt w wx f v (h1b :: body) g o c)
    case first =>
      --[B
      as_aux_lemma =>
        have hrow := hn.row
        have hcl := hrow.le
        have hbl1 : (x0 :: str).length = 1 + str.length := by rw [List.length_cons, Nat.add_comm]
        rw [hbl1] at hcl
        have r0 : wc.cell? ⟨g, o, none⟩ = some (.int .u8 x0.toNat) := (hrow.get 0 (by simp)).trans (by simp [bc])
        have z0 : wc.frozen? ⟨g, o, none⟩ = false := (hrow.there 0 hn.pos).2
        have hsl := HSL.out
        obtain ⟨bs, hbs⟩ := HBD.out
        have hbb1 : body.length = bs.length + 1 := by rw [hbs]; rfl
        cases neg
        · have hst : str = body := HSTR.out
          have hbl2 : str.length = body.length := by rw [hst]
          have r1 : wc.cell? ⟨g, o + 1, none⟩ = some (.int .u8 d.toNat) := (hrow.get 1 (by rw [hbl1]; omega)).trans (by rw [hst, hbs]; simp [bc])
          have HN := Lib.hid hn
          have HST := Lib.hid hst
          rw [hbl2] at hcl ⊢
          have hcI : (1 : Int) + body.length ≤ c := by omega
          have hbp : 1 ≤ body.length := by omega
          have hbpI : (1 : Int) ≤ body.length := by omega
          clear hn hrow hst hbs hsl hbb1 hbl1 hbl2
          go_wp2_with fail
          go_meet
          have hr2 := HN.out.row
          rw [HST.out] at hr2
          refine ⟨g, o, c, rfl, ?_, ?_, HN.out.pos, HN.out.lies⟩
          · have hv := hr2.set0 (y := 43)
            rw [HH1.out]
            have e : (x0 :: body).length = 1 + body.length := by rw [List.length_cons, Nat.add_comm]
            have e2 := hr2.val
            rw [e] at e2
            exact hv
          · refine keptBut_then HN.out.kept (World.keptBut_setCell wc ⟨g, o, none⟩ _ (may := fun p => p = .cell g o) rfl) ?_
            rintro p rfl
            rcases HN.out.lies with ⟨a, b⟩ | a
            · exact Or.inl ⟨o, b, by rw [a]⟩
            · exact Or.inr a
        · have hst : str = 45 :: body := HSTR.out
          have hbl2 : str.length = body.length + 1 := by rw [hst]; rfl
          have r1 : wc.cell? ⟨g, o + 1, none⟩ = some (.int .u8 45) := (hrow.get 1 (by rw [hbl1]; omega)).trans (by rw [hst]; simp [bc])
          have HN := Lib.hid hn
          have HST := Lib.hid hst
          have hcI : (1 : Int) + str.length ≤ c := by omega
          have hbp : 1 ≤ str.length := by omega
          have hbpI : (1 : Int) ≤ str.length := by omega
          clear hn hrow hst hbs hsl hbb1 hbl1
          go_wp2_with fail
          go_meet
          refine ⟨g, o + 1, c - 1, by rw [Nat.add_comm body.length], ?_, HN.out.kept, by omega, ?_⟩
          · have hr2 := HN.out.row
            rw [HST.out] at hr2
            have h3 := hr2.tail
            rw [HH1.out]
            exact h3
          · rcases HN.out.lies with ⟨a, b⟩ | a
            · exact Or.inl ⟨a, by omega⟩
            · exact Or.inr a
      --]B
    case rest =>
      obtain ⟨g, o, c, rfl, hn⟩ := hcut
      go_step
      go_step
      go_cut [10] (fun v wx => ∃ g o c, v = .slice (some ⟨g, o, none⟩) (1 + body.length) c ∧ NumAt w wx f v (h0b :: body) g o c)
      case first =>
        --[C
        as_aux_lemma =>
          have hFc := HF.out.kept hn.kept (fun o' ho' ⟨j, hj, e⟩ => by simp only [MemPlace.cell.injEq] at e; omega)
          have hrow := hn.row
          have r0 : wc.cell? ⟨g, o, none⟩ = some (.int .u8 h1b.toNat) := (hrow.get 0 (by simp)).trans (by simp [bc])
          have z0 : wc.frozen? ⟨g, o, none⟩ = false := (hrow.there 0 hn.pos).2
          have e6 := hFc.c6
          have e4 := hFc.c4
          have HN := Lib.hid hn
          have hh1 := HH1.out
          have hh0 := HH0.out
          clear hn hrow hFc
          cases neg
          all_goals
            first | obtain rfl : h1b = 43 := hh1 | obtain rfl : h1b = 45 := hh1
            have e43 : ((43 : UInt8).toNat : Int) = 43 := rfl
            have e45 : ((45 : UInt8).toNat : Int) = 45 := rfl
            first | rw [e43] at r0 | rw [e45] at r0
            clear e43 e45
            cases sp
            all_goals
              cases pl
              all_goals
                have HHH := Lib.hid hh0
                clear hh0
                go_wp2_with fail
                go_meet
                first
                  | (refine ⟨g, o, c, rfl, ?_⟩
                     rw [HHH.out]
                     exact HN.out)
                  | (refine ⟨g, o, c, rfl, ?_, ?_, HN.out.pos, HN.out.lies⟩
                     · rw [HHH.out]
                       exact HN.out.row.set0 (y := 32)
                     · refine keptBut_then HN.out.kept (World.keptBut_setCell wc ⟨g, o, none⟩ _ (may := fun p => p = .cell g o) rfl) ?_
                       rintro p rfl
                       rcases HN.out.lies with ⟨a, b⟩ | a
                       · exact Or.inl ⟨o, b, by rw [a]⟩
                       · exact Or.inr a)
        --]C
      case rest =>
        obtain ⟨g, o, c, rfl, hn⟩ := hcut
        clear HH1 h0 h2 h11
        go_step
        go_step
        go_cut [10] (fun v wx => v = .slice (some ⟨g, o, none⟩) (1 + body.length) c ∧ wc = wx)
        case first =>
          --[D
          as_aux_lemma =>
            obtain ⟨bs, hbs⟩ := HBD.out
            have hrow := hn.row
            have hbb1 : body.length = bs.length + 1 := by rw [hbs]; rfl
            have hcl := hrow.le
            rw [List.length_cons] at hcl
            have r1 : wc.cell? ⟨g, o + 1, none⟩ = some (.int .u8 d.toNat) := (hrow.get 1 (by rw [List.length_cons]; omega)).trans (by rw [hbs]; simp [bc])
            have hcI : (1 : Int) + body.length ≤ c := by omega
            have hbp : 1 ≤ body.length := by omega
            have hbpI : (1 : Int) ≤ body.length := by omega
            clear hrow hbs hbb1 hn
            go_wp2_with fail
            go_meet
            exact ⟨rfl, rfl⟩
          --]D
        case rest =>
          obtain ⟨rfl, rfl⟩ := hcut
          go_step
          go_step
          go_cut [10] (fun v wx => ∃ g o c, v = .slice (some ⟨g, o, none⟩) (1 + out.length) c ∧ NumAt w wx f v (h0b :: out) g o c)
          case first =>
            --[E
            as_aux_lemma =>
              have hrow := hn.row
              have hcl := hrow.le
              rw [List.length_cons] at hcl
              have hFc := HF.out.kept hn.kept (fun o' ho' ⟨j, hj, e⟩ => by simp only [MemPlace.cell.injEq] at e; omega)
              have e5 := hFc.c5
              have HN := Lib.hid hn
              have hcI : (1 : Int) + body.length ≤ c := by omega
              have hverb := HVB.out
              have hv98 : (verb != 98) = true := by rw [bne_iff_ne]; omega
              clear hn hrow hFc
              cases sh
              · go_wp2_with fail
                go_meet
                have ho : out = body := by rw [HOUT.out, HBODY.out]; rfl
                rw [ho]
                exact ⟨g, o, c, rfl, HN.out⟩
              · obtain ⟨D0, hD0⟩ : ∃ D0 : Int, D0 = if verb = 103 ∨ verb = 71 then (P : Int) else 0 := ⟨_, rfl⟩
                have hDb : 0 ≤ D0 ∧ D0 ≤ 1000 := by rw [hD0]; split <;> omega
                have ho : out = shp D0 mant ex := by rw [HOUT.out, if_pos rfl, hD0]
                have HD0 := Lib.hid hD0
                have HO := Lib.hid ho
                have HVB2 := Lib.hid hverb
                clear hD0 ho hverb
                go_upto_block 0 with fail
                go_cut [12] (fun v wx => v = .int .i64 D0 ∧ wc = wx)
                case first =>
                  --[E1
                  have hd0 := HD0.out
                  have hP1 : ((P : Int) == -1) = false := by rw [beq_eq_false_iff_ne]; omega
                  rcases HVB2.out with rfl | rfl | rfl | rfl | rfl
                  all_goals
                    first | (have hd1 : D0 = 0 := hd0) | (have hd1 : D0 = P := hd0)
                    clear hd0
                    have HD1 := Lib.hid hd1
                    clear hd1
                    go_wp2_with fail
                    go_meet
                    exact ⟨by rw [HD1.out], rfl⟩
                  --]E1
                case rest =>
                  obtain ⟨rfl, rfl⟩ := hcut
                  have hv120 : (verb != 120) = true := by have := HVB2.out; rw [bne_iff_ne]; omega
                  have hv88 : (verb != 88) = true := by have := HVB2.out; rw [bne_iff_ne]; omega
                  go_upto_block 1 with fail
                  obtain ⟨T, hT⟩ : ∃ T, T = wc.heap.size := ⟨_, rfl⟩
                  obtain ⟨w1, hw1⟩ : ∃ w1, w1 = wc.alloc (.cells #[.int .u8 0, .int .u8 0, .int .u8 0, .int .u8 0, .int .u8 0, .int .u8 0] 90) := ⟨_, rfl⟩
                  have hs1 : Still wc w1 := by rw [hw1]; exact (Still.refl wc).alloc _
                  have hrT : Row w1 (.slice (some ⟨T, 0, none⟩) 0 6) [] T 0 6 := by rw [hw1, hT]; exact row_six wc
                  rw [← hw1, ← hT]
                  obtain ⟨ml, hml⟩ : ∃ ml, ml = mant.length := ⟨_, rfl⟩
                  obtain ⟨EL, hEL⟩ : ∃ EL, EL = ex.length := ⟨_, rfl⟩
                  have hbl2 : body.length = ml + EL := by rw [HBODY.out, List.length_append, hml, hEL]
                  obtain ⟨⟨has, saw, cnt⟩, hsh⟩ : ∃ r, r = shF mant := ⟨_, rfl⟩
                  have hcnt : cnt ≤ 10000 := by
                    have := shF_cnt mant
                    rw [← hsh] at this
                    have h2 : cnt ≤ mant.length := this
                    omega
                  rw [hbl2] at hcI hcl ⊢
                  have hbl3 : ml + EL ≤ 10000 := by omega
                  have HT := Lib.hid hT
                  have HML := Lib.hid hml
                  have HEL := Lib.hid hEL
                  have HSH := Lib.hid hsh
                  have HS1 := Lib.hid hs1
                  have HRT := Lib.hid hrT
                  have HBL2 := Lib.hid hbl2
                  clear hw1 hT hml hEL hsh hs1 hrT hbl2
                  go_cut [10, 12, 14, 15] (fun v10 v12 v14 v15 wx => v10 = .slice (some ⟨g, o, none⟩) (1 + ml) c ∧ v12 = .int .i64 (D0 - cnt) ∧ v15 = .bool has ∧ ∃ g2 o2 c2, v14 = .slice (some ⟨g2, o2, none⟩) EL c2 ∧ Row wx (.slice (some ⟨g2, o2, none⟩) EL c2) ex g2 o2 c2 ∧ wc.heap.size ≤ g2 ∧ Still wc wx ∧ 0 < c2)
                  case first =>
                    --[F
                    as_aux_lemma =>
                      have hwt := Went.refl HRT.out
                      have HWT := Lib.hid hwt
                      have hT2 : wc.heap.size ≤ T := by rw [HT.out]; exact Nat.le_refl _
                      clear hwt
                      go_wp2_with fail
                      go_loopg [10, 12, 14, 15, 16, 17] (ml + 1) (fun q v10 v12 v14 v15 v16 v17 wr =>
                        (∃ k ha sa cn, k + q = ml + 1 ∧ k ≤ ml ∧ Hid ((ha, sa, cn) = shF (mant.take k)) ∧ v10 = .slice (some ⟨g, o, none⟩) (1 + (ml + EL)) c ∧ v12 = .int .i64 (D0 - (cn : Nat)) ∧ v14 = .slice (some ⟨T, 0, none⟩) 0 6 ∧ v15 = .bool ha ∧ v16 = .bool sa ∧ v17 = .int .i64 ((k : Int) + 1) ∧ w1 = wr) ∨
                        (q = 0 ∧ ∃ g2 o2 c2, v10 = .slice (some ⟨g, o, none⟩) (1 + ml) c ∧ v12 = .int .i64 (D0 - (cnt : Nat)) ∧ v14 = .slice (some ⟨g2, o2, none⟩) EL c2 ∧ v15 = .bool has ∧ v16 = .bool saw ∧ v17 = .int .i64 ((ml : Int) + 2) ∧ Row wr (.slice (some ⟨g2, o2, none⟩) EL c2) ex g2 o2 c2 ∧ wc.heap.size ≤ g2 ∧ Still wc wr ∧ 0 < c2))
                      case atStart => exact Or.inl ⟨0, false, false, 0, by omega, by omega, Lib.hid rfl, rfl, by go_num, rfl, rfl, rfl, by go_num, rfl⟩
                      case round =>
                        rcases hrel with ⟨k, ha, sa, cn, hkq, hkm, hsh, rfl, rfl, rfl, rfl, rfl, rfl, rfl⟩ | ⟨rfl, g2, o2, c2, rfl, rfl, rfl, rfl, rfl, rfl, hr2, hg2, hs2, hc2⟩
                        · have hsh2 := hsh.out
                          have hcn : cn ≤ 10000 := by
                            have h1 := shF_cnt (mant.take k)
                            rw [← hsh2] at h1
                            have h2 : cn ≤ (mant.take k).length := h1
                            rw [List.length_take] at h2
                            omega
                          have hkI : (k : Int) ≤ 10000 := by omega
                          have hrn := HN.out.row
                          have HSH2 := Lib.hid hsh2
                          clear hsh hsh2
                          by_cases hk : k < ml
                          · have hkm2 : k < mant.length := by have := HML.out; omega
                            obtain ⟨x, hx⟩ : ∃ x, x = mant[k] := ⟨_, rfl⟩
                            have hbk : body[k]? = some x := by rw [HBODY.out, List.getElem?_append_left hkm2, List.getElem?_eq_getElem hkm2, hx]
                            have rk : w1.cell? ⟨g, o + (k + 1), none⟩ = some (.int .u8 x.toNat) := HS1.out.cell ((hrn.get (k + 1) (by rw [List.length_cons, HBL2.out]; omega)).trans (by unfold bc; rw [List.map_cons, List.getElem?_cons_succ, List.getElem?_map, hbk]; rfl))
                            have hsn : shF (mant.take (k + 1)) = shStep (ha, sa, cn) x := by rw [List.take_succ_eq_append_getElem hkm2, shF_snoc, ← HSH2.out, hx]
                            have hxm := HMANT.out x (by rw [hx]; exact List.getElem_mem hkm2)
                            have hlt : (k : Int) + 1 < 1 + ((ml : Int) + EL) := by omega
                            have HSN := Lib.hid hsn
                            clear hx hbk hrn hsn
                            rcases hxm with hx46 | ⟨d1, d2⟩
                            · --[F3
                              subst hx46
                              have rk2 : w1.cell? ⟨g, o + (k + 1), none⟩ = some (.int .u8 46) := rk
                              clear rk
                              go_wp2_with fail
                              go_roundg (gk - 1)
                              case measure => omega
                              case rel =>
                                refine Or.inl ⟨k + 1, true, sa, cn, by omega, by omega, Lib.hid ?_, rfl, rfl, rfl, rfl, rfl, by go_num, rfl⟩
                                rw [HSN.out]; rfl
                              --]F3
                            · by_cases hx48 : x = 48
                              · --[F4
                                subst hx48
                                have rk2 : w1.cell? ⟨g, o + (k + 1), none⟩ = some (.int .u8 48) := rk
                                clear rk
                                cases sa
                                · go_wp2_with fail
                                  go_roundg (gk - 1)
                                  case measure => omega
                                  case rel =>
                                    refine Or.inl ⟨k + 1, ha, false, cn, by omega, by omega, Lib.hid ?_, rfl, rfl, rfl, rfl, rfl, by go_num, rfl⟩
                                    rw [HSN.out]; rfl
                                · go_wp2_with fail
                                  go_roundg (gk - 1)
                                  case measure => omega
                                  case rel =>
                                    have e : D0 - ((cn + 1 : Nat) : Int) = D0 - cn - 1 := by omega
                                    refine Or.inl ⟨k + 1, ha, true, cn + 1, by omega, by omega, Lib.hid ?_, rfl, by rw [e], rfl, rfl, rfl, by go_num, rfl⟩
                                    rw [HSN.out]; rfl
                                --]F4
                              · --[F5
                                have n0 : x.toNat ≠ 48 := fun e => hx48 (UInt8.toNat_inj.1 e)
                                have t1 : ((x.toNat : Int) == 46) = false := by rw [beq_eq_false_iff_ne]; omega
                                have t2 : ((x.toNat : Int) == 112) = false := by rw [beq_eq_false_iff_ne]; omega
                                have t3 : ((x.toNat : Int) == 80) = false := by rw [beq_eq_false_iff_ne]; omega
                                have t4 : ((x.toNat : Int) == 101) = false := by rw [beq_eq_false_iff_ne]; omega
                                have t5 : ((x.toNat : Int) == 69) = false := by rw [beq_eq_false_iff_ne]; omega
                                have t6 : ((x.toNat : Int) != 48) = true := by rw [bne_iff_ne]; omega
                                have hst : shStep (ha, sa, cn) x = (ha, true, cn + 1) := by
                                  unfold shStep
                                  rw [if_neg (fun e => by rw [e] at d1; exact absurd d1 (by decide)), if_neg hx48]
                                have HST := Lib.hid hst
                                clear hst n0 hx48
                                go_wp2_with fail
                                go_roundg (gk - 1)
                                case measure => omega
                                case rel =>
                                  have e : D0 - ((cn + 1 : Nat) : Int) = D0 - cn - 1 := by omega
                                  refine Or.inl ⟨k + 1, ha, true, cn + 1, by omega, by omega, Lib.hid ?_, rfl, by rw [e], rfl, rfl, rfl, by go_num, rfl⟩
                                  rw [HSN.out, HST.out]
                                --]F5
                          · obtain rfl : k = ml := by omega
                            have htk : mant.take k = mant := List.take_of_length_le (by have := HML.out; omega)
                            have hall := HSH2.out
                            rw [htk, ← HSH.out] at hall
                            simp only [Prod.mk.injEq] at hall
                            obtain ⟨rfl, rfl, rfl⟩ := hall
                            rcases HEX.out with h0 | ⟨c0, l, hl0, hc0⟩
                            · --[F6
                              have hE0 : EL = 0 := by rw [HEL.out, h0]; rfl
                              have hm1 : ¬ (k : Int) + 1 < 1 + ((k : Int) + EL) := by omega
                              have HE0 := Lib.hid hE0
                              have H0 := Lib.hid h0
                              clear hE0 h0 hrn htk
                              go_wp2_with fail
                              go_meet
                              refine ⟨by rw [HE0.out, Nat.add_zero], rfl, rfl, T, 0, 6, by rw [HE0.out], ?_, hT2, HS1.out, by decide⟩
                              rw [HE0.out, H0.out]
                              exact HRT.out
                              --]F6
                            · --[F7
                              have hE1 : 1 ≤ EL := by rw [HEL.out, hl0]; simp
                              have hm1 : (k : Int) + 1 < 1 + ((k : Int) + EL) := by omega
                              have hbk : body[k]? = some c0 := by rw [HBODY.out, List.getElem?_append_right (by have := HML.out; omega), ← HML.out, Nat.sub_self, hl0]; rfl
                              have rk : w1.cell? ⟨g, o + (k + 1), none⟩ = some (.int .u8 c0.toNat) := HS1.out.cell ((hrn.get (k + 1) (by rw [List.length_cons, HBL2.out]; omega)).trans (by unfold bc; rw [List.map_cons, List.getElem?_cons_succ, List.getElem?_map, hbk]; rfl))
                              have hsub : 1 + (k + EL) - (k + 1) = EL := by omega
                              have hsrc : Src Tryd.prog 1 62 (.slice (some ⟨g, o + (k + 1), none⟩) EL (c - (k + 1))) ex.length (bc ex) w1 := by
                                have h1 := (hrn.sub (k + 1) (1 + (k + EL)) (by omega) (by rw [List.length_cons, HBL2.out]; omega)).still HS1.out
                                rw [hsub] at h1
                                have e : (List.drop (k + 1) (h0b :: body)).take EL = ex := by
                                  rw [List.drop_succ_cons, HBODY.out, List.drop_append_of_le_length (by have := HML.out; omega), List.drop_of_length_le (by have := HML.out; omega), List.nil_append, List.take_of_length_le (by have := HEL.out; omega)]
                                rw [e] at h1
                                have h2 := h1.src 62 Tryd.underlying62
                                exact h2
                              have HSRC := Lib.hid hsrc
                              have hcI2 : (k : Int) + 1 + 1 ≤ c := by omega
                              clear hsrc hbk hrn htk hl0
                              have hlim : ([] : List UInt8).length + ([] : List UInt8).length + ex.length ≤ 1000000000 := by have := HEL.out; simp; omega
                              rcases hc0 with rfl | rfl
                              all_goals
                                first
                                  | have rk2 : w1.cell? ⟨g, o + (k + 1), none⟩ = some (.int .u8 101) := rk
                                  | have rk2 : w1.cell? ⟨g, o + (k + 1), none⟩ = some (.int .u8 69) := rk
                                clear rk
                                go_wp2_with (at_builtin; refine wpList_went rfl _ _ 62 62 rfl Tryd.underlying62 HWT.out (by decide) (Still.refl _) rfl _ ex rfl HSRC.out hlim ?_)
                                intro n2 g2 o2 c2 w2 hW2
                                have hn2 : n2 = EL := by have := hW2.len; simp at this; rw [this, HEL.out]
                                have hr2 := hW2.row
                                rw [hn2] at hr2 ⊢
                                simp only [List.nil_append] at hr2
                                have hg2 : wc.heap.size ≤ g2 := by
                                  have := HS1.out.size
                                  rcases hW2.lies with ⟨a, _⟩ | ⟨a, _⟩ <;> omega
                                have hs2 : Still wc w2 := keptBut_then HS1.out hW2.kept (fun p ⟨j, _, _, e⟩ => Or.inr (by rw [e]; exact hT2))
                                have hc2 : 0 < c2 := by have := hr2.le; rw [← HEL.out] at this; omega
                                have HR2 := Lib.hid hr2
                                have HS2 := Lib.hid hs2
                                clear hn2 hr2 hs2 hW2
                                go_wp2_with fail
                                go_roundg 0
                                case measure => omega
                                case rel => exact Or.inr ⟨rfl, g2, o2, c2, by rw [Nat.add_comm 1 k], rfl, rfl, rfl, rfl, by go_num, HR2.out, hg2, HS2.out, hc2⟩
                              --]F7
                        · --[F2
                          have hm1 : ¬ (ml : Int) + 2 < 1 + (ml : Int) := by omega
                          have HR2 := Lib.hid hr2
                          have HS2 := Lib.hid hs2
                          clear hr2 hs2
                          go_wp2_with fail
                          go_meet
                          exact ⟨rfl, rfl, rfl, g2, o2, c2, rfl, HR2.out, hg2, HS2.out, hc2⟩
                          --]F2
                    --]F
                  case rest =>
                    obtain ⟨rfl, rfl, rfl, g2, o2, c2, rfl, hr2, hg2, hs2, hc2⟩ := hcut
                    --[G
                    as_aux_lemma =>
                      obtain ⟨wa, rfl⟩ : ∃ wa, wa = wc := ⟨_, rfl⟩
                      have hrow0 : Row wa (.slice (some ⟨g, o, none⟩) (1 + ml) c) (h0b :: mant) g o c := by
                        have h1 := (HN.out.row.still hs2).take (1 + ml) (by rw [List.length_cons, HBL2.out]; omega)
                        have e : (h0b :: body).take (1 + ml) = h0b :: mant := by
                          rw [Nat.add_comm, List.take_succ_cons, HBODY.out, List.take_append_of_le_length (by have := HML.out; omega), List.take_of_length_le (by have := HML.out; omega)]
                        rw [e] at h1
                        exact h1
                      have hgl := HN.out.row.lt HN.out.pos
                      have hgg : g2 ≠ g := by omega
                      have hgl2 : g2 < wa.heap.size := hr2.lt hc2
                      have hw0 := Went.refl hrow0
                      have hl0 : (h0b :: mant).length = 1 + ml := by rw [List.length_cons, ← HML.out, Nat.add_comm]
                      rw [hl0] at hw0
                      have hc0 := HN.out.pos
                      obtain ⟨pre, hpre⟩ : ∃ pre : List UInt8, pre = if has then [] else [46] := ⟨_, rfl⟩
                      obtain ⟨D1, hD1⟩ : ∃ D1 : Int, D1 = D0 - cnt - (if has = false ∧ mant = [48] then 1 else 0) := ⟨_, rfl⟩
                      have hDb1 : -20000 ≤ D1 ∧ D1 ≤ 1000 := by rw [hD1]; split <;> omega
                      have hprl : pre.length ≤ 1 := by rw [hpre]; split <;> decide
                      have HPRE := Lib.hid hpre
                      have HD1 := Lib.hid hD1
                      have HROW0 := Lib.hid hrow0
                      have HW0 := Lib.hid hw0
                      have HR2 := Lib.hid hr2
                      have HS2 := Lib.hid hs2
                      have HL0 := Lib.hid hl0
                      have hs46 := fun w => src_one' w 46 46 rfl 62 Tryd.underlying62
                      have hs48 := fun w => src_one' w 48 48 rfl 62 Tryd.underlying62
                      have HS46 := Lib.hid hs46
                      have HS48 := Lib.hid hs48
                      clear hpre hD1 hrow0 hw0 hr2 hs2 hl0 hs46 hs48
                      go_step
                      go_step
                      go_cut [10, 12] (fun v10 v12 wx => v12 = .int .i64 D1 ∧ ∃ n1 g1 o1 c1, v10 = .slice (some ⟨g1, o1, none⟩) n1 c1 ∧ Went wa g o c (h0b :: mant) pre n1 g1 o1 c1 wx)
                      case first =>
                        --[G1
                        as_aux_lemma =>
                          have hd1 := HD1.out
                          have hpre := HPRE.out
                          cases has
                          · obtain rfl : pre = [46] := hpre
                            have hrow0 := HROW0.out
                            have r1 : wa.cell? ⟨g, o + 1, none⟩ = some (.int .u8 d.toNat) := (hrow0.get 1 (by rw [HL0.out, HML.out, HM.out]; simp)).trans (by rw [HM.out]; simp [bc])
                            have hml1 : ml = ds.length + 1 := by rw [HML.out, HM.out]; rfl
                            have hlim : (h0b :: mant).length + ([] : List UInt8).length + ([46] : List UInt8).length ≤ 1000000000 := by rw [HL0.out]; simp; omega
                            by_cases h1 : ml = 1
                            · have hds : ds = [] := List.length_eq_zero_iff.1 (by omega)
                              by_cases h48 : d = 48
                              · have hm48 : mant = [48] := by rw [HM.out, hds, h48]
                                have hD2 : D1 = D0 - cnt - 1 := by rw [hd1, if_pos ⟨rfl, hm48⟩]
                                have r2 : wa.cell? ⟨g, o + 1, none⟩ = some (.int .u8 48) := by rw [r1, h48]; rfl
                                have HD2 := Lib.hid hD2
                                have hlI : ((1 : Int) + ml == 2) = true := by rw [beq_iff_eq]; omega
                                have hcm : (1 : Int) + ml ≤ c := by omega
                                clear hd1 hrow0 r1 hml1 hds h48 hm48 hD2
                                subst h1
                                go_wp2_with (at_builtin; refine wpList_went rfl _ _ 62 62 rfl Tryd.underlying62 HW0.out hc0 ((Still.refl _).alloc _) rfl _ [46] rfl (HS46.out _) hlim ?_)
                                intro n1 g1 o1 c1 w1 hW1
                                have HW1 := Lib.hid hW1
                                clear hW1
                                go_wp2_with fail
                                go_meet
                                exact ⟨by rw [HD2.out], n1, g1, o1, c1, rfl, HW1.out⟩
                              · have hm48 : ¬ mant = [48] := by rw [HM.out, hds]; intro e; exact h48 (List.cons.inj e).1
                                have hD2 : D1 = D0 - cnt := by rw [hd1, if_neg (fun e => hm48 e.2), Int.sub_zero]
                                have t1 : ((d.toNat : Int) == 48) = false := by
                                  have : d.toNat ≠ 48 := fun e => h48 (UInt8.toNat_inj.1 e)
                                  rw [beq_eq_false_iff_ne]; omega
                                have HD2 := Lib.hid hD2
                                clear hd1 hrow0 hml1 hds h48 hm48 hD2
                                subst h1
                                go_wp2_with (at_builtin; refine wpList_went rfl _ _ 62 62 rfl Tryd.underlying62 HW0.out hc0 ((Still.refl _).alloc _) rfl _ [46] rfl (HS46.out _) hlim ?_)
                                intro n1 g1 o1 c1 w1 hW1
                                have HW1 := Lib.hid hW1
                                clear hW1
                                go_wp2_with fail
                                go_meet
                                exact ⟨by rw [HD2.out], n1, g1, o1, c1, rfl, HW1.out⟩
                            · have hm48 : ¬ mant = [48] := fun e => h1 (by rw [HML.out, e]; rfl)
                              have hD2 : D1 = D0 - cnt := by rw [hd1, if_neg (fun e => hm48 e.2), Int.sub_zero]
                              have hlI : ((1 : Int) + ml == 2) = false := by rw [beq_eq_false_iff_ne]; omega
                              have HD2 := Lib.hid hD2
                              clear hd1 hrow0 hml1 hm48 hD2
                              go_wp2_with (at_builtin; refine wpList_went rfl _ _ 62 62 rfl Tryd.underlying62 HW0.out hc0 ((Still.refl _).alloc _) rfl _ [46] rfl (HS46.out _) hlim ?_)
                              intro n1 g1 o1 c1 w1 hW1
                              have HW1 := Lib.hid hW1
                              clear hW1
                              go_wp2_with fail
                              go_meet
                              exact ⟨by rw [HD2.out], n1, g1, o1, c1, rfl, HW1.out⟩
                          · obtain rfl : pre = [] := hpre
                            have hD2 : D1 = D0 - cnt := by rw [hd1, if_neg (fun e => by cases e.1), Int.sub_zero]
                            have HD2 := Lib.hid hD2
                            clear hd1 hD2
                            go_wp2_with fail
                            go_meet
                            exact ⟨by rw [HD2.out], _, g, o, c, rfl, HW0.out⟩
                        --]G1
                      case rest =>
                        obtain ⟨rfl, n1, g1, o1, c1, rfl, hW1⟩ := hcut
                        --[G2
                        obtain ⟨Z, hZ⟩ : ∃ Z, Z = D1.toNat := ⟨_, rfl⟩
                        have hZ1 : Z ≤ 1000 := by omega
                        have HW1 := Lib.hid hW1
                        have HZ := Lib.hid hZ
                        clear hW1 hZ
                        go_wp2_with fail
                        go_loopg [10, 12] Z (fun q v10 v12 wr => ∃ k n1 g1 o1 c1, v12 = .int .i64 (D1 - (k : Nat)) ∧ k + q = Z ∧ v10 = .slice (some ⟨g1, o1, none⟩) n1 c1 ∧ Went wa g o c (h0b :: mant) (pre ++ List.replicate k 48) n1 g1 o1 c1 wr)
                        case atStart => exact ⟨0, n1, g1, o1, c1, by go_num, by omega, rfl, by rw [List.replicate_zero, List.append_nil]; exact HW1.out⟩
                        case round =>
                          obtain ⟨k, n1, g1, o1, c1, rfl, hkq, rfl, hW1⟩ := hrel
                          have hkl : k ≤ 1000 := by omega
                          have HW1 := Lib.hid hW1
                          clear hW1
                          by_cases hk : k < Z
                          · have hpos : 0 < D1 - (k : Int) := by have := HZ.out; omega
                            have hlim : (h0b :: mant).length + (pre ++ List.replicate k 48).length + ([48] : List UInt8).length ≤ 1000000000 := by rw [HL0.out, List.length_append, List.length_replicate]; simp; omega
                            go_wp2_with (at_builtin; refine wpList_went rfl _ _ 62 62 rfl Tryd.underlying62 HW1.out hc0 ((Still.refl _).alloc _) rfl _ [48] rfl (HS48.out _) hlim ?_)
                            intro n2 g3 o3 c3 w2 hW2
                            have HW2 := Lib.hid hW2
                            clear hW2
                            go_wp2_with fail
                            go_roundg (gk - 1)
                            case measure => omega
                            case rel =>
                              have e : D1 - ((k + 1 : Nat) : Int) = D1 - k - 1 := by omega
                              refine ⟨k + 1, n2, g3, o3, c3, by rw [e], by omega, rfl, ?_⟩
                              rw [List.replicate_succ']
                              exact HW2.out
                          · obtain rfl : k = Z := by omega
                            have hnpos : ¬ 0 < D1 - (k : Int) := by have := HZ.out; omega
                            have hlim : (h0b :: mant).length + (pre ++ List.replicate k 48).length + ex.length ≤ 1000000000 := by rw [HL0.out, List.length_append, List.length_replicate, ← HEL.out]; omega
                            have htr := HR2.out.went HW1.out hgg hgl2
                            have hsrc : Src Tryd.prog 1 62 (.slice (some ⟨g2, o2, none⟩) EL c2) ex.length (bc ex) wr := htr.src 62 Tryd.underlying62
                            have HSRC := Lib.hid hsrc
                            clear htr hsrc
                            go_wp2_with (at_builtin; refine wpList_went rfl _ _ 62 62 rfl Tryd.underlying62 HW1.out hc0 (Still.refl _) rfl _ ex rfl HSRC.out hlim ?_)
                            intro n2 g3 o3 c3 w2 hW2
                            have HW2 := Lib.hid hW2
                            clear hW2
                            go_wp2_with fail
                            go_meet
                            have hW2 := HW2.out
                            have hsh := HSH.out
                            have hshZ : shZ D0 mant = k := by
                              unfold shZ
                              rw [← hsh, HZ.out, HD1.out]
                            have hout : out = mant ++ (pre ++ (List.replicate k 48 ++ ex)) := by
                              rw [HO.out]
                              unfold shp
                              rw [hshZ, ← hsh, HPRE.out]
                              cases has
                              · simp
                              · simp
                            have hrow := hW2.row
                            have hlist : (h0b :: mant) ++ (pre ++ (List.replicate k 48 ++ ex)) = h0b :: out := by rw [hout]; rfl
                            have hn2 : n2 = 1 + out.length := by
                              have := hW2.len
                              rw [this, HL0.out, hout, HML.out]
                              simp only [List.length_append, List.length_replicate]
                              omega
                            rw [hlist] at hrow
                            refine ⟨g3, o3, c3, by rw [hn2], hrow, ?_, hW2.pos hc0, ?_⟩
                            · refine keptBut_then (World.keptBut_trans HN.out.kept (World.keptBut_mono (fun _ h => h.elim) HS2.out)) hW2.kept ?_
                              rintro p ⟨j, _, _, rfl⟩
                              rcases HN.out.lies with ⟨a, b⟩ | a
                              · exact Or.inl ⟨o + j, by omega, by rw [a]⟩
                              · exact Or.inr a
                            · have hsz := HN.out.kept.size
                              have hsz2 := HS2.out.size
                              rcases hW2.lies with ⟨a, b, _⟩ | ⟨a, _⟩
                              · rw [a, b]; exact HN.out.lies
                              · exact Or.inr (by omega)
                        --]G2
                    --]G
            --]E
          case rest =>
            obtain ⟨g, o, c, rfl, hn⟩ := hcut
            --[Z
            have hFc := HF.out.kept hn.kept (fun o' ho' ⟨j, hj, e⟩ => by simp only [MemPlace.cell.injEq] at e; omega)
            have e0 := hFc.c0
            have e1 := hFc.c1
            have e3 := hFc.c3
            have e4 := hFc.c4
            have e7 := hFc.c7
            have e10 := hFc.c10
            have hsz := hn.kept.size
            have hrow := hn.row
            have r0 : wc.cell? ⟨g, o, none⟩ = some (.int .u8 h0b.toNat) := (hrow.get 0 (by simp)).trans (by simp [bc])
            have hcl : 1 + out.length ≤ c := by have := hrow.le; rw [List.length_cons] at this; omega
            have hgl : g < wc.heap.size := hrow.lt hn.pos
            have hgb : g ≠ bb := by
              rcases hn.lies with ⟨a, _⟩ | a
              · rw [a]; exact fun e => hbf e.symm
              · omega
            have hfl := hFc.lt
            have hbl' : bb < wc.heap.size := by omega
            have hB0 : BufIs wc wc.heap.size bb [] := ⟨(keptBut_frozen hn.kept (a := ⟨bb, 0, none⟩) hbb).trans HBZ.out, Or.inl ⟨(hn.kept.cell (off := 0) hbb (fun ⟨j, _, e⟩ => by simp only [MemPlace.cell.injEq] at e; exact hbf e.1)).trans HB.out, rfl⟩⟩
            have hN1 : (h0b :: out).length = 1 + out.length := by rw [List.length_cons, Nat.add_comm]
            obtain ⟨⟨hol1, hol⟩, hasc⟩ := HASC.out
            have hpadN := pad_any wc.heap.size bb f [] (h0b :: out) _ hw mi ze wid g o c wc hbl' (Nat.le_refl _) hfl (Ne.symm hbf) hB0 e0 e1 e3 e7 e10 hwid hrow hgl hgb (fun x hx => by
              rcases List.mem_cons.1 hx with rfl | hx
              · have := HH0.out; rw [this]; cases neg <;> cases sp <;> cases pl <;> decide
              · exact hasc x hx) (by rw [hN1]; simp; omega)
            have hpadT := pad_any wc.heap.size bb f [] out _ hw mi ze wid g (o + 1) (c - 1) wc hbl' (Nat.le_refl _) hfl (Ne.symm hbf) hB0 e0 e1 e3 e7 e10 hwid hrow.tail hgl hgb hasc (by simp; omega)
            rw [List.nil_append] at hpadN hpadT
            have hfin : ∀ w' txt, BufIs w' wc.heap.size bb txt → wc.keptBut w' (BufMay wc.heap.size bb) → BufIs w' w.heap.size bb txt ∧ w.keptBut w' (fun p => p.block = bb ∨ p.block = f) := fun w' txt h1 h2 =>
              ⟨h1.mono hsz, keptBut_then (World.keptBut_mono (fun p ⟨j, _, e⟩ => Or.inr (by rw [e]; rfl)) hn.kept) h2 (fun p hp => hp.imp Or.inl (fun h => Nat.le_trans hsz h))⟩
            have HPN := Lib.hid hpadN
            have HPT := Lib.hid hpadT
            have HFIN := Lib.hid hfin
            have HN := Lib.hid hn
            have HB0 := Lib.hid hB0
            have HFC := Lib.hid hFc
            have hcI : (1 : Int) + out.length ≤ c := by omega
            have hoI : (out.length : Int) ≤ 20000 := by omega
            have hc2I : (2 : Int) ≤ c := by omega
            have hi1 : (0 : Int) < 1 + (out.length : Int) := by omega
            have hi2 : 0 < 1 + out.length := by omega
            have hi3 : (1 : Int) ≤ 1 + (out.length : Int) := by omega
            have hi4 : 1 ≤ 1 + out.length := by omega
            clear hn hrow hpadN hpadT hfin hB0 hFc hN1 hasc hgb
            by_cases h43 : h0b = 43
            · cases pl
              · subst h43
                as_aux_lemma =>
                  have hr43 : wc.cell? ⟨g, o, none⟩ = some (.int .u8 43) := r0
                  clear r0
                  have hsub : 1 + out.length - 1 = out.length := by omega
                  go_wp2_with fail
                  with_reducible refine Calls.mono HPT.out ?_
                  rintro e w' ⟨rfl, hb', hk'⟩
                  go_wp2_with fail
                  go_end0
                  obtain ⟨f1, f2⟩ := HFIN.out w' _ hb' hk'
                  refine ⟨rfl, ?_, f2⟩
                  rw [show outTxt hw mi false ze wid 43 out = padTxt hw mi ze wid out from by simp [outTxt]]
                  exact f1
              · clear h43
                cases ze
                · as_aux_lemma =>
                    go_wp2_with fail
                    with_reducible refine Calls.mono HPN.out ?_
                    rintro e w' ⟨rfl, hb', hk'⟩
                    go_wp2_with fail
                    refine bodyPost_ret (results_none rfl _ _ _) rfl ?_
                    obtain ⟨f1, f2⟩ := HFIN.out w' _ hb' hk'
                    refine ⟨rfl, ?_, f2⟩
                    rw [show outTxt hw mi true false wid h0b out = padTxt hw mi false wid (h0b :: out) from by simp [outTxt]]
                    exact f1
                · cases mi
                  · cases hw
                    · as_aux_lemma =>
                        go_wp2_with fail
                        with_reducible refine Calls.mono HPN.out ?_
                        rintro e w' ⟨rfl, hb', hk'⟩
                        go_wp2_with fail
                        refine bodyPost_ret (results_none rfl _ _ _) rfl ?_
                        obtain ⟨f1, f2⟩ := HFIN.out w' _ hb' hk'
                        refine ⟨rfl, ?_, f2⟩
                        rw [show outTxt false false true true wid h0b out = padTxt false false true wid (h0b :: out) from by simp [outTxt]]
                        exact f1
                    · by_cases hwd : out.length + 1 < wid
                      · have hwdI : (1 : Int) + out.length < wid := by omega
                        as_aux_lemma =>
                          have hw4 := (bwriteByte_any wc.heap.size bb [] h0b wc.drew (by omega) (Nat.le_refl _) (HB0.out.still ((Still.refl wc).drew) hbl') (by simp))
                          have HW4 := Lib.hid hw4
                          clear hw4
                          go_wp2_with fail
                          go_still_tail 7, (by kernel_rfl)
                          change wpList _ _ _ _ _ wc.drew
                          go_wp2_with fail
                          with_reducible refine Calls.mono HW4.out ?_
                          rintro e w2 ⟨rfl, hb2, hk2⟩
                          have hk2' : wc.keptBut w2 (BufMay wc.heap.size bb) := World.keptBut_trans (World.keptBut_mono (fun _ h => h.elim) ((Still.refl wc).drew)) hk2
                          rw [List.nil_append] at hb2
                          have hFc2 := HFC.out.kept hk2' (fun o' ho' h => by
                            rcases h with h | h
                            · exact hbf h.symm
                            · exact absurd h (by show ¬ wc.heap.size ≤ f; omega))
                          have hr2 := HN.out.row.bufKept hk2' (Nat.le_refl _) hgl (by
                            rcases HN.out.lies with ⟨a, _⟩ | a
                            · rw [a]; exact fun e => hbf e.symm
                            · omega)
                          have hs2 := hk2'.size
                          obtain ⟨d9, hd9⟩ : ∃ d9 : Int, d9 = (wid : Int) - (1 + out.length : Nat) := ⟨_, rfl⟩
                          have hd9w : (wid : Int) - (1 + (out.length : Int)) = d9 := by rw [hd9]; omega
                          have hpd := wpad_any wc.heap.size bb f [h0b] d9 false true w2 hbl' hs2 hfl (Ne.symm hbf) hb2 hFc2.c0 hFc2.c3 hFc2.c7 (by omega) (by omega) (by simp)
                          have q0 := hFc2.c0
                          have q10 := hFc2.c10
                          have HPD := Lib.hid hpd
                          have HK2 := Lib.hid hk2'
                          have HR2 := Lib.hid hr2
                          have HFC2 := Lib.hid hFc2
                          have hd9t : d9.toNat = wid - (out.length + 1) := by omega
                          have HD9 := Lib.hid hd9t
                          clear hd9 hd9t hpd hk2 hk2' hr2 hFc2 hb2
                          go_wp2_with fail
                          with_reducible refine Calls.mono HPD.out ?_
                          rintro e w3 ⟨rfl, hb3, hk3⟩
                          have hr3 := (HR2.out.bufKept hk3 hs2 hgl (by
                            rcases HN.out.lies with ⟨a, _⟩ | a
                            · rw [a]; exact fun e => hbf e.symm
                            · omega)).tail
                          have hk13 := World.keptBut_trans HK2.out hk3
                          have hFc3 := HFC.out.kept hk13 (fun o' ho' h => by
                            rcases h with h | h
                            · exact hbf h.symm
                            · exact absurd h (by show ¬ wc.heap.size ≤ f; omega))
                          have p0 := hFc3.c0
                          have hs3 := hk13.size
                          have hbb3 : bb < w3.heap.size := by omega
                          have hw7 := bwrite_any wc.heap.size bb _ out _ w3.drew hbl' hs3 (hb3.still ((Still.refl w3).drew) hbb3) ((hr3.still ((Still.refl w3).drew)).src 62 Tryd.underlying62) (by rw [List.length_append, List.length_replicate, HD9.out]; simp; omega)
                          have HW7 := Lib.hid hw7
                          have HK13 := Lib.hid (World.keptBut_trans hk13 (World.keptBut_mono (fun _ h => h.elim) ((Still.refl w3).drew) : w3.keptBut w3.drew (BufMay wc.heap.size bb)))
                          clear hw7 hk13 hFc3 hr3 hk3 hb3
                          go_wp2_with fail
                          go_still_tail 6, (by kernel_rfl)
                          change wpList _ _ _ _ _ w3.drew
                          go_wp2_with fail
                          with_reducible refine Calls.mono HW7.out ?_
                          rintro e w8 ⟨rfl, hb8, hk8⟩
                          go_wp2_with fail
                          refine bodyPost_ret (results_none rfl _ _ _) rfl ?_
                          obtain ⟨f1, f2⟩ := HFIN.out w8 _ hb8 (World.keptBut_trans HK13.out hk8)
                          refine ⟨rfl, ?_, f2⟩
                          have ho : outTxt true false true true wid h0b out = [h0b] ++ List.replicate d9.toNat (padB true false) ++ out := by
                            rw [HD9.out]
                            unfold outTxt padB
                            simp [hwd]
                          rw [ho]
                          exact f1
                      · have hwdI : ¬ (1 : Int) + out.length < wid := by omega
                        as_aux_lemma =>
                          go_wp2_with fail
                          with_reducible refine Calls.mono HPN.out ?_
                          rintro e w' ⟨rfl, hb', hk'⟩
                          go_wp2_with fail
                          refine bodyPost_ret (results_none rfl _ _ _) rfl ?_
                          obtain ⟨f1, f2⟩ := HFIN.out w' _ hb' hk'
                          refine ⟨rfl, ?_, f2⟩
                          rw [show outTxt true false true true wid h0b out = padTxt true false true wid (h0b :: out) from by simp [outTxt, hwd]]
                          exact f1
                  · as_aux_lemma =>
                      go_wp2_with fail
                      with_reducible refine Calls.mono HPN.out ?_
                      rintro e w' ⟨rfl, hb', hk'⟩
                      go_wp2_with fail
                      refine bodyPost_ret (results_none rfl _ _ _) rfl ?_
                      obtain ⟨f1, f2⟩ := HFIN.out w' _ hb' hk'
                      refine ⟨rfl, ?_, f2⟩
                      rw [show outTxt hw true true true wid h0b out = padTxt hw true true wid (h0b :: out) from by simp [outTxt]]
                      exact f1
            · have hne : ((h0b.toNat : Int) != 43) = true := by
                have : h0b.toNat ≠ 43 := fun e => h43 (UInt8.toNat_inj.1 e)
                simp; omega
              cases pl
              · cases ze
                · as_aux_lemma =>
                    go_wp2_with fail
                    with_reducible refine Calls.mono HPN.out ?_
                    rintro e w' ⟨rfl, hb', hk'⟩
                    go_wp2_with fail
                    refine bodyPost_ret (results_none rfl _ _ _) rfl ?_
                    obtain ⟨f1, f2⟩ := HFIN.out w' _ hb' hk'
                    refine ⟨rfl, ?_, f2⟩
                    rw [show outTxt hw mi false false wid h0b out = padTxt hw mi false wid (h0b :: out) from by simp [outTxt, h43]]
                    exact f1
                · cases mi
                  · cases hw
                    · as_aux_lemma =>
                        go_wp2_with fail
                        with_reducible refine Calls.mono HPN.out ?_
                        rintro e w' ⟨rfl, hb', hk'⟩
                        go_wp2_with fail
                        refine bodyPost_ret (results_none rfl _ _ _) rfl ?_
                        obtain ⟨f1, f2⟩ := HFIN.out w' _ hb' hk'
                        refine ⟨rfl, ?_, f2⟩
                        rw [show outTxt false false false true wid h0b out = padTxt false false true wid (h0b :: out) from by simp [outTxt, h43]]
                        exact f1
                    · by_cases hwd : out.length + 1 < wid
                      · have hwdI : (1 : Int) + out.length < wid := by omega
                        as_aux_lemma =>
                          have hw4 := (bwriteByte_any wc.heap.size bb [] h0b wc.drew (by omega) (Nat.le_refl _) (HB0.out.still ((Still.refl wc).drew) hbl') (by simp))
                          have HW4 := Lib.hid hw4
                          clear hw4
                          go_wp2_with fail
                          go_still_tail 7, (by kernel_rfl)
                          change wpList _ _ _ _ _ wc.drew
                          go_wp2_with fail
                          with_reducible refine Calls.mono HW4.out ?_
                          rintro e w2 ⟨rfl, hb2, hk2⟩
                          have hk2' : wc.keptBut w2 (BufMay wc.heap.size bb) := World.keptBut_trans (World.keptBut_mono (fun _ h => h.elim) ((Still.refl wc).drew)) hk2
                          rw [List.nil_append] at hb2
                          have hFc2 := HFC.out.kept hk2' (fun o' ho' h => by
                            rcases h with h | h
                            · exact hbf h.symm
                            · exact absurd h (by show ¬ wc.heap.size ≤ f; omega))
                          have hr2 := HN.out.row.bufKept hk2' (Nat.le_refl _) hgl (by
                            rcases HN.out.lies with ⟨a, _⟩ | a
                            · rw [a]; exact fun e => hbf e.symm
                            · omega)
                          have hs2 := hk2'.size
                          obtain ⟨d9, hd9⟩ : ∃ d9 : Int, d9 = (wid : Int) - (1 + out.length : Nat) := ⟨_, rfl⟩
                          have hd9w : (wid : Int) - (1 + (out.length : Int)) = d9 := by rw [hd9]; omega
                          have hpd := wpad_any wc.heap.size bb f [h0b] d9 false true w2 hbl' hs2 hfl (Ne.symm hbf) hb2 hFc2.c0 hFc2.c3 hFc2.c7 (by omega) (by omega) (by simp)
                          have q0 := hFc2.c0
                          have q10 := hFc2.c10
                          have HPD := Lib.hid hpd
                          have HK2 := Lib.hid hk2'
                          have HR2 := Lib.hid hr2
                          have HFC2 := Lib.hid hFc2
                          have hd9t : d9.toNat = wid - (out.length + 1) := by omega
                          have HD9 := Lib.hid hd9t
                          clear hd9 hd9t hpd hk2 hk2' hr2 hFc2 hb2
                          go_wp2_with fail
                          with_reducible refine Calls.mono HPD.out ?_
                          rintro e w3 ⟨rfl, hb3, hk3⟩
                          have hr3 := (HR2.out.bufKept hk3 hs2 hgl (by
                            rcases HN.out.lies with ⟨a, _⟩ | a
                            · rw [a]; exact fun e => hbf e.symm
                            · omega)).tail
                          have hk13 := World.keptBut_trans HK2.out hk3
                          have hFc3 := HFC.out.kept hk13 (fun o' ho' h => by
                            rcases h with h | h
                            · exact hbf h.symm
                            · exact absurd h (by show ¬ wc.heap.size ≤ f; omega))
                          have p0 := hFc3.c0
                          have hs3 := hk13.size
                          have hbb3 : bb < w3.heap.size := by omega
                          have hw7 := bwrite_any wc.heap.size bb _ out _ w3.drew hbl' hs3 (hb3.still ((Still.refl w3).drew) hbb3) ((hr3.still ((Still.refl w3).drew)).src 62 Tryd.underlying62) (by rw [List.length_append, List.length_replicate, HD9.out]; simp; omega)
                          have HW7 := Lib.hid hw7
                          have HK13 := Lib.hid (World.keptBut_trans hk13 (World.keptBut_mono (fun _ h => h.elim) ((Still.refl w3).drew) : w3.keptBut w3.drew (BufMay wc.heap.size bb)))
                          clear hw7 hk13 hFc3 hr3 hk3 hb3
                          go_wp2_with fail
                          go_still_tail 6, (by kernel_rfl)
                          change wpList _ _ _ _ _ w3.drew
                          go_wp2_with fail
                          with_reducible refine Calls.mono HW7.out ?_
                          rintro e w8 ⟨rfl, hb8, hk8⟩
                          go_wp2_with fail
                          refine bodyPost_ret (results_none rfl _ _ _) rfl ?_
                          obtain ⟨f1, f2⟩ := HFIN.out w8 _ hb8 (World.keptBut_trans HK13.out hk8)
                          refine ⟨rfl, ?_, f2⟩
                          have ho : outTxt true false false true wid h0b out = [h0b] ++ List.replicate d9.toNat (padB true false) ++ out := by
                            rw [HD9.out]
                            unfold outTxt padB
                            simp [hwd, h43]
                          rw [ho]
                          exact f1
                      · have hwdI : ¬ (1 : Int) + out.length < wid := by omega
                        as_aux_lemma =>
                          go_wp2_with fail
                          with_reducible refine Calls.mono HPN.out ?_
                          rintro e w' ⟨rfl, hb', hk'⟩
                          go_wp2_with fail
                          refine bodyPost_ret (results_none rfl _ _ _) rfl ?_
                          obtain ⟨f1, f2⟩ := HFIN.out w' _ hb' hk'
                          refine ⟨rfl, ?_, f2⟩
                          rw [show outTxt true false false true wid h0b out = padTxt true false true wid (h0b :: out) from by simp [outTxt, hwd, h43]]
                          exact f1
                  · as_aux_lemma =>
                      go_wp2_with fail
                      with_reducible refine Calls.mono HPN.out ?_
                      rintro e w' ⟨rfl, hb', hk'⟩
                      go_wp2_with fail
                      refine bodyPost_ret (results_none rfl _ _ _) rfl ?_
                      obtain ⟨f1, f2⟩ := HFIN.out w' _ hb' hk'
                      refine ⟨rfl, ?_, f2⟩
                      rw [show outTxt hw true false true wid h0b out = padTxt hw true true wid (h0b :: out) from by simp [outTxt, h43]]
                      exact f1
              · cases ze
                · as_aux_lemma =>
                    go_wp2_with fail
                    with_reducible refine Calls.mono HPN.out ?_
                    rintro e w' ⟨rfl, hb', hk'⟩
                    go_wp2_with fail
                    refine bodyPost_ret (results_none rfl _ _ _) rfl ?_
                    obtain ⟨f1, f2⟩ := HFIN.out w' _ hb' hk'
                    refine ⟨rfl, ?_, f2⟩
                    rw [show outTxt hw mi true false wid h0b out = padTxt hw mi false wid (h0b :: out) from by simp [outTxt]]
                    exact f1
                · cases mi
                  · cases hw
                    · as_aux_lemma =>
                        go_wp2_with fail
                        with_reducible refine Calls.mono HPN.out ?_
                        rintro e w' ⟨rfl, hb', hk'⟩
                        go_wp2_with fail
                        refine bodyPost_ret (results_none rfl _ _ _) rfl ?_
                        obtain ⟨f1, f2⟩ := HFIN.out w' _ hb' hk'
                        refine ⟨rfl, ?_, f2⟩
                        rw [show outTxt false false true true wid h0b out = padTxt false false true wid (h0b :: out) from by simp [outTxt]]
                        exact f1
                    · by_cases hwd : out.length + 1 < wid
                      · have hwdI : (1 : Int) + out.length < wid := by omega
                        as_aux_lemma =>
                          have hw4 := (bwriteByte_any wc.heap.size bb [] h0b wc.drew (by omega) (Nat.le_refl _) (HB0.out.still ((Still.refl wc).drew) hbl') (by simp))
                          have HW4 := Lib.hid hw4
                          clear hw4
                          go_wp2_with fail
                          go_still_tail 7, (by kernel_rfl)
                          change wpList _ _ _ _ _ wc.drew
                          go_wp2_with fail
                          with_reducible refine Calls.mono HW4.out ?_
                          rintro e w2 ⟨rfl, hb2, hk2⟩
                          have hk2' : wc.keptBut w2 (BufMay wc.heap.size bb) := World.keptBut_trans (World.keptBut_mono (fun _ h => h.elim) ((Still.refl wc).drew)) hk2
                          rw [List.nil_append] at hb2
                          have hFc2 := HFC.out.kept hk2' (fun o' ho' h => by
                            rcases h with h | h
                            · exact hbf h.symm
                            · exact absurd h (by show ¬ wc.heap.size ≤ f; omega))
                          have hr2 := HN.out.row.bufKept hk2' (Nat.le_refl _) hgl (by
                            rcases HN.out.lies with ⟨a, _⟩ | a
                            · rw [a]; exact fun e => hbf e.symm
                            · omega)
                          have hs2 := hk2'.size
                          obtain ⟨d9, hd9⟩ : ∃ d9 : Int, d9 = (wid : Int) - (1 + out.length : Nat) := ⟨_, rfl⟩
                          have hd9w : (wid : Int) - (1 + (out.length : Int)) = d9 := by rw [hd9]; omega
                          have hpd := wpad_any wc.heap.size bb f [h0b] d9 false true w2 hbl' hs2 hfl (Ne.symm hbf) hb2 hFc2.c0 hFc2.c3 hFc2.c7 (by omega) (by omega) (by simp)
                          have q0 := hFc2.c0
                          have q10 := hFc2.c10
                          have HPD := Lib.hid hpd
                          have HK2 := Lib.hid hk2'
                          have HR2 := Lib.hid hr2
                          have HFC2 := Lib.hid hFc2
                          have hd9t : d9.toNat = wid - (out.length + 1) := by omega
                          have HD9 := Lib.hid hd9t
                          clear hd9 hd9t hpd hk2 hk2' hr2 hFc2 hb2
                          go_wp2_with fail
                          with_reducible refine Calls.mono HPD.out ?_
                          rintro e w3 ⟨rfl, hb3, hk3⟩
                          have hr3 := (HR2.out.bufKept hk3 hs2 hgl (by
                            rcases HN.out.lies with ⟨a, _⟩ | a
                            · rw [a]; exact fun e => hbf e.symm
                            · omega)).tail
                          have hk13 := World.keptBut_trans HK2.out hk3
                          have hFc3 := HFC.out.kept hk13 (fun o' ho' h => by
                            rcases h with h | h
                            · exact hbf h.symm
                            · exact absurd h (by show ¬ wc.heap.size ≤ f; omega))
                          have p0 := hFc3.c0
                          have hs3 := hk13.size
                          have hbb3 : bb < w3.heap.size := by omega
                          have hw7 := bwrite_any wc.heap.size bb _ out _ w3.drew hbl' hs3 (hb3.still ((Still.refl w3).drew) hbb3) ((hr3.still ((Still.refl w3).drew)).src 62 Tryd.underlying62) (by rw [List.length_append, List.length_replicate, HD9.out]; simp; omega)
                          have HW7 := Lib.hid hw7
                          have HK13 := Lib.hid (World.keptBut_trans hk13 (World.keptBut_mono (fun _ h => h.elim) ((Still.refl w3).drew) : w3.keptBut w3.drew (BufMay wc.heap.size bb)))
                          clear hw7 hk13 hFc3 hr3 hk3 hb3
                          go_wp2_with fail
                          go_still_tail 6, (by kernel_rfl)
                          change wpList _ _ _ _ _ w3.drew
                          go_wp2_with fail
                          with_reducible refine Calls.mono HW7.out ?_
                          rintro e w8 ⟨rfl, hb8, hk8⟩
                          go_wp2_with fail
                          refine bodyPost_ret (results_none rfl _ _ _) rfl ?_
                          obtain ⟨f1, f2⟩ := HFIN.out w8 _ hb8 (World.keptBut_trans HK13.out hk8)
                          refine ⟨rfl, ?_, f2⟩
                          have ho : outTxt true false true true wid h0b out = [h0b] ++ List.replicate d9.toNat (padB true false) ++ out := by
                            rw [HD9.out]
                            unfold outTxt padB
                            simp [hwd]
                          rw [ho]
                          exact f1
                      · have hwdI : ¬ (1 : Int) + out.length < wid := by omega
                        as_aux_lemma =>
                          go_wp2_with fail
                          with_reducible refine Calls.mono HPN.out ?_
                          rintro e w' ⟨rfl, hb', hk'⟩
                          go_wp2_with fail
                          refine bodyPost_ret (results_none rfl _ _ _) rfl ?_
                          obtain ⟨f1, f2⟩ := HFIN.out w' _ hb' hk'
                          refine ⟨rfl, ?_, f2⟩
                          rw [show outTxt true false true true wid h0b out = padTxt true false true wid (h0b :: out) from by simp [outTxt, hwd]]
                          exact f1
                  · as_aux_lemma =>
                      go_wp2_with fail
                      with_reducible refine Calls.mono HPN.out ?_
                      rintro e w' ⟨rfl, hb', hk'⟩
                      go_wp2_with fail
                      refine bodyPost_ret (results_none rfl _ _ _) rfl ?_
                      obtain ⟨f1, f2⟩ := HFIN.out w' _ hb' hk'
                      refine ⟨rfl, ?_, f2⟩
                      rw [show outTxt hw true true true wid h0b out = padTxt hw true true wid (h0b :: out) from by simp [outTxt]]
                      exact f1
            --]Z

end Go.Proofs.YthfjpofbaeeafaaDoor
