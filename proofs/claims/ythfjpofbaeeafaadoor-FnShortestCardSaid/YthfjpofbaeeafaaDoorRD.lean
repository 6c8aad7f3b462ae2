/-
  spec.ReadDecimal.
-/
import Derived.Test.YthfjpofbaeeafaaDoorNE
namespace Go.Proofs.YthfjpofbaeeafaaDoor
open Go.RowKit

/-- One byte of the digits. -/
def rdStep (st : List UInt8 × Int) (c : UInt8) : List UInt8 × Int :=
  if c = 46 then (st.1, 0) else (st.1 ++ [c], if 0 ≤ st.2 then st.2 + 1 else st.2)
def rdF (l : List UInt8) : List UInt8 × Int := l.foldl rdStep ([], -1)
theorem rdF_snoc (l : List UInt8) (c : UInt8) : rdF (l ++ [c]) = rdStep (rdF l) c := by simp [rdF]
theorem rdF_pt (l : List UInt8) : -1 ≤ (rdF l).2 ∧ (rdF l).2 ≤ (l.length : Int) := by
  have h : ∀ (l : List UInt8) (st : List UInt8 × Int), -1 ≤ st.2 → -1 ≤ (l.foldl rdStep st).2 ∧ (l.foldl rdStep st).2 ≤ max st.2 0 + (l.length : Int) := by
    intro l
    induction l with
    | nil => intro st h; simp; omega
    | cons c l ih =>
      intro st h
      have h2 : -1 ≤ (rdStep st c).2 ∧ max (rdStep st c).2 0 ≤ max st.2 0 + 1 := by
        unfold rdStep
        split
        · simp; omega
        · simp; split <;> omega
      have := ih (rdStep st c) h2.1
      rw [List.foldl_cons, List.length_cons]
      omega
  have := h l ([], -1) (by simp)
  have e : max (-1 : Int) 0 = 0 := by decide
  rw [show (([], -1) : List UInt8 × Int).2 = (-1 : Int) from rfl, e, Int.zero_add] at this
  exact this
theorem rdF_len (l : List UInt8) : (rdF l).1.length ≤ l.length := by
  have h : ∀ (l : List UInt8) (st : List UInt8 × Int), (l.foldl rdStep st).1.length ≤ st.1.length + l.length := by
    intro l
    induction l with
    | nil => intro st; simp
    | cons c l ih =>
      intro st
      have h2 : (rdStep st c).1.length ≤ st.1.length + 1 := by
        unfold rdStep
        split
        · simp
        · simp
      have := ih (rdStep st c)
      rw [List.foldl_cons, List.length_cons]
      omega
  have := h l ([], -1)
  simpa [rdF] using this
theorem sub_one {s : ByteArray} {k : Nat} (hk : k < s.size) : (s.extract k (k + 1)).data.toList = [s[k]] := by
  rw [Lib.extract_data]
  have hk' : k < s.data.toList.length := hk
  rw [List.drop_eq_getElem_cons hk', show k + 1 - k = 1 by omega]
  rfl
/-- What a mantissa may hold. -/
def rdOk (l : List UInt8) : Prop := ∀ k (h : k < l.length), (l[k] = 46 ∧ (rdF (l.take k)).2 = -1) ∨ (48 ≤ l[k].toNat ∧ l[k].toNat ≤ 57)

/-- The read decimal as it grows: block g. -/
structure Rd5 (W w : World) (g : Nat) (mi : Bool) (ba : ByteArray) (pw pt ex : Int) : Prop where
  c0 : w.cell? ⟨g, 0, none⟩ = some (.bool mi)
  c1 : w.cell? ⟨g, 1, none⟩ = some (.string ba)
  c2 : w.cell? ⟨g, 2, none⟩ = some (.int .i64 pw)
  c3 : w.cell? ⟨g, 3, none⟩ = some (.int .i64 pt)
  c4 : w.cell? ⟨g, 4, none⟩ = some (.int .i64 ex)
  fz : ∀ o, w.frozen? ⟨g, o, none⟩ = false
  st : Still W w
  lo : W.heap.size ≤ g
  lt : g < w.heap.size

theorem Rd5.frozen_set {w : World} {g : Nat} (h : ∀ o, w.frozen? ⟨g, o, none⟩ = false) (i : Nat) (v : Value) : ∀ o, (w.setCell ⟨g, i, none⟩ v).frozen? ⟨g, o, none⟩ = false := fun o => by
  simp [h o]
theorem Rd5.set0 {W w : World} {g : Nat} {mi : Bool} {ba : ByteArray} {pw pt ex : Int} (h : Rd5 W w g mi ba pw pt ex) (m : Bool) : Rd5 W (w.setCell ⟨g, 0, none⟩ (.bool m)) g m ba pw pt ex :=
  ⟨World.cell?_setCell_same _ _ _ h.c0, by rw [World.cell?_setCell_other _ _ _ _ (by simp)]; exact h.c1, by rw [World.cell?_setCell_other _ _ _ _ (by simp)]; exact h.c2, by rw [World.cell?_setCell_other _ _ _ _ (by simp)]; exact h.c3, by rw [World.cell?_setCell_other _ _ _ _ (by simp)]; exact h.c4, Rd5.frozen_set h.fz _ _, h.st.setCell h.lo _, h.lo, by rw [World.size_setCell]; exact h.lt⟩
theorem Rd5.set1 {W w : World} {g : Nat} {mi : Bool} {ba : ByteArray} {pw pt ex : Int} (h : Rd5 W w g mi ba pw pt ex) (m : ByteArray) : Rd5 W (w.setCell ⟨g, 1, none⟩ (.string m)) g mi m pw pt ex :=
  ⟨by rw [World.cell?_setCell_other _ _ _ _ (by simp)]; exact h.c0, World.cell?_setCell_same _ _ _ h.c1, by rw [World.cell?_setCell_other _ _ _ _ (by simp)]; exact h.c2, by rw [World.cell?_setCell_other _ _ _ _ (by simp)]; exact h.c3, by rw [World.cell?_setCell_other _ _ _ _ (by simp)]; exact h.c4, Rd5.frozen_set h.fz _ _, h.st.setCell h.lo _, h.lo, by rw [World.size_setCell]; exact h.lt⟩
theorem Rd5.set2 {W w : World} {g : Nat} {mi : Bool} {ba : ByteArray} {pw pt ex : Int} (h : Rd5 W w g mi ba pw pt ex) (m : Int) : Rd5 W (w.setCell ⟨g, 2, none⟩ (.int .i64 m)) g mi ba m pt ex :=
  ⟨by rw [World.cell?_setCell_other _ _ _ _ (by simp)]; exact h.c0, by rw [World.cell?_setCell_other _ _ _ _ (by simp)]; exact h.c1, World.cell?_setCell_same _ _ _ h.c2, by rw [World.cell?_setCell_other _ _ _ _ (by simp)]; exact h.c3, by rw [World.cell?_setCell_other _ _ _ _ (by simp)]; exact h.c4, Rd5.frozen_set h.fz _ _, h.st.setCell h.lo _, h.lo, by rw [World.size_setCell]; exact h.lt⟩
theorem Rd5.set3 {W w : World} {g : Nat} {mi : Bool} {ba : ByteArray} {pw pt ex : Int} (h : Rd5 W w g mi ba pw pt ex) (m : Int) : Rd5 W (w.setCell ⟨g, 3, none⟩ (.int .i64 m)) g mi ba pw m ex :=
  ⟨by rw [World.cell?_setCell_other _ _ _ _ (by simp)]; exact h.c0, by rw [World.cell?_setCell_other _ _ _ _ (by simp)]; exact h.c1, by rw [World.cell?_setCell_other _ _ _ _ (by simp)]; exact h.c2, World.cell?_setCell_same _ _ _ h.c3, by rw [World.cell?_setCell_other _ _ _ _ (by simp)]; exact h.c4, Rd5.frozen_set h.fz _ _, h.st.setCell h.lo _, h.lo, by rw [World.size_setCell]; exact h.lt⟩
theorem Rd5.set4 {W w : World} {g : Nat} {mi : Bool} {ba : ByteArray} {pw pt ex : Int} (h : Rd5 W w g mi ba pw pt ex) (m : Int) : Rd5 W (w.setCell ⟨g, 4, none⟩ (.int .i64 m)) g mi ba pw pt m :=
  ⟨by rw [World.cell?_setCell_other _ _ _ _ (by simp)]; exact h.c0, by rw [World.cell?_setCell_other _ _ _ _ (by simp)]; exact h.c1, by rw [World.cell?_setCell_other _ _ _ _ (by simp)]; exact h.c2, by rw [World.cell?_setCell_other _ _ _ _ (by simp)]; exact h.c3, World.cell?_setCell_same _ _ _ h.c4, Rd5.frozen_set h.fz _ _, h.st.setCell h.lo _, h.lo, by rw [World.size_setCell]; exact h.lt⟩
theorem Rd5.drew {W w : World} {g : Nat} {mi : Bool} {ba : ByteArray} {pw pt ex : Int} (h : Rd5 W w g mi ba pw pt ex) : Rd5 W w.drew g mi ba pw pt ex := ⟨h.c0, h.c1, h.c2, h.c3, h.c4, h.fz, h.st.drew, h.lo, h.lt⟩
theorem Rd5.alloc {W : World} {v0 v1 v2 v3 v4 : Value} {t : TypeId} (ba : ByteArray) (mi : Bool) (pw pt ex : Int) (e0 : v0 = .bool mi) (e1 : v1 = .string ba) (e2 : v2 = .int .i64 pw) (e3 : v3 = .int .i64 pt) (e4 : v4 = .int .i64 ex) : Rd5 W (W.alloc (.cells #[v0, v1, v2, v3, v4] t)) W.heap.size mi ba pw pt ex := by
  subst e0 e1 e2 e3 e4
  exact ⟨(World.cell?_alloc_new W _ _ 0).trans (by simp), (World.cell?_alloc_new W _ _ 1).trans (by simp), (World.cell?_alloc_new W _ _ 2).trans (by simp), (World.cell?_alloc_new W _ _ 3).trans (by simp), (World.cell?_alloc_new W _ _ 4).trans (by simp), fun o => World.frozen?_alloc_new _ _ _ _, (Still.refl W).alloc _, Nat.le_refl _, by simp⟩

theorem Rd5.into {W w w' : World} {g : Nat} {mi : Bool} {ba : ByteArray} {pw pt ex : Int} (h : Rd5 W w g mi ba pw pt ex) (hs : Still w w') : Rd5 W w' g mi ba pw pt ex :=
  ⟨hs.cell h.c0, hs.cell h.c1, hs.cell h.c2, hs.cell h.c3, hs.cell h.c4, fun o => by rw [keptBut_frozen hs h.lt]; exact h.fz o, h.st.trans hs, h.lo, Nat.lt_of_lt_of_le h.lt hs.size⟩
/-- What ReadDecimal answers. -/
def RdRes (W : World) (mi : Bool) (ds : List UInt8) (pw pt ex : Int) (e : Ending) (w' : World) : Prop :=
  ∃ ba : ByteArray, ba.data.toList = ds ∧ e = .returned (.tuple #[.agg #[.bool mi, .string ba, .int .i64 pw, .int .i64 pt, .int .i64 ex], .bool true]) ∧ Still W w'

set_option maxRecDepth 100000 in
set_option maxHeartbeats 4000000 in
theorem rd_any (W : World) (s : ByteArray) (sg mant ex : List UInt8) (hs : s.data.toList = sg ++ (mant ++ ex)) (hlen : s.size ≤ 100000)
    (hsg : sg = [] ∨ ∃ c, sg = [c] ∧ (c = 45 ∨ c = 43 ∨ c = 32)) (hm0 : mant ≠ []) (hm1 : ∀ h : 0 < mant.length, mant[0] ≠ 45 ∧ mant[0] ≠ 43 ∧ mant[0] ≠ 32) (hok : rdOk mant)
    (mi : Bool) (hmi : mi = decide (sg = [45])) (pw : Int) (xe : Int) (hex : (ex = [] ∧ pw = -(max 0 (rdF mant).2) ∧ xe = 0) ∨ (∃ c g es, ex = c :: g :: es ∧ (c = 101 ∨ c = 69) ∧ (g = 43 ∨ g = 45) ∧ 1 ≤ es.length ∧ es.length ≤ 5 ∧ (∀ c ∈ es, 48 ≤ c.toNat ∧ c.toNat ≤ 57) ∧ pw = -(max 0 (rdF mant).2) + (if g = 45 then -(decVal es : Int) else decVal es) ∧ xe = es.length)) (hds : (rdF mant).1 ≠ []) :
    Calls Tryd.prog 14 #[.string s] W (RdRes W mi (rdF mant).1 pw (rdF mant).2 xe) := by
  have hsz := list_size hs
  have hmp : 0 < mant.length := List.length_pos_iff.2 hm0
  have hsp : 0 < s.size := by rw [hsz, List.length_append, List.length_append]; omega
  have hne := str_ne hsp
  have hne' : s.toList.isEmpty = false := by simpa using hne
  have hx0 := list_idx hs hsp
  obtain ⟨x, hx⟩ : ∃ x : UInt8, s[0] = x := ⟨_, rfl⟩
  rw [hx] at hx0
  have HSS := Lib.hid hs
  have HSZ := Lib.hid hsz
  have HX := Lib.hid hx0
  have HEX := Lib.hid hex
  have HM := Lib.hid hm1
  have HOK := Lib.hid hok
  have HSG := Lib.hid hsg
  have HDS := Lib.hid hds
  have HMI := Lib.hid hmi
  clear hs hx0 hsz hex hm1 hok hsg hmi hds hm0
  go_enter Tryd.func14, Tryd.ntmps14
  go_upto_region 2 with fail
  obtain ⟨W1, hW1⟩ : ∃ W1, W1 = W.alloc (.cells #[.bool false, .string { data := #[] }, .int .i64 0, .int .i64 0, .int .i64 0] 32) := ⟨_, rfl⟩
  have hS1 : Still W W1 := by rw [hW1]; exact (Still.refl W).alloc _
  have hR1 : Rd5 W W1 W.heap.size false { data := #[] } 0 0 0 := by rw [hW1]; exact Rd5.alloc _ _ _ _ _ rfl rfl rfl rfl rfl
  have hz1 : W1.heap.size = W.heap.size + 1 := by rw [hW1]; simp
  rw [← hW1]
  obtain ⟨w0, hw0⟩ : ∃ w0, w0 = W1.alloc (.cells #[.bool false, .string { data := #[] }, .int .i64 0, .int .i64 (-1), .int .i64 0] 32) := ⟨_, rfl⟩
  have hR0 : Rd5 W1 w0 W1.heap.size false { data := #[] } 0 (-1) 0 := by rw [hw0]; exact Rd5.alloc _ _ _ _ _ rfl rfl rfl rfl rfl
  rw [← hw0]
  rw [hz1] at hR0
  obtain ⟨r, hr⟩ : ∃ r, r = W.heap.size := ⟨_, rfl⟩
  rw [← hr] at hR1 hR0 hz1 ⊢
  have HRW := Lib.hid hr
  clear hW1 hw0 hr
  obtain ⟨sb, hsb⟩ : ∃ sb, sb = !sg.isEmpty := ⟨_, rfl⟩
  have HSB := Lib.hid hsb
  clear hsb
  go_cut [26] (fun v wx => v = .bool sb ∧ w0 = wx)
  case first =>
    rcases HSG.out with e0 | ⟨c, e0, e1⟩
    · have hx1 : x = mant[0] := by
        have := HX.out
        rw [e0, List.nil_append, List.getElem?_append_left hmp, List.getElem?_eq_getElem hmp] at this
        exact (Option.some.inj this).symm
      obtain ⟨n1, n2, n3⟩ := HM.out hmp
      rw [← hx1] at n1 n2 n3
      have t1 : ((x.toNat : Int) == 45) = false := by
        have : x.toNat ≠ 45 := fun e => n1 (UInt8.toNat_inj.1 e)
        simp; omega
      have t2 : ((x.toNat : Int) == 43) = false := by
        have : x.toNat ≠ 43 := fun e => n2 (UInt8.toNat_inj.1 e)
        simp; omega
      have t3 : ((x.toNat : Int) == 32) = false := by
        have : x.toNat ≠ 32 := fun e => n3 (UInt8.toNat_inj.1 e)
        simp; omega
      clear n1 n2 n3 hx1
      go_wp2_with fail
      go_meet
      exact ⟨by rw [HSB.out, e0]; rfl, rfl⟩
    · have hxc : x = c := by
        have := HX.out
        rw [e0] at this
        simpa using this.symm
      rw [hxc] at hx
      rcases e1 with e1 | e1 | e1
      all_goals
        rw [e1] at hx
        go_wp2_with fail
        go_meet
        exact ⟨by rw [HSB.out, e0]; rfl, rfl⟩
  case rest =>
    obtain ⟨rfl, rfl⟩ := hcut
    go_upto_if 26 with fail
    go_cut [0] (fun a wx => ∃ s2 : ByteArray, a = .string s2 ∧ Hid (s2.data.toList = mant ++ ex) ∧ s2.size ≤ 100000 ∧ Rd5 W1 wx (r + 1) mi { data := #[] } 0 (-1) 0)
    case first =>
      rcases HSG.out with e0 | ⟨c, e0, e1⟩
      · have hm : mi = false := by rw [HMI.out, e0]; rfl
        obtain rfl : sb = false := by rw [HSB.out, e0]; rfl
        go_wp2_with fail
        go_meet
        exact ⟨s, rfl, by have := HSS.out; rw [e0] at this; exact this, hlen, by rw [hm]; exact hR0⟩
      · have hm : mi = decide (c = 45) := by rw [HMI.out, e0]; simp
        have hd0 : s.data.toList = c :: (mant ++ ex) := by have := HSS.out; rw [e0] at this; exact this
        have hxc : s[0] = c := by
          rw [hx]
          have := HX.out
          rw [e0] at this
          simpa using this.symm
        have hd1 := Lib.hid (drop_extract hd0 1)
        obtain rfl : sb = true := by rw [HSB.out, e0]; rfl
        have hs0 := hR0.set0 (decide (c = 45))
        have hcb : ((c.toNat : Int) == 45) = decide (c = 45) := by rcases e1 with rfl | rfl | rfl <;> rfl
        have q0 := hR0.c0
        have q1 := hR0.fz 0
        have HR0 := Lib.hid hR0
        clear hR0 hd0 hx
        go_wp2_with fail
        go_meet
        refine ⟨s.extract 1 s.size, rfl, hd1.out, by rw [ByteArray.size_extract]; omega, ?_⟩
        rw [hm]
        exact hs0
    case rest =>
      obtain ⟨s2, rfl, hs2, hl2, hR2⟩ := hcut
      have hz2 := list_size hs2.out
      rw [List.length_append] at hz2
      clear hR0 hne hne' hx HX hsp hlen HSS HSZ HSG
      obtain ⟨M, hM⟩ : ∃ M, M = mant.length := ⟨_, rfl⟩
      have HML := Lib.hid hM
      rw [← hM] at hz2 hmp
      clear hM
      go_wp2_with fail
      go_loopg [5] M (fun q i wr => ∃ (k : Nat) (ba : ByteArray), i = .int .i64 k ∧ k + q = M ∧ ba.data.toList = (rdF (mant.take k)).1 ∧ Rd5 W1 wr (r + 1) mi ba 0 (rdF (mant.take k)).2 0)
      case atStart => exact ⟨0, { data := #[] }, rfl, by omega, rfl, hR2⟩
      case round =>
        obtain ⟨k, ba, rfl, hkq, hba, hR⟩ := hrel
        by_cases hk : k < M
        · have hkl : k < mant.length := by have := HML.out; omega
          have hks : k < s2.size := by omega
          have hcl : s2[k] = mant[k] := by
            have hcl := list_idx hs2.out hks
            rw [List.getElem?_append_left hkl, List.getElem?_eq_getElem hkl] at hcl
            exact (Option.some.inj hcl).symm
          have hok := HOK.out k hkl
          have hsn : rdF (mant.take (k + 1)) = rdStep (rdF (mant.take k)) mant[k] := by rw [List.take_succ_eq_append_getElem hkl, rdF_snoc]
          obtain ⟨c, hc⟩ : ∃ c : UInt8, c = mant[k] := ⟨_, rfl⟩
          rw [← hc] at hcl hok hsn
          clear hc
          have hptl := rdF_pt (mant.take k)
          have htl : (mant.take k).length ≤ 100000 := by rw [List.length_take]; omega
          obtain ⟨PT, hPT⟩ : ∃ PT, PT = (rdF (mant.take k)).2 := ⟨_, rfl⟩
          rw [← hPT] at hR hptl hok
          have q0 := hR.c0
          have q1 := hR.c1
          have q3 := hR.c3
          have z1 := hR.fz 1
          have z3 := hR.fz 3
          rcases hok with ⟨hc46, hp1⟩ | ⟨hd0, hd1⟩
          · have hn : rdF (mant.take (k + 1)) = ((rdF (mant.take k)).1, 0) := by rw [hsn, rdStep, if_pos hc46]
            have hR' := hR.set3 0
            subst hc46
            rw [hp1] at q3
            have HR := Lib.hid hR
            have HR' := Lib.hid hR'
            have HBA := Lib.hid hba
            have HN := Lib.hid hn
            clear hR hR' hba hn hp1 hPT hsn
            go_wp2_with fail
            go_roundg (gk - 1)
            case measure => omega
            case rel => exact ⟨k + 1, ba, by go_num, by omega, by rw [HN.out]; exact HBA.out, by rw [HN.out]; exact HR'.out⟩
          · have hn : rdF (mant.take (k + 1)) = ((rdF (mant.take k)).1 ++ [c], if 0 ≤ PT then PT + 1 else PT) := by
              rw [hsn, rdStep, if_neg (fun e => by rw [e] at hd0; exact absurd hd0 (by decide)), ← hPT]
            have t46 : ((c.toNat : Int) == 46) = false := by simp; omega
            have t101 : ((c.toNat : Int) != 101) = true := by simp; omega
            have t69 : ((c.toNat : Int) != 69) = true := by simp; omega
            have i0 : (48 : Int) ≤ c.toNat := by omega
            have i1 : (c.toNat : Int) ≤ 57 := by omega
            have HR := Lib.hid hR
            have HBA := Lib.hid hba
            have HN := Lib.hid hn
            have HPT := Lib.hid hPT
            clear hR hba hn hPT hsn hd0 hd1
            go_upto_region 12 with fail
            have hk1 : (k : Int) + 1 ≤ s2.size := by omega
            have hbz : ba.size ≤ 100000 := by
              have h1 := list_size HBA.out
              have h2 := rdF_len (mant.take k)
              omega
            obtain ⟨sub, hsub⟩ : ∃ sub, s2.extract k (k + 1) = sub := ⟨_, rfl⟩
            have hsz1 : sub.size = 1 := by rw [← hsub, ByteArray.size_extract]; omega
            have hsubl : sub.data.toList = [c] := by
              rw [← hsub, sub_one hks, hcl]
            have hcc : ¬ ((ba.size + sub.size : Nat) : Int) > IntKind.i64.max := by rw [show IntKind.i64.max = 9223372036854775807 from rfl]; omega
            have hcc2 : ¬ (9223372036854775807 < (ba.size : Int) + 1) := by omega
            have HSUB := Lib.hid hsubl
            clear hsubl
            have hR' := (HR.out.set1 (ba ++ sub)).drew
            have HR' := Lib.hid hR'
            go_region
            obtain ⟨w2, hw2⟩ : ∃ w2, w2 = (wr.setCell ⟨r + 1, 1, none⟩ (.string (ba ++ sub))).drew := ⟨_, rfl⟩
            rw [← hw2] at HR' hR' ⊢
            have q3' := hR'.c3
            have z3' := hR'.fz 3
            have hbl : (ba ++ sub).data.toList = (rdF (mant.take (k + 1))).1 := by
              rw [HN.out, ← HBA.out, ← HSUB.out]; simp
            have HBL := Lib.hid hbl
            clear hw2 hR' hbl q0 q1 q3 z1 z3 hcl hk1 hsub hcc hcc2
            obtain ⟨b2, hb2⟩ : ∃ b2, b2 = ba ++ sub := ⟨_, rfl⟩
            rw [← hb2] at HBL HR'
            clear hb2
            by_cases h0 : 0 ≤ PT
            · have HR2 := Lib.hid (HR'.out.set3 (PT + 1))
              go_wp2_with fail
              go_roundg (gk - 1)
              case measure => omega
              case rel => exact ⟨k + 1, b2, by go_num, by omega, HBL.out, by rw [HN.out, if_pos h0]; exact HR2.out⟩
            · go_wp2_with fail
              go_roundg (gk - 1)
              case measure => omega
              case rel => exact ⟨k + 1, b2, by go_num, by omega, HBL.out, by rw [HN.out, if_neg (by omega)]; exact HR'.out⟩
        · obtain rfl : k = M := by omega
          have hall : mant.take k = mant := List.take_of_length_le (by have := HML.out; omega)
          rw [hall] at hba hR
          have hptl := rdF_pt mant
          have hml : mant.length ≤ 100000 := by have := HML.out; omega
          have HBA := Lib.hid hba
          clear hba hall hmp
          rcases HEX.out with ⟨e0, e1, e2⟩ | ⟨c, g, es, e0, e1, e2, e3, e4, e5, e6, e7⟩
          · have he0 : ex.length = 0 := by rw [e0]; rfl
            have hs2z : s2.size = k := by omega
            have E1 := Lib.hid e1
            clear e1 e0 HEX
            obtain ⟨PT, hPT⟩ : ∃ PT, PT = (rdF mant).2 := ⟨_, rfl⟩
            rw [← hPT] at hR hptl E1
            have HPT := Lib.hid hPT
            clear hPT hz2
            have q3 := hR.c3
            have q2 := hR.c2
            have z2 := hR.fz 2
            have HR2 := Lib.hid (hR.set2 (-(max 0 PT)))
            clear hR
            go_upto_if 98 with fail
            obtain ⟨w3, hw3⟩ : ∃ w3, w3 = wr.setCell ⟨r + 1, 2, none⟩ (.int .i64 (-(max 0 PT))) := ⟨_, rfl⟩
            rw [← hw3] at HR2 ⊢
            clear hw3 q3 q2 z2
            have HD := hR1.into HR2.out.st
            have q0 := HR2.out.c0
            have q1 := HR2.out.c1
            have q2 := HR2.out.c2
            have q3 := HR2.out.c3
            have q4 := HR2.out.c4
            have o0 := HD.c0
            have o1 := HD.c1
            have o2 := HD.c2
            have o3 := HD.c3
            have o4 := HD.c4
            have f0 := HD.fz 0
            have f1 := HD.fz 1
            have f2 := HD.fz 2
            have f3 := HD.fz 3
            have f4 := HD.fz 4
            have hbp : 0 < ba.size := by
              have h1 := list_size HBA.out
              have h2 := List.length_pos_iff.2 HDS.out
              omega
            have hbn := str_ne hbp
            have hbn' : ba.toList.isEmpty = false := by simpa using hbn
            have HD := Lib.hid HD
            go_upto_region 17 with fail
            go_region
            have HF := (((((HD.out.set0 mi).set1 ba).set2 (-(max 0 PT))).set3 PT).set4 0).drew
            revert HF
            generalize (((((w3.setCell ⟨r, 0, none⟩ (.bool mi)).setCell ⟨r, 1, none⟩ (.string ba)).setCell ⟨r, 2, none⟩ (.int .i64 (-max 0 PT))).setCell ⟨r, 3, none⟩ (.int .i64 PT)).setCell ⟨r, 4, none⟩ (.int .i64 0)).drew = wF
            intro HF
            have r0 := HF.c0
            have r1 := HF.c1
            have r2 := HF.c2
            have r3 := HF.c3
            have r4 := HF.c4
            clear q0 q1 q2 q3 q4 o0 o1 o2 o3 o4 f0 f1 f2 f3 f4 hbn hbn'
            go_wp2_with fail
            refine bodyPost_ret (v := .tuple #[.agg #[.bool mi, .string ba, .int .i64 (-(max 0 PT)), .int .i64 PT, .int .i64 0], .bool true]) (by simp [results, Tryd.results14, go_sem, *]) rfl ⟨ba, HBA.out, ?_, HF.st⟩
            rw [E1.out, ← HPT.out, e2]
          · obtain ⟨PT, hPT⟩ : ∃ PT, PT = (rdF mant).2 := ⟨_, rfl⟩
            rw [← hPT] at hR hptl e6
            have HPT := Lib.hid hPT
            have hexl : ex.length = 2 + es.length := by rw [e0]; simp; omega
            have hs2z : s2.size = k + (2 + es.length) := by omega
            have hks : k < s2.size := by omega
            have hkl : mant.length = k := HML.out.symm
            have hcl : s2[k] = c := by
              have h := list_idx hs2.out hks
              rw [List.getElem?_append_right (by omega), hkl, Nat.sub_self, e0] at h
              simpa using h.symm
            have hd3 := drop_extract hs2.out (k + 1)
            rw [hs2z, List.drop_append, hkl, List.drop_of_length_le (by omega), show k + 1 - k = 1 by omega, e0] at hd3
            have q3 := hR.c3
            have q2 := hR.c2
            have z2 := hR.fz 2
            have HR2 := Lib.hid (hR.set2 (-(max 0 PT)))
            have HD3 := Lib.hid hd3
            have E6 := Lib.hid e6
            have E5 := Lib.hid e5
            have hes : 1 ≤ es.length := e3
            have hes2 : es.length ≤ 5 := e4
            clear hd3 hkl hPT hR e6 e5 e0 HEX hz2 hexl
            rcases e1 with rfl | rfl
            all_goals
              go_upto_if 98 with fail
              obtain ⟨w3, hw3⟩ : ∃ w3, w3 = wr.setCell ⟨r + 1, 2, none⟩ (.int .i64 (-(max 0 PT))) := ⟨_, rfl⟩
              rw [← hw3] at HR2 ⊢
              clear hw3 q3 q2 z2
              go_cut [] (fun wx => w3 = wx)
              case first =>
                go_wp2_with fail
                go_meet
                exact rfl
              case rest =>
              obtain rfl := hcut
              go_upto_region 18 with fail
              go_cut [0] (fun v wx => ∃ s3 : ByteArray, v = .string s3 ∧ Hid (s3.data.toList = g :: es) ∧ w3 = wx)
              case first =>
                have hb1 : (k : Int) + 1 ≤ k + (2 + es.length) := by omega
                go_wp2_with fail
                go_meet
                exact ⟨_, rfl, by have h := HD3.out; simp only [List.nil_append, List.drop_succ_cons, List.drop_zero] at h; exact h, rfl⟩
              case rest =>
              obtain ⟨s3, rfl, hs3, rfl⟩ := hcut
              obtain ⟨N, hN⟩ : ∃ N, N = es.length := ⟨_, rfl⟩
              have hz3 := list_size hs3.out
              rw [List.length_cons, ← hN] at hz3
              rw [← hN] at hes hes2
              have h3p : 0 < s3.size := by omega
              have hs30 : s3[0]'h3p = g := by
                have h := list_idx hs3.out h3p
                simpa using h.symm
              obtain ⟨s4, hs4⟩ : ∃ s4, s3.extract 1 (N + 1) = s4 := ⟨_, rfl⟩
              have hs4l : s4.data.toList = es := by rw [← hs4, ← hz3]; exact drop_extract hs3.out 1
              have hs4z : s4.size = N := by rw [hN]; exact list_size hs4l
              have hcv := fun W => Lib.run_convert_string_bytes (P := Tryd.prog) W 9 62 5 s4 Tryd.underlying9 Tryd.underlying62 Tryd.underlying5
              obtain ⟨wb, hwb⟩ : ∃ wb, wb = Lib.bytesWorld w3 5 s4 := ⟨_, rfl⟩
              have hcell : ∀ j, j < N → wb.cell? ⟨w3.heap.size, j, none⟩ = some (.int .u8 ((es.getD j 0).toNat : Int)) := fun j hj => by
                rw [hwb, Lib.bytesWorld_cell w3 5 s4 j (by omega), hs4l]
              have hSb : Still w3 wb := by rw [hwb]; exact Still.below (bytesBelow w3 5 s4)
              have HRB := Lib.hid (HR2.out.into hSb)
              have HWB := Lib.hid hwb
              have HCELL := Lib.hid hcell
              have HN := Lib.hid hN
              have HS4 := Lib.hid hs4
              clear hwb hcell hN hs4l
              rw [hs4z] at hcv
              obtain ⟨gm, hgm⟩ : ∃ gm, gm = decide (g = 45) := ⟨_, rfl⟩
              have HGM := Lib.hid hgm
              clear hgm
              rcases e2 with e2 | e2
              · rw [e2] at hs30
                go_wp2_with fail
                rw [← HWB.out]
                generalize grownCap _ _ _ _ = CAP
                have HSB := Lib.hid hSb
                clear hcv
                go_loopg [6, 130] N (fun q kv iv wr => ∃ j : Nat, iv = .int .i64 (j : Int) ∧ kv = .int .i64 (decVal (es.take j) : Int) ∧ j + q = N ∧ wb = wr)
                case atStart => exact ⟨0, rfl, by simp [decVal], by omega, rfl⟩
                case round =>
                  obtain ⟨j, rfl, rfl, hjq, rfl⟩ := hrel
                  have hdv : decVal (es.take j) < 100000 := Nat.lt_of_lt_of_le (decVal_lt _ (fun c hc => E5.out c (List.mem_of_mem_take hc))) (by
                    have : (es.take j).length ≤ 5 := by rw [List.length_take]; have := HN.out; omega
                    exact Nat.le_trans (Nat.pow_le_pow_right (by decide) this) (by decide))
                  by_cases hj : j < N
                  · have hcj := HCELL.out j hj
                    have hjl : j < es.length := by have := HN.out; omega
                    have hee := E5.out es[j] (List.getElem_mem hjl)
                    have hgd : es.getD j 0 = es[j] := by simp [hjl]
                    rw [hgd] at hcj
                    have hsn : decVal (es.take (j + 1)) = decVal (es.take j) * 10 + (es[j].toNat - 48) := by
                      rw [List.take_succ_eq_append_getElem hjl, decVal_snoc]
                    obtain ⟨cv, hcv'⟩ : ∃ cv, cv = es[j].toNat := ⟨_, rfl⟩
                    rw [← hcv'] at hcj hee hsn
                    obtain ⟨e1, e2⟩ := hee
                    obtain ⟨D0, hD0⟩ : ∃ D0, D0 = decVal (es.take j) := ⟨_, rfl⟩
                    rw [← hD0] at hsn hdv ⊢
                    have HSN := Lib.hid hsn
                    have i1 : (48 : Int) ≤ cv := by omega
                    have i2 : (cv : Int) ≤ 57 := by omega
                    clear hsn hD0 hcv' hgd
                    go_wp2_with fail
                    go_roundg (gk - 1)
                    case measure => omega
                    case rel => exact ⟨j + 1, by go_num, by rw [HSN.out]; go_num, by omega, rfl⟩
                  · obtain rfl : j = N := by omega
                    have hall : es.take j = es := by rw [List.take_of_length_le]; have := HN.out; omega
                    rw [hall] at hdv ⊢
                    obtain ⟨D0, hD0⟩ : ∃ D0, D0 = decVal es := ⟨_, rfl⟩
                    rw [← hD0] at hdv ⊢
                    have HD0 := Lib.hid hD0
                    clear hD0 hall
                    obtain ⟨P0, hP0⟩ : ∃ P0, P0 = -(max 0 PT) := ⟨_, rfl⟩
                    have hrb := HRB.out
                    rw [← hP0] at hrb
                    have hP1 : -100000 ≤ P0 ∧ P0 ≤ 0 := by omega
                    obtain ⟨hP1, hP2⟩ := hP1
                    have HP0 := Lib.hid hP0
                    obtain ⟨xv, hxv⟩ : ∃ xv : Int, xv = if g = 45 then -(D0 : Int) else D0 := ⟨_, rfl⟩
                    have hxv' : xv = (D0 : Int) := by rw [hxv, e2]; rfl
                    have q0 := hrb.c0
                    have q1 := hrb.c1
                    have q2 := hrb.c2
                    have q3 := hrb.c3
                    have q4 := hrb.c4
                    have z2 := hrb.fz 2
                    have z4 := hrb.fz 4
                    have HRC := Lib.hid ((hrb.set4 (j : Int)).set2 (P0 + (D0 : Int)))
                    have hneg : IntKind.i64.wrap (-(D0 : Int)) = -(D0 : Int) := by rw [IntKind.wrap_i64]; omega
                    have HXV := Lib.hid hxv
                    have HXW := Lib.hid hxv'
                    clear hrb hP0 hxv hxv' HRB
                    go_upto_region 33 with fail
                    revert HRC
                    generalize (wb.setCell ⟨r + 1, 4, none⟩ (.int .i64 (j : Int))).setCell ⟨r + 1, 2, none⟩ (.int .i64 (P0 + (D0 : Int))) = w5
                    intro HRC
                    clear q0 q1 q2 q3 q4 z2 z4
                    have HD := hR1.into HRC.out.st
                    obtain ⟨XP, hXP⟩ : ∃ XP, XP = P0 + (D0 : Int) := ⟨_, rfl⟩
                    rw [← hXP] at HRC
                    have HXP := Lib.hid hXP
                    have q0 := HRC.out.c0
                    have q1 := HRC.out.c1
                    have q2 := HRC.out.c2
                    have q3 := HRC.out.c3
                    have q4 := HRC.out.c4
                    have o0 := HD.c0
                    have o1 := HD.c1
                    have o2 := HD.c2
                    have o3 := HD.c3
                    have o4 := HD.c4
                    have f0 := HD.fz 0
                    have f1 := HD.fz 1
                    have f2 := HD.fz 2
                    have f3 := HD.fz 3
                    have f4 := HD.fz 4
                    have hbp : 0 < ba.size := by
                      have h1 := list_size HBA.out
                      have h2 := List.length_pos_iff.2 HDS.out
                      omega
                    have hbn := str_ne hbp
                    have hbn' : ba.toList.isEmpty = false := by simpa using hbn
                    have HD := Lib.hid HD
                    clear hXP
                    go_region
                    have HF := (((((HD.out.set0 mi).set1 ba).set2 XP).set3 PT).set4 (j : Int)).drew
                    revert HF
                    generalize (((((w5.setCell ⟨r, 0, none⟩ (.bool mi)).setCell ⟨r, 1, none⟩ (.string ba)).setCell ⟨r, 2, none⟩ (.int .i64 XP)).setCell ⟨r, 3, none⟩ (.int .i64 PT)).setCell ⟨r, 4, none⟩ (.int .i64 (j : Int))).drew = wF
                    intro HF
                    have r0 := HF.c0
                    have r1 := HF.c1
                    have r2 := HF.c2
                    have r3 := HF.c3
                    have r4 := HF.c4
                    clear q0 q1 q2 q3 q4 o0 o1 o2 o3 o4 f0 f1 f2 f3 f4 hbn hbn'
                    go_wp2_with fail
                    refine bodyPost_ret (v := .tuple #[.agg #[.bool mi, .string ba, .int .i64 XP, .int .i64 PT, .int .i64 (j : Int)], .bool true]) (by simp [results, Tryd.results14, go_sem, *]) rfl ⟨ba, HBA.out, ?_, HF.st⟩
                    have hpw : pw = XP := by rw [E6.out, HXP.out, HP0.out, ← HXW.out, HXV.out, HD0.out]
                    have hjn := HN.out
                    first
                      | (rw [hpw, ← HPT.out, hjn]; done)
                      | rw [hpw, ← HPT.out, e7, hjn]
              · rw [e2] at hs30
                go_wp2_with fail
                rw [← HWB.out]
                generalize grownCap _ _ _ _ = CAP
                have HSB := Lib.hid hSb
                clear hcv
                go_loopg [6, 130] N (fun q kv iv wr => ∃ j : Nat, iv = .int .i64 (j : Int) ∧ kv = .int .i64 (decVal (es.take j) : Int) ∧ j + q = N ∧ wb = wr)
                case atStart => exact ⟨0, rfl, by simp [decVal], by omega, rfl⟩
                case round =>
                  obtain ⟨j, rfl, rfl, hjq, rfl⟩ := hrel
                  have hdv : decVal (es.take j) < 100000 := Nat.lt_of_lt_of_le (decVal_lt _ (fun c hc => E5.out c (List.mem_of_mem_take hc))) (by
                    have : (es.take j).length ≤ 5 := by rw [List.length_take]; have := HN.out; omega
                    exact Nat.le_trans (Nat.pow_le_pow_right (by decide) this) (by decide))
                  by_cases hj : j < N
                  · have hcj := HCELL.out j hj
                    have hjl : j < es.length := by have := HN.out; omega
                    have hee := E5.out es[j] (List.getElem_mem hjl)
                    have hgd : es.getD j 0 = es[j] := by simp [hjl]
                    rw [hgd] at hcj
                    have hsn : decVal (es.take (j + 1)) = decVal (es.take j) * 10 + (es[j].toNat - 48) := by
                      rw [List.take_succ_eq_append_getElem hjl, decVal_snoc]
                    obtain ⟨cv, hcv'⟩ : ∃ cv, cv = es[j].toNat := ⟨_, rfl⟩
                    rw [← hcv'] at hcj hee hsn
                    obtain ⟨e1, e2⟩ := hee
                    obtain ⟨D0, hD0⟩ : ∃ D0, D0 = decVal (es.take j) := ⟨_, rfl⟩
                    rw [← hD0] at hsn hdv ⊢
                    have HSN := Lib.hid hsn
                    have i1 : (48 : Int) ≤ cv := by omega
                    have i2 : (cv : Int) ≤ 57 := by omega
                    clear hsn hD0 hcv' hgd
                    go_wp2_with fail
                    go_roundg (gk - 1)
                    case measure => omega
                    case rel => exact ⟨j + 1, by go_num, by rw [HSN.out]; go_num, by omega, rfl⟩
                  · obtain rfl : j = N := by omega
                    have hall : es.take j = es := by rw [List.take_of_length_le]; have := HN.out; omega
                    rw [hall] at hdv ⊢
                    obtain ⟨D0, hD0⟩ : ∃ D0, D0 = decVal es := ⟨_, rfl⟩
                    rw [← hD0] at hdv ⊢
                    have HD0 := Lib.hid hD0
                    clear hD0 hall
                    obtain ⟨P0, hP0⟩ : ∃ P0, P0 = -(max 0 PT) := ⟨_, rfl⟩
                    have hrb := HRB.out
                    rw [← hP0] at hrb
                    have hP1 : -100000 ≤ P0 ∧ P0 ≤ 0 := by omega
                    obtain ⟨hP1, hP2⟩ := hP1
                    have HP0 := Lib.hid hP0
                    obtain ⟨xv, hxv⟩ : ∃ xv : Int, xv = if g = 45 then -(D0 : Int) else D0 := ⟨_, rfl⟩
                    have hxv' : xv = (-(D0 : Int)) := by rw [hxv, e2]; rfl
                    have q0 := hrb.c0
                    have q1 := hrb.c1
                    have q2 := hrb.c2
                    have q3 := hrb.c3
                    have q4 := hrb.c4
                    have z2 := hrb.fz 2
                    have z4 := hrb.fz 4
                    have HRC := Lib.hid ((hrb.set4 (j : Int)).set2 (P0 + (-(D0 : Int))))
                    have hneg : IntKind.i64.wrap (-(D0 : Int)) = -(D0 : Int) := by rw [IntKind.wrap_i64]; omega
                    have HXV := Lib.hid hxv
                    have HXW := Lib.hid hxv'
                    clear hrb hP0 hxv hxv' HRB
                    go_upto_region 33 with fail
                    revert HRC
                    generalize (wb.setCell ⟨r + 1, 4, none⟩ (.int .i64 (j : Int))).setCell ⟨r + 1, 2, none⟩ (.int .i64 (P0 + -(D0 : Int))) = w5
                    intro HRC
                    clear q0 q1 q2 q3 q4 z2 z4
                    have HD := hR1.into HRC.out.st
                    obtain ⟨XP, hXP⟩ : ∃ XP, XP = P0 + -(D0 : Int) := ⟨_, rfl⟩
                    rw [← hXP] at HRC
                    have HXP := Lib.hid hXP
                    have q0 := HRC.out.c0
                    have q1 := HRC.out.c1
                    have q2 := HRC.out.c2
                    have q3 := HRC.out.c3
                    have q4 := HRC.out.c4
                    have o0 := HD.c0
                    have o1 := HD.c1
                    have o2 := HD.c2
                    have o3 := HD.c3
                    have o4 := HD.c4
                    have f0 := HD.fz 0
                    have f1 := HD.fz 1
                    have f2 := HD.fz 2
                    have f3 := HD.fz 3
                    have f4 := HD.fz 4
                    have hbp : 0 < ba.size := by
                      have h1 := list_size HBA.out
                      have h2 := List.length_pos_iff.2 HDS.out
                      omega
                    have hbn := str_ne hbp
                    have hbn' : ba.toList.isEmpty = false := by simpa using hbn
                    have HD := Lib.hid HD
                    clear hXP
                    go_region
                    have HF := (((((HD.out.set0 mi).set1 ba).set2 XP).set3 PT).set4 (j : Int)).drew
                    revert HF
                    generalize (((((w5.setCell ⟨r, 0, none⟩ (.bool mi)).setCell ⟨r, 1, none⟩ (.string ba)).setCell ⟨r, 2, none⟩ (.int .i64 XP)).setCell ⟨r, 3, none⟩ (.int .i64 PT)).setCell ⟨r, 4, none⟩ (.int .i64 (j : Int))).drew = wF
                    intro HF
                    have r0 := HF.c0
                    have r1 := HF.c1
                    have r2 := HF.c2
                    have r3 := HF.c3
                    have r4 := HF.c4
                    clear q0 q1 q2 q3 q4 o0 o1 o2 o3 o4 f0 f1 f2 f3 f4 hbn hbn'
                    go_wp2_with fail
                    refine bodyPost_ret (v := .tuple #[.agg #[.bool mi, .string ba, .int .i64 XP, .int .i64 PT, .int .i64 (j : Int)], .bool true]) (by simp [results, Tryd.results14, go_sem, *]) rfl ⟨ba, HBA.out, ?_, HF.st⟩
                    have hpw : pw = XP := by rw [E6.out, HXP.out, HP0.out, ← HXW.out, HXV.out, HD0.out]
                    have hjn := HN.out
                    first
                      | (rw [hpw, ← HPT.out, hjn]; done)
                      | rw [hpw, ← HPT.out, e7, hjn]

end Go.Proofs.YthfjpofbaeeafaaDoor
