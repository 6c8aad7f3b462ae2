/-
  The decimal in memory, and trim: noughts at the end are struck.
-/
import Derived.Test.YthfjpofbaeeafaaDoorUS
import Derived.LoopTactic
import Derived.Deep.LoopGhost
import Derived.Deep.DeepCutAuto
namespace Go.Proofs.YthfjpofbaeeafaaDoor
open Go.RowKit

/-- The decimal in block g: its 800 bytes are f's, nd of them count, the point stands behind dp. -/
structure Dm (w : World) (g : Nat) (f : Nat → Nat) (nd : Nat) (dp : Int) : Prop where
  cell : ∀ i, i < 800 → w.cell? ⟨g, i, none⟩ = some (.int .u8 (f i : Int))
  byte : ∀ i, i < 800 → f i < 256
  nd : w.cell? ⟨g, 800, none⟩ = some (.int .i64 nd)
  dp : w.cell? ⟨g, 801, none⟩ = some (.int .i64 dp)
  tr : w.cell? ⟨g, 803, none⟩ = some (.bool false)
  free : ∀ i, w.frozen? ⟨g, i, none⟩ = false
  lt : g < w.heap.size

/-- Nothing but the block g has turned. -/
def Kp (g : Nat) (w w' : World) : Prop := w.keptBut w' (fun p => p.block = g)
theorem Kp.refl (g : Nat) (w : World) : Kp g w w := World.keptBut_refl _ _
theorem Kp.trans {g : Nat} {a b c : World} (h : Kp g a b) (h' : Kp g b c) : Kp g a c := World.keptBut_trans h h'
theorem Kp.set {g : Nat} {a b : World} (h : Kp g a b) (o : Nat) (v : Value) : Kp g a (b.setCell ⟨g, o, none⟩ v) := World.keptBut_trans h (World.keptBut_setCell b ⟨g, o, none⟩ v rfl)
theorem Kp.drewN {g : Nat} {a b : World} (h : Kp g a b) (n : Nat) : Kp g a (b.drewN n) := h
theorem Kp.drew {g : Nat} {a b : World} (h : Kp g a b) : Kp g a b.drew := h
theorem Kp.still {g : Nat} {a b c : World} (h : Kp g a b) (h' : Still b c) : Kp g a c := World.keptBut_trans h (World.keptBut_mono (fun _ f => f.elim) h')
theorem Kp.tabs {B g : Nat} {a b : World} (h : Kp g a b) (hT : Tabs B a) (hB : B ≤ g) : Tabs B b := hT.kept h (fun p hp e => by omega)
theorem Kp.since {g : Nat} {W a b : World} (h : Still W a) (h' : Kp g a b) (hg : W.heap.size ≤ g) : Still W b := keptBut_then h h' (fun p hp => Or.inr (by rw [show p.block = g from hp]; exact hg))

section
variable {w : World} {g : Nat} {f : Nat → Nat} {nd : Nat} {dp : Int}
theorem ne_off {g a b : Nat} (h : a ≠ b) : (⟨g, a, none⟩ : Addr) ≠ ⟨g, b, none⟩ := fun q => h (by have := congrArg Addr.off q; simpa using this)
theorem Dm.drewN (h : Dm w g f nd dp) (n : Nat) : Dm (w.drewN n) g f nd dp := ⟨h.cell, h.byte, h.nd, h.dp, h.tr, h.free, h.lt⟩
theorem Dm.drew (h : Dm w g f nd dp) : Dm w.drew g f nd dp := ⟨h.cell, h.byte, h.nd, h.dp, h.tr, h.free, h.lt⟩
theorem Dm.setD (h : Dm w g f nd dp) {i v : Nat} (hi : i < 800) (hv : v < 256) {x : Int} (hx : x = (v : Int)) : Dm (w.setCell ⟨g, i, none⟩ (.int .u8 x)) g (fun j => if j = i then v else f j) nd dp := by
  subst hx
  refine ⟨fun j hj => ?_, fun j hj => ?_, ?_, ?_, ?_, fun j => by rw [World.frozen?_setCell]; exact h.free j, by rw [World.size_setCell]; exact h.lt⟩
  · by_cases e : j = i
    · subst e
      rw [World.cell?_setCell_same _ _ _ (h.cell j hj), if_pos rfl]
    · rw [World.cell?_setCell_other _ _ _ _ (ne_off e).symm, if_neg e]
      exact h.cell j hj
  · by_cases e : j = i
    · rw [if_pos e]; exact hv
    · rw [if_neg e]; exact h.byte j hj
  · rw [World.cell?_setCell_other _ _ _ _ (ne_off (by omega)), h.nd]
  · rw [World.cell?_setCell_other _ _ _ _ (ne_off (by omega)), h.dp]
  · rw [World.cell?_setCell_other _ _ _ _ (ne_off (by omega)), h.tr]
theorem Dm.setNd (h : Dm w g f nd dp) (n : Nat) {x : Int} (hx : x = (n : Int)) : Dm (w.setCell ⟨g, 800, none⟩ (.int .i64 x)) g f n dp := by
  subst hx
  refine ⟨fun j hj => ?_, h.byte, ?_, ?_, ?_, fun j => by rw [World.frozen?_setCell]; exact h.free j, by rw [World.size_setCell]; exact h.lt⟩
  · rw [World.cell?_setCell_other _ _ _ _ (ne_off (by omega)), h.cell j hj]
  · rw [World.cell?_setCell_same _ _ _ h.nd]
  · rw [World.cell?_setCell_other _ _ _ _ (ne_off (by omega)), h.dp]
  · rw [World.cell?_setCell_other _ _ _ _ (ne_off (by omega)), h.tr]
theorem Dm.setDp (h : Dm w g f nd dp) (d : Int) : Dm (w.setCell ⟨g, 801, none⟩ (.int .i64 d)) g f nd d := by
  refine ⟨fun j hj => ?_, h.byte, ?_, ?_, ?_, fun j => by rw [World.frozen?_setCell]; exact h.free j, by rw [World.size_setCell]; exact h.lt⟩
  · rw [World.cell?_setCell_other _ _ _ _ (ne_off (by omega)), h.cell j hj]
  · rw [World.cell?_setCell_other _ _ _ _ (ne_off (by omega)), h.nd]
  · rw [World.cell?_setCell_same _ _ _ h.dp]
  · rw [World.cell?_setCell_other _ _ _ _ (ne_off (by omega)), h.tr]
theorem Dm.still {w' : World} (h : Dm w g f nd dp) (hs : Still w w') : Dm w' g f nd dp :=
  ⟨fun i hi => hs.cell (h.cell i hi), h.byte, hs.cell h.nd, hs.cell h.dp, hs.cell h.tr, fun i => (keptBut_frozen hs (a := ⟨g, i, none⟩) h.lt).trans (h.free i), Nat.lt_of_lt_of_le h.lt hs.size⟩
theorem Dm.same (h : Dm w g f nd dp) {f' : Nat → Nat} (hf : ∀ i, i < 800 → f' i = f i) : Dm w g f' nd dp :=
  ⟨fun i hi => by rw [hf i hi]; exact h.cell i hi, fun i hi => by rw [hf i hi]; exact h.byte i hi, h.nd, h.dp, h.tr, h.free, h.lt⟩
end

/-- What trim leaves. -/
def TrimRes (W : World) (g : Nat) (f : Nat → Nat) (nd : Nat) (dp : Int) (e : Ending) (w' : World) : Prop :=
  e = .returned (.tuple #[]) ∧ Kp g W w' ∧ ∃ j, j ≤ nd ∧ (∀ i, j ≤ i → i < nd → f i = 48) ∧ (0 < j → f (j - 1) ≠ 48) ∧ Dm w' g f j (if j = 0 then 0 else dp)

set_option maxRecDepth 100000 in
set_option maxHeartbeats 1000000 in
theorem trim_any (W : World) (g : Nat) (f : Nat → Nat) (nd : Nat) (dp : Int) (h : Dm W g f nd dp) (hnd : nd ≤ 800) :
    Calls Tryd.prog 84 #[.pointer (some ⟨g, 0, none⟩)] W (TrimRes W g f nd dp) := by
  have HD := Lib.hid h
  clear h
  go_enter Tryd.func84, Tryd.ntmps84
  go_wp2_with fail
  go_loopg [] nd (fun q wr => ∃ j : Nat, j ≤ q ∧ j ≤ nd ∧ (∀ i, j ≤ i → i < nd → f i = 48) ∧ Dm wr g f j dp ∧ Kp g W wr)
  case atStart => exact ⟨nd, Nat.le_refl _, Nat.le_refl _, fun i h1 h2 => by omega, HD.out, Kp.refl _ _⟩
  case round =>
    obtain ⟨j, hjq, hj, hz, hD, hK⟩ := hrel
    have HZ := Lib.hid hz
    have c800 := hD.nd
    have c801 := hD.dp
    have f800 := hD.free 800
    have f801 := hD.free 801
    have hlt := hD.lt
    rcases Nat.eq_zero_or_pos j with h0 | h0
    · subst h0
      have HDD := Lib.hid hD
      have HKK := Lib.hid hK
      clear hz hD hK
      go_wp2_with fail
      go_quiet (fail)
      go_wp2_with fail
      go_end0
      exact ⟨rfl, (HKK.out.drewN nq).set _ _, 0, by omega, HZ.out, fun h => by omega, by rw [if_pos rfl]; exact (HDD.out.drewN nq).setDp 0⟩
    · obtain ⟨t, rfl⟩ : ∃ t, j = t + 1 := ⟨j - 1, by omega⟩
      have hct := hD.cell t (by omega)
      have ht1 : ((t + 1 : Nat) : Int) - 1 = (t : Int) := by omega
      have ht2 : (t : Int) < 800 := by omega
      have ht3 : t < 800 := by omega
      have hne0 : (((t + 1 : Nat) : Int) == 0) = false := by simp; omega
      have HDD := Lib.hid hD
      have HKK := Lib.hid hK
      clear hz hD hK
      obtain ⟨b, hb⟩ : ∃ b, b = f t := ⟨_, rfl⟩
      rw [← hb] at hct
      have HB := Lib.hid hb
      clear hb
      by_cases h48 : b = 48
      · have h48' : ((b : Int) == 48) = true := by rw [h48]; rfl
        go_wp2_with fail
        go_quiet (fail)
        go_wp2_with fail
        go_roundg (gk - 1)
        case measure => omega
        case rel => exact ⟨t, by omega, by omega, fun i h1 h2 => (by
            by_cases e : i = t
            · rw [e, ← HB.out, h48]
            · exact HZ.out i (by omega) h2), (HDD.out.drewN nq).setNd t (by omega), (HKK.out.drewN nq).set _ _⟩
      · have h48' : ((b : Int) == 48) = false := by simp; omega
        go_wp2_with fail
        go_quiet (fail)
        go_wp2_with fail
        go_end0
        exact ⟨rfl, HKK.out.drewN nq, t + 1, by omega, HZ.out, fun _ => (by rw [Nat.add_sub_cancel, ← HB.out]; exact h48), by rw [if_neg (by omega)]; exact HDD.out.drewN nq⟩

end Go.Proofs.YthfjpofbaeeafaaDoor
