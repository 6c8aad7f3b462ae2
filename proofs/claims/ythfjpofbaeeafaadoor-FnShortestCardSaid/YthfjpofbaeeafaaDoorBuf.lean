/-
  The writers of the buffer of package fmt: what the buffer holds behind each.
-/
import Derived.Test.YthfjpofbaeeafaaDoorTabs
import Derived.RegionTactic
import Derived.ChangeAlike
namespace Go.Proofs.YthfjpofbaeeafaaDoor
open Go.RowKit

/-- The buffer in block bb holds xs; its array, if it has one, lies in a block from S on. -/
def BufIs (w : World) (S bb : Nat) (xs : List UInt8) : Prop :=
  w.frozen? ⟨bb, 0, none⟩ = false ∧ ((w.cell? ⟨bb, 0, none⟩ = some (.slice none 0 0) ∧ xs = []) ∨ ∃ g c bv, w.cell? ⟨bb, 0, none⟩ = some bv ∧ Row w bv xs g 0 c ∧ S ≤ g ∧ 0 < c)

/-- What a writer of the buffer leaves alone. -/
def BufMay (S bb : Nat) (p : MemPlace) : Prop := p.block = bb ∨ S ≤ p.block

theorem bufMay_of_up {S bb : Nat} {w w1 : World} {ao : Option Addr} {b o c : Nat} {olds : List UInt8} {v : Value} {ks : List UInt8} (h : Up w ao b o c olds w1 v ks) (hb : 0 < c → S ≤ b) : w.keptBut w1 (BufMay S bb) :=
  World.keptBut_mono (fun p ⟨j, _, hj, e⟩ => Or.inr (by rw [e]; exact hb (by omega))) h.kept

theorem cell_same {w : World} {a : Addr} {x v : Value} (h : w.cell? a = some x) : (w.setCell a v).cell? a = some v := World.cell?_setCell_same w a v h
theorem cell_other {w : World} {a p : Addr} {v : Value} (h : p ≠ a) : (w.setCell a v).cell? p = w.cell? p := World.cell?_setCell_other w a p v (Ne.symm h)

/-- Behind the append: the slice is stored into the buffer. -/
theorem buf_end {S bb : Nat} {w w1 : World} {ao : Option Addr} {b o c : Nat} {olds ks : List UInt8} {v : Value} (hc : Came w 1 ao b o olds.length c (bc olds)) (h : Up w ao b o c olds w1 v ks)
    (hz : ∀ j, j < olds.length → w.frozen? ⟨b, o + j, none⟩ = false) (hmax : c ≤ maxLen) (hbb : bb < S) (hS : S ≤ w.heap.size) (hb : 0 < c → S ≤ b) (ho : 0 < c → o = 0) (hf : w1.frozen? ⟨bb, 0, none⟩ = false) (hcell : (w1.cell? ⟨bb, 0, none⟩).isSome = true)
    (hnil : c = 0 → ao = none ∧ olds = []) : BufIs (w1.setCell ⟨bb, 0, none⟩ v) S bb (olds ++ ks) ∧ w.keptBut (w1.setCell ⟨bb, 0, none⟩ v) (BufMay S bb) := by
  refine ⟨⟨by rw [World.frozen?_setCell]; exact hf, ?_⟩, World.keptBut_trans (bufMay_of_up h hb) (World.keptBut_setCell _ _ _ (Or.inl rfl))⟩
  obtain ⟨x, hx⟩ := Option.isSome_iff_exists.1 hcell
  by_cases hp : 0 < c ∨ 0 < ks.length
  · obtain ⟨g', o', c', hr, hg⟩ := h.row hc hz hmax hp
    have hgS : S ≤ g' ∧ o' = 0 := by
      rcases hg with ⟨h1, h2, h3⟩ | ⟨h1, h2⟩
      · have hlt : 0 < c := by
          rcases hp with hp | hp
          · exact hp
          · have := hr.le; rw [List.length_append] at this; omega
        exact ⟨by have := hb hlt; omega, by have := ho hlt; omega⟩
      · exact ⟨by omega, h2.1⟩
    have hneb : g' ≠ bb := by omega
    refine Or.inr ⟨g', c', v, cell_same hx, ⟨by rw [hr.val, hgS.2], hr.le, hr.max, fun i hi => ?_, fun j hj => ?_⟩, hgS.1, ?_⟩
    · have := hr.get i hi
      rw [hgS.2] at this
      rw [cell_other (show (⟨g', 0 + i, none⟩ : Addr) ≠ ⟨bb, 0, none⟩ from fun e => hneb (congrArg Addr.block e)), this]
    · have := hr.there j hj
      rw [hgS.2] at this
      rw [cell_other (show (⟨g', 0 + j, none⟩ : Addr) ≠ ⟨bb, 0, none⟩ from fun e => hneb (congrArg Addr.block e)), World.frozen?_setCell]
      exact this
    · have := hr.le; rw [List.length_append] at this
      rcases hg with ⟨_, _, h3⟩ | ⟨_, _, h3⟩ <;> rcases hp with hp | hp <;> omega
  · obtain ⟨rfl, rfl⟩ := hnil (by omega)
    have hk : ks = [] := List.eq_nil_of_length_eq_zero (by omega)
    subst hk
    obtain ⟨r, h'⟩ := h
    have h0 : c = 0 := by omega
    subst h0
    rcases h'.val with ⟨_, hv, _⟩ | ⟨h1, _⟩
    · exact Or.inl ⟨by rw [cell_same hx, hv]; rfl, rfl⟩
    · simp at h1

theorem bwrite_nil (S bb : Nat) (ps : List UInt8) (pv : Value) (w : World) (hbb : bb < S) (hS : S ≤ w.heap.size) (hc0 : w.cell? ⟨bb, 0, none⟩ = some (.slice none 0 0)) (hz : w.frozen? ⟨bb, 0, none⟩ = false)
    (hs : Src Tryd.prog 1 62 pv ps.length (bc ps) w) (hn : ps.length ≤ 1000000) :
    Calls Tryd.prog 47 #[.pointer (some ⟨bb, 0, none⟩), pv] w fun e w' => e = .returned (.tuple #[]) ∧ BufIs w' S bb ps ∧ w.keptBut w' (BufMay S bb) := by
  have hc : Came w 1 none 0 0 ([] : List UInt8).length 0 (bc []) := ⟨Nat.le_refl _, by simp, by simp, rfl, by simp [bc], by simp⟩
  go_enter Tryd.func47, Tryd.ntmps47
  go_wp2_with (at_builtin; refine wpList_up _ rfl (.tmp 7) (.tmp 8) 74 62 rfl Tryd.underlying74 hc rfl (Up.start hc) pv ps rfl hs (by simp; omega) ?_)
  intro v' w1 hup
  have f1 : w1.frozen? ⟨bb, 0, none⟩ = false := (hup.frozen _ (by exact Nat.lt_of_lt_of_le hbb hS)).trans hz
  have c1 : w1.cell? ⟨bb, 0, none⟩ = some (.slice none 0 0) := (hup.cell (Nat.lt_of_lt_of_le hbb hS) (by right; right; omega)).trans hc0
  have HE := buf_end (S := S) hc hup (by simp) (by simp [maxLen]) hbb hS (by simp) (by simp) f1 (by rw [c1]; rfl) (fun _ => ⟨rfl, rfl⟩)
  obtain ⟨a', c', hv⟩ := hup.shape
  rw [hv] at HE ⊢
  simp only [List.length_nil, Nat.zero_add, List.nil_append] at HE ⊢
  have HE' := Lib.hid HE
  clear HE hv hup
  go_wp2
  go_end0
  exact ⟨rfl, HE'.out.1, HE'.out.2⟩

theorem bwrite_row (S bb g c : Nat) (xs ps : List UInt8) (bv pv : Value) (w : World) (hbb : bb < S) (hS : S ≤ w.heap.size) (hc0 : w.cell? ⟨bb, 0, none⟩ = some bv) (hz : w.frozen? ⟨bb, 0, none⟩ = false)
    (hr : Row w bv xs g 0 c) (hgS : S ≤ g) (hcp : 0 < c)
    (hs : Src Tryd.prog 1 62 pv ps.length (bc ps) w) (hn : xs.length + ps.length ≤ 1000000) :
    Calls Tryd.prog 47 #[.pointer (some ⟨bb, 0, none⟩), pv] w fun e w' => e = .returned (.tuple #[]) ∧ BufIs w' S bb (xs ++ ps) ∧ w.keptBut w' (BufMay S bb) := by
  have hc := hr.came
  have hzr : ∀ j, j < xs.length → w.frozen? ⟨g, 0 + j, none⟩ = false := fun j hj => (hr.there j (by have := hr.le; omega)).2
  have hval := hr.val
  have hmx := hr.max
  have hst := Up.start hc
  rw [hval] at hc0
  clear hr hval
  go_enter Tryd.func47, Tryd.ntmps47
  go_wp2_with (at_builtin; refine wpList_up _ rfl (.tmp 7) (.tmp 8) 74 62 rfl Tryd.underlying74 hc rfl hst pv ps rfl hs (by simp; omega) ?_)
  intro v' w1 hup
  have f1 : w1.frozen? ⟨bb, 0, none⟩ = false := (hup.frozen _ (by exact Nat.lt_of_lt_of_le hbb hS)).trans hz
  have c1 : w1.cell? ⟨bb, 0, none⟩ = some (.slice (some ⟨g, 0, none⟩) xs.length c) := (hup.cell (Nat.lt_of_lt_of_le hbb hS) (by left; omega)).trans hc0
  have HE := buf_end (S := S) hc hup hzr hmx hbb hS (fun _ => hgS) (fun _ => rfl) f1 (by rw [c1]; rfl) (fun h => by omega)
  obtain ⟨a', c', hv⟩ := hup.shape
  rw [hv] at HE ⊢
  have HE' := Lib.hid HE
  clear HE hv hup
  go_wp2
  go_end0
  exact ⟨rfl, HE'.out.1, HE'.out.2⟩

/-- (*buffer).write: the bytes are appended. -/
theorem bwrite_any (S bb : Nat) (xs ps : List UInt8) (pv : Value) (w : World) (hbb : bb < S) (hS : S ≤ w.heap.size) (hb : BufIs w S bb xs)
    (hs : Src Tryd.prog 1 62 pv ps.length (bc ps) w) (hn : xs.length + ps.length ≤ 1000000) :
    Calls Tryd.prog 47 #[.pointer (some ⟨bb, 0, none⟩), pv] w fun e w' => e = .returned (.tuple #[]) ∧ BufIs w' S bb (xs ++ ps) ∧ w.keptBut w' (BufMay S bb) := by
  obtain ⟨hz, ⟨hc0, rfl⟩ | ⟨g, c, bv, hc0, hr, hg, hc⟩⟩ := hb
  · exact bwrite_nil S bb ps pv w hbb hS hc0 hz hs (by simpa using hn)
  · exact bwrite_row S bb g c xs ps bv pv w hbb hS hc0 hz hr hg hc hs hn

/-- (*buffer).writeByte. -/
theorem bwriteByte_any (S bb : Nat) (xs : List UInt8) (x : UInt8) (w : World) (hbb : bb < S) (hS : S ≤ w.heap.size) (hb : BufIs w S bb xs) (hn : xs.length + 1 ≤ 1000000) :
    Calls Tryd.prog 45 #[.pointer (some ⟨bb, 0, none⟩), .int .u8 (x.toNat : Int)] w fun e w' => e = .returned (.tuple #[]) ∧ BufIs w' S bb (xs ++ [x]) ∧ w.keptBut w' (BufMay S bb) := by
  have hnew : Src Tryd.prog 1 74 (.slice (some ⟨w.heap.size, 0, none⟩) 1 1) 1 (bc [x]) (w.alloc (.cells #[.int .u8 (x.toNat : Int)] 5)) := by
    refine Src.ofSlice _ Tryd.underlying74 _ _ _ _ rfl (fun j u hj => ?_) (bc_one _)
    match j, hj with
    | 0, hj =>
      simp [bc] at hj
      subst hj
      rw [Addr.add_lit, Nat.zero_add]
      exact (World.cell?_alloc_new w _ _ 0).trans (by simp)
    | j + 1, hj => simp [bc] at hj
  obtain ⟨hz, ⟨hc0, rfl⟩ | ⟨g, c, bv, hc0, hr, hg, hc⟩⟩ := hb
  · have hc : Came w 1 none 0 0 ([] : List UInt8).length 0 (bc []) := ⟨Nat.le_refl _, by simp, by simp, rfl, by simp [bc], by simp⟩
    go_enter Tryd.func45, Tryd.ntmps45
    go_wp2_with (at_builtin; refine wpList_up _ rfl (.tmp 7) (.tmp 9) 74 74 rfl Tryd.underlying74 hc rfl ((Up.start hc).alloc hc _) _ [x] rfl hnew (by simp) ?_)
    intro v' w1 hup
    have f1 : w1.frozen? ⟨bb, 0, none⟩ = false := (hup.frozen _ (by exact Nat.lt_of_lt_of_le hbb hS)).trans hz
    have c1 : w1.cell? ⟨bb, 0, none⟩ = some (.slice none 0 0) := (hup.cell (Nat.lt_of_lt_of_le hbb hS) (by right; right; omega)).trans hc0
    have HE := buf_end (S := S) hc hup (by simp) (by simp [maxLen]) hbb hS (by simp) (by simp) f1 (by rw [c1]; rfl) (fun _ => ⟨rfl, rfl⟩)
    obtain ⟨a', c', hv⟩ := hup.shape
    rw [hv] at HE ⊢
    simp only [List.nil_append] at HE ⊢
    have HE' := Lib.hid HE
    clear HE hv hup
    go_wp2
    go_end0
    exact ⟨rfl, HE'.out.1, HE'.out.2⟩
  · have hc' := hr.came
    have hzr : ∀ j, j < xs.length → w.frozen? ⟨g, 0 + j, none⟩ = false := fun j hj => (hr.there j (by have := hr.le; omega)).2
    have hval := hr.val
    have hmx := hr.max
    have hst := Up.start hc'
    rw [hval] at hc0
    clear hr hval
    go_enter Tryd.func45, Tryd.ntmps45
    go_wp2_with (at_builtin; refine wpList_up _ rfl (.tmp 7) (.tmp 9) 74 74 rfl Tryd.underlying74 hc' rfl (hst.alloc hc' _) _ [x] rfl hnew (by simp; omega) ?_)
    intro v' w1 hup
    have f1 : w1.frozen? ⟨bb, 0, none⟩ = false := (hup.frozen _ (by exact Nat.lt_of_lt_of_le hbb hS)).trans hz
    have c1 : w1.cell? ⟨bb, 0, none⟩ = some (.slice (some ⟨g, 0, none⟩) xs.length c) := (hup.cell (Nat.lt_of_lt_of_le hbb hS) (by left; omega)).trans hc0
    have HE := buf_end (S := S) hc' hup hzr hmx hbb hS (fun _ => hg) (fun _ => rfl) f1 (by rw [c1]; rfl) (fun h => by omega)
    obtain ⟨a', c', hv⟩ := hup.shape
    rw [hv] at HE ⊢
    have HE' := Lib.hid HE
    clear HE hv hup
    go_wp2
    go_end0
    exact ⟨rfl, HE'.out.1, HE'.out.2⟩

/-- pad without a width: the bytes are written. -/
theorem pad_plain (S bb f : Nat) (xs ps : List UInt8) (pv : Value) (w : World) (hbb : bb < S) (hS : S ≤ w.heap.size) (hb : BufIs w S bb xs)
    (h0 : w.cell? ⟨f, 0, none⟩ = some (.pointer (some ⟨bb, 0, none⟩))) (h1 : w.cell? ⟨f, 1, none⟩ = some (.bool false))
    (hs : Src Tryd.prog 1 62 pv ps.length (bc ps) w) (hn : xs.length + ps.length ≤ 1000000) :
    Calls Tryd.prog 44 #[.pointer (some ⟨f, 0, none⟩), pv] w fun e w' => e = .returned (.tuple #[]) ∧ BufIs w' S bb (xs ++ ps) ∧ w.keptBut w' (BufMay S bb) := by
  go_enter Tryd.func44, Tryd.ntmps44
  go_wp2_with (go_at_call 47; refine (bwrite_any S bb xs ps pv _ hbb hS hb hs hn).mono ?_; rintro e w' ⟨rfl, hb', hk'⟩)
  refine bodyPost_ret (results_none rfl _ _ _) rfl ?_
  exact ⟨rfl, hb', hk'⟩
end Go.Proofs.YthfjpofbaeeafaaDoor
