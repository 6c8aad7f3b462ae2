/-
  spec.Shorter.
-/
import Derived.Test.YthfjpofbaeeafaaDoorId2
import Derived.Deep.AppendLies
import Derived.Deep.RegionHeld3
import Derived.RegionTactic
import Derived.StillTailTactics
namespace Go.Proofs.YthfjpofbaeeafaaDoor
open Go.RowKit

/-- One decimal's five cells. -/
def dc (dm : Bool) (pw : Int) (y : Nat) : List Value := [.bool dm, .string ⟨(Lib.decDigits y).toArray⟩, .int .i64 pw, .int .i64 0, .int .i64 0]
def dcs (dm : Bool) (pw : Int) (l : List Nat) : List Value := l.flatMap (dc dm pw)
theorem dcs_snoc (dm : Bool) (pw : Int) (l : List Nat) (y : Nat) : dcs dm pw (l ++ [y]) = dcs dm pw l ++ dc dm pw y := by simp [dcs]
theorem dcs_at (dm : Bool) (pw : Int) : ∀ (l : List Nat) (i : Nat) (y : Nat), l[i]? = some y → ∀ (j : Nat) (u : Value), (dc dm pw y)[j]? = some u → (dcs dm pw l)[5 * i + j]? = some u := by
  intro l
  induction l with
  | nil => intro i y h; simp at h
  | cons a l ih =>
    intro i y h j u hj
    have hj5 : j < 5 := by
      rcases Nat.lt_or_ge j 5 with h1 | h1
      · exact h1
      · rw [List.getElem?_eq_none (by simpa [dc] using h1)] at hj; cases hj
    have hl : (dc dm pw a).length = 5 := rfl
    have e : dcs dm pw (a :: l) = dc dm pw a ++ dcs dm pw l := by simp [dcs]
    rw [e]
    match i, h with
    | 0, h =>
      simp at h
      subst h
      rw [Nat.mul_zero, Nat.zero_add, List.getElem?_append_left (by omega)]
      exact hj
    | i + 1, h =>
      simp at h
      rw [List.getElem?_append_right (by omega), hl, show 5 * (i + 1) + j - 5 = 5 * i + j by omega]
      exact ih i y h j u hj

/-- The numbers that Shorter makes of n, which has two digits or more. -/
def shN (n k : Nat) : List Nat := (List.range k).map (fun i => n / 10 + i - 1)
theorem shN_succ (n k : Nat) : shN n (k + 1) = shN n k ++ [n / 10 + k - 1] := by simp [shN, List.range_succ]
theorem shN_len (n k : Nat) : (shN n k).length = k := by simp [shN]

theorem info32 : (Tryd.prog.info? 32).map (fun i => (i.zero, i.size, i.bytes)) = some (some (.agg #[.bool false, .string ⟨#[]⟩, .int .i64 0, .int .i64 0, .int .i64 0]), 5, 48) := by kernel_rfl

theorem own_slice5 {w : World} {v : Value} {base n : Nat} {xs : List Value} (h : w.ownsRow base 32 5 v n xs) : ∃ A c, v = .slice A n c := by
  rcases h.2 with ⟨rfl, he⟩ | ⟨g, cap, cur, rfl, _⟩
  · exact ⟨none, 0, by rw [he]⟩
  · exact ⟨_, cap, rfl⟩

theorem own_base5 {w : World} {v : Value} {base n : Nat} {xs : List Value} (h : w.ownsRow base 32 5 v n xs) : ∀ k, v.ownBlock = some k → base ≤ k := by
  intro k hk
  rcases h.2 with ⟨rfl, _⟩ | ⟨g, cap, cur, rfl, hb, _⟩
  · simp [Value.ownBlock] at hk
  · simp [Value.ownBlock] at hk
    omega

theorem news_five (w : World) (a b c d e : Value) (t : TypeId) : ∀ (j : Nat) (u : Value), [a, b, c, d, e][j]? = some u → (w.alloc (.cells #[a, b, c, d, e] t)).cell? ((⟨w.heap.size, 0, none⟩ : Addr).add j) = some u := by
  intro j u hj
  rw [Addr.add_lit, Nat.zero_add]
  exact (World.cell?_alloc_new w _ _ j).trans (by simpa using hj)

/-- The slice of Shorter. -/
def ShoRes (W : World) (dm : Bool) (pw : Int) (l : List Nat) (e : Ending) (w' : World) : Prop :=
  ∃ g c, e = .returned (.slice (some ⟨g, 0, none⟩) l.length c) ∧ g < w'.heap.size ∧ (∀ i y, l[i]? = some y → ∀ j u, (dc dm pw y)[j]? = some u → w'.cell? ⟨g, 5 * i + j, none⟩ = some u) ∧ Still W w'

theorem str_of {ba : ByteArray} {l : List UInt8} (h : ba.data.toList = l) : ba = ⟨l.toArray⟩ := by
  cases ba
  simp at h
  subst h
  rfl

set_option maxRecDepth 100000 in
set_option maxHeartbeats 8000000 in
theorem shorter_any (W : World) (dm : Bool) (s : ByteArray) (ds : List UInt8) (hs : s.data.toList = ds) (hd : ∀ c ∈ ds, 48 ≤ c.toNat ∧ c.toNat ≤ 57) (hl : ds.length ≤ 18) (hn : 10 ≤ decVal ds) (pw ptt ex : Int) (hp0 : -2000 ≤ pw) (hp1 : pw ≤ 2000) :
    Calls Tryd.prog 22 #[.agg #[.bool dm, .string s, .int .i64 pw, .int .i64 ptt, .int .i64 ex]] W (ShoRes W dm (pw + 1) (shN (decVal ds) 4)) := by
  have hcv := fun W => Lib.run_convert_string_bytes (P := Tryd.prog) W 9 62 5 s Tryd.underlying9 Tryd.underlying62 Tryd.underlying5
  have hsz := bytes_size hs
  have hszI : (s.size : Int) ≤ 18 := by omega
  have HS := Lib.hid hs
  have HSZ := Lib.hid hsz
  clear hs hsz
  go_enter Tryd.func22, Tryd.ntmps22
  go_wp2_with fail
  obtain ⟨Wb, hWb⟩ : ∃ Wb, Wb = Lib.bytesWorld (W.alloc (.cells #[.bool dm, .string s, .int .i64 pw, .int .i64 ptt, .int .i64 ex] 32)) 5 s := ⟨_, rfl⟩
  rw [← hWb]
  have hSb : Still (W.alloc (.cells #[.bool dm, .string s, .int .i64 pw, .int .i64 ptt, .int .i64 ex] 32)) Wb := by
    rw [hWb]; exact Still.below (bytesBelow _ 5 s)
  have hS : Still W Wb := ((Still.refl W).alloc _).trans hSb
  obtain ⟨G, hG⟩ : ∃ G, G = W.heap.size := ⟨_, rfl⟩
  have dd : ∀ i v, (#[.bool dm, .string s, .int .i64 pw, .int .i64 ptt, .int .i64 ex] : Array Value)[i]? = some v → Wb.cell? ⟨G, i, none⟩ = some v := fun i v hi => hSb.cell (by
    rw [hG]
    exact (World.cell?_alloc_new W _ _ i).trans hi)
  have d0 := dd 0 _ rfl
  have d2 := dd 2 _ rfl
  have hbyte : ∀ j (hj : j < ds.length), Wb.cell? ⟨G + 1, j, none⟩ = some (.int .u8 ((ds[j]'hj).toNat : Int)) := fun j hj => by
    have hz := HSZ.out
    have h := Lib.bytesWorld_cell (W.alloc (.cells #[.bool dm, .string s, .int .i64 pw, .int .i64 ptt, .int .i64 ex] 32)) 5 s j (by omega)
    rw [World.size_alloc, ← hG] at h
    rw [hWb, h, HS.out]
    simp [hj]
  have hGl : G < Wb.heap.size := World.block_lt_of_cell? Wb _ d0
  rw [← hG]
  generalize grownCap _ _ _ _ = CAP
  have HSS := Lib.hid hS
  have HBY := Lib.hid hbyte
  have HSD := Lib.hid hd
  obtain ⟨N, hN⟩ : ∃ N, N = s.size := ⟨_, rfl⟩
  rw [← hN]
  have hNl : N = ds.length := by rw [hN]; exact HSZ.out
  have HNL := Lib.hid hNl
  have hNI : (N : Int) ≤ 18 := by omega
  have hdl := decVal_lt ds hd
  have hd18 : decVal ds < 10 ^ 18 := Nat.lt_of_lt_of_le hdl (Nat.pow_le_pow_right (by decide) hl)
  clear dd hSb hS hbyte hWb hG hN hNl hd hdl hcv hszI
  go_loopg [3, 13] N (fun q nv1 iv wr => ∃ (j : Nat), nv1 = .int .u64 (decVal (ds.take j) : Nat) ∧ iv = .int .i64 j ∧ j + q = N ∧ Wb = wr)
  case atStart => exact ⟨0, by rfl, rfl, by omega, rfl⟩
  case round =>
    obtain ⟨j, rfl, rfl, hjq, rfl⟩ := hrel
    by_cases hlt : j < N
    · have hltI : (j : Int) < N := by omega
      have hjl : j < ds.length := by have := HNL.out; omega
      have hc := HBY.out j hjl
      obtain ⟨e1, e2⟩ := HSD.out ds[j] (List.getElem_mem hjl)
      have hsn : decVal (ds.take (j + 1)) = decVal (ds.take j) * 10 + (ds[j].toNat - 48) := by rw [List.take_succ_eq_append_getElem hjl, decVal_snoc]
      obtain ⟨b, hbb⟩ : ∃ b, b = ds[j].toNat := ⟨_, rfl⟩
      rw [← hbb] at hc e1 e2 hsn
      obtain ⟨d, hd⟩ : ∃ d, d = b - 48 := ⟨_, rfl⟩
      have hbd : (b : Int) - 48 = (d : Int) := by omega
      have hd9 : d < 10 := by omega
      have hd9I : (d : Int) < 10 := by omega
      rw [← hd] at hsn
      have hbnd : decVal (ds.take j) < 10 ^ 17 := by
        have h1 := decVal_lt (ds.take j) (fun c hc => HSD.out c (List.mem_of_mem_take hc))
        exact Nat.lt_of_lt_of_le h1 (Nat.pow_le_pow_right (by decide) (by rw [List.length_take]; omega))
      obtain ⟨x, hx⟩ : ∃ x, x = decVal (ds.take j) := ⟨_, rfl⟩
      rw [← hx] at hsn hbnd ⊢
      have HSN := Lib.hid hsn
      clear hsn hbb hd hx
      go_wp2_with fail
      go_roundg (gk - 1)
      case measure => omega
      case rel => exact ⟨j + 1, by rw [HSN.out]; go_num, by go_num, by omega, rfl⟩
    · obtain rfl : j = N := by omega
      have hall : ds.take j = ds := by rw [List.take_of_length_le]; have := HNL.out; omega
      rw [hall]
      obtain ⟨n, hnn⟩ : ∃ n, n = decVal ds := ⟨_, rfl⟩
      rw [← hnn] at hn hd18 ⊢
      obtain ⟨q, hq⟩ : ∃ q, q = n / 10 := ⟨_, rfl⟩
      have hqI : (n : Int) / 10 = (q : Int) := by omega
      have hq1 : 1 ≤ q := by omega
      have hq18 : q < 10 ^ 18 := by omega
      have hnU : (n : Int) < 18446744073709551616 := by omega
      have HQ := Lib.hid hq
      have HNN := Lib.hid hnn
      obtain ⟨p1, hp1e⟩ : ∃ p1, p1 = pw + 1 := ⟨_, rfl⟩
      have HP1 := Lib.hid hp1e
      obtain ⟨i0, hi0, hz0, hz1, hz2⟩ := info_parts info32
      obtain ⟨G1, hG1⟩ : ∃ G1, G1 = Wb.heap.size := ⟨_, rfl⟩
      have HG1 := Lib.hid hG1
      clear hall hnn hq hp1e HBY HSD HNL hG1
      go_wp2_with fail
      go_loopg [6, 24] 4 (fun qq ov kv wr => ∃ (i : Nat), kv = .int .u64 i ∧ i + qq = 4 ∧ wr.ownsRow G1 32 5 ov i (dcs dm (pw + 1) (shN n i)) ∧ Below G1 Wb wr)
      case atStart => exact ⟨0, by go_num, by omega, ⟨rfl, Or.inl ⟨rfl, rfl⟩⟩, Below.refl _ _⟩
      case round =>
        obtain ⟨i, rfl, hiq, hown, hbw⟩ := hrel
        have k0 : wr.cell? ⟨G, 0, none⟩ = some (.bool dm) := by rw [hbw.cell (p := ⟨G, 0, none⟩) (by show G < G1; rw [HG1.out]; exact hGl)]; exact d0
        have k2 : wr.cell? ⟨G, 2, none⟩ = some (.int .i64 pw) := by rw [hbw.cell (p := ⟨G, 2, none⟩) (by show G < G1; rw [HG1.out]; exact hGl)]; exact d2
        have hG1l : G < G1 := by rw [HG1.out]; exact hGl
        have hne : some G ≠ _ := fun h => absurd (own_base5 hown G h.symm) (by omega)
        have hGs : G1 ≤ wr.heap.size := by rw [HG1.out]; exact hbw.size
        by_cases hi4 : i < 4
        · have hi4I : (i : Int) < 4 := by omega
          obtain ⟨V, hV⟩ : ∃ V, V = q + i := ⟨_, rfl⟩
          have hVI : (q : Int) + i = (V : Int) := by omega
          have hV0 : 0 < V := by omega
          obtain ⟨y, hy⟩ : ∃ y, y = n / 10 + i - 1 := ⟨_, rfl⟩
          have hyI : (V : Int) - 1 = (y : Int) := by have := HQ.out; omega
          have hy19 : y < 10 ^ 19 := by omega
          have hV64 : (V : Int) < 18446744073709551616 := by omega
          obtain ⟨SD, hSD⟩ : ∃ SD : ByteArray, SD = ⟨(Lib.decDigits y).toArray⟩ := ⟨_, rfl⟩
          have hwr : IntKind.u64.wrap (y : Int) = (y : Int) := by rw [IntKind.wrap_u64]; omega
          have cD : ∀ w, Calls Tryd.prog 35 #[.int .u64 (IntKind.u64.wrap (y : Int)), .int .i64 10, .bool false] w fun e w' => e = .returned (.string SD) ∧ w = w' := fun w => by
            rw [hwr]
            exact (digits_any w y hy19).mono fun e w' ⟨⟨ba, h1, h2⟩, h3⟩ => ⟨by rw [h1, hSD, str_of h2], h3⟩
          obtain ⟨P1, hP1⟩ : ∃ P1, P1 = pw + 1 := ⟨_, rfl⟩
          have hP1I : pw + 1 = P1 := hP1.symm
          have hwp : IntKind.i64.wrap P1 = P1 := by rw [IntKind.wrap_i64]; omega
          have hP1a : -2000 ≤ P1 := by omega
          have hP1b : P1 ≤ 2001 := by omega
          have hdc : dc dm (pw + 1) y = [.bool dm, .string SD, .int .i64 (IntKind.i64.wrap P1), .int .i64 0, .int .i64 0] := by rw [hwp, hSD, hP1]; rfl
          have hsn : dcs dm (pw + 1) (shN n (i + 1)) = dcs dm (pw + 1) (shN n i) ++ [.bool dm, .string SD, .int .i64 (IntKind.i64.wrap P1), .int .i64 0, .int .i64 0] := by
            rw [shN_succ, dcs_snoc, ← hy, hdc]
          obtain ⟨XS, hXS⟩ : ∃ XS, XS = dcs dm (pw + 1) (shN n i) := ⟨_, rfl⟩
          rw [← hXS] at hown hsn
          have HSN := Lib.hid hsn
          have HOWN := Lib.hid hown
          have HBW := Lib.hid hbw
          have CD := Lib.hid cD
          clear hXS hsn hown hbw hdc hP1 hSD cD hy hV hwr hwp
          go_upto_region 13 with fail
          have kk0 := ((Still.refl wr).drew).cell k0
          have kk2 := ((Still.refl wr).drew).cell k2
          go_region_held3 (fun w' => w'.cell? ⟨G, 0, none⟩ = some (.bool dm) ∧ w'.cell? ⟨G, 2, none⟩ = some (.int .i64 pw))
            (first
              | with_reducible exact ⟨kk0, kk2⟩
              | exact ⟨(hgrow.cell_far _ (by simp; omega) hne).trans ((((Still.refl wr).alloc _).drew).cell k0), (hgrow.cell_far _ (by simp; omega) hne).trans ((((Still.refl wr).alloc _).drew).cell k2)⟩
              | go_keep)
            (first
              | (with_reducible refine Calls.mono (CD.out _) ?_
                 rintro e w6 ⟨rfl, rfl⟩)
              | (refine step_append_lies _ (by rfl) _ _ _ (by rfl) G1 32 i0 _ 5 48 Tryd.underlying49 hi0 hz0 hz1 hz2 rfl (by omega) _ i XS (by rfl) ((HOWN.out.alloc _).drew)
                   ⟨wr.heap.size, 0, none⟩ 1 1 [.bool dm, .string SD, .int .i64 (IntKind.i64.wrap P1), .int .i64 0, .int .i64 0] (by rfl) (by rfl) (World.news_of_block (cs := #[.bool dm, .string SD, .int .i64 (IntKind.i64.wrap P1), .int .i64 0, .int .i64 0]) (t := 32) (fr := (0, 0)) (heap_alloc_new wr _)) (by simp [Value.oneCell'])
                   (by omega) (by unfold maxLen; omega) (by omega) (by simp; omega) (wr.heap.size + 1) (by simp) ?_
                 intro gg cap w1 hown1 hgrow hat hlt))
          have hbw1 : Below G1 Wb w1 := (Below.drew (HBW.out.alloc hGs _)).grown hgrow (by simp; omega) (own_base5 HOWN.out)
          rw [← HSN.out] at hown1
          have HO := Lib.hid hown1
          have HB := Lib.hid hbw1
          clear hown1 hbw1 hgrow hat hlt kk0 kk2 k0 k2 hne
          go_wp2_with fail
          go_roundg (gk - 1)
          case measure => omega
          case rel => exact ⟨i + 1, by go_num, by omega, HO.out, HB.out⟩
        · obtain rfl : i = 4 := by omega
          obtain ⟨g, cap, hv, hg1, hg2⟩ := hown.form (by decide)
          subst hv
          have hcells := hown.cells (g := g) rfl
          have HCE := Lib.hid hcells
          have hst : Still W wr := HSS.out.trans (Still.below (by rw [HG1.out] at hbw; exact hbw))
          have HST := Lib.hid hst
          clear hcells hown hbw hst k0 k2 hne
          go_wp2_with fail
          go_ret
          refine ⟨g, cap, rfl, hg2, fun i y hi j u hj => ?_, HST.out⟩
          rw [← HNN.out] at hi
          have := HCE.out (5 * i + j) u (dcs_at dm (pw + 1) _ i y hi j u hj)
          rwa [Addr.add_lit, Nat.zero_add] at this

end Go.Proofs.YthfjpofbaeeafaaDoor
