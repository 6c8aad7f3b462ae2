/-
  The plain law of the decimal's rounding: to n digits, the nearest (at a tie the even one).
-/
import Derived.Test.YthfjpofbaeeafaaDoorDL
namespace Go.Proofs.YthfjpofbaeeafaaDoor

/-- A digit as a byte. -/
def dby (d : Nat) : UInt8 := UInt8.ofNat (48 + d)
theorem dby_ne (d : Nat) (h : d < 10) (h0 : d ≠ 0) : dby d ≠ 48 := by
  have : ∀ i : Fin 10, i.val ≠ 0 → dby i.val ≠ 48 := by decide
  exact this ⟨d, h⟩ h0
theorem dby_toNat (d : Nat) (h : d < 10) : (dby d).toNat = 48 + d := by
  have : ∀ i : Fin 10, (dby i.val).toNat = 48 + i.val := by decide
  exact this ⟨d, h⟩

theorem snoc_of {l : List Nat} (h : l ≠ []) : ∃ a d, l = a ++ [d] := ⟨l.dropLast, l.getLast h, (List.dropLast_concat_getLast h).symm⟩

/-- Digits with a leading one that is not 0 are the number's digits. -/
theorem dec_of : ∀ (n : Nat) (l : List Nat), l.length = n → Dg l → l ≠ [] → Lib.decDigits (nv l) = l.map dby ∧ Lib.nDigits (nv l) = l.length
  | 0, l, hn, _, hne => by simp at hn; exact absurd hn hne
  | n + 1, l, hn, h, hne => by
    obtain ⟨a, d, rfl⟩ := snoc_of hne
    have hd : d < 10 := h.lt d (by simp)
    rw [List.length_append, List.length_singleton] at hn
    have hl := h.lead hne
    rw [List.length_append, List.length_singleton, Nat.add_sub_cancel, nv_snoc] at hl
    rw [nv_snoc]
    by_cases ha : a = []
    · subst ha
      simp only [nv_nil, Nat.zero_mul, Nat.zero_add, List.nil_append]
      exact ⟨Lib.decDigits_one hd, Lib.nDigits_small hd⟩
    · have hal : 0 < a.length := List.length_pos_iff.2 ha
      have h10 := pow10_succ a.length hal
      have hg : Dg a := ⟨fun x hx => h.lt x (List.mem_append_left _ hx), fun _ => by omega⟩
      have hpos := hg.pos ha
      obtain ⟨i1, i2⟩ := dec_of n a (by omega) hg ha
      constructor
      · rw [Lib.decDigits, dif_neg (by omega), show (nv a * 10 + d) / 10 = nv a by omega, show (nv a * 10 + d) % 10 = d by omega, i1, List.map_append]
        rfl
      · rw [Lib.nDigits_big (by omega), show (nv a * 10 + d) / 10 = nv a by omega, i2, List.length_append, List.length_singleton]

theorem cut_of {fs : List Nat} (h : Dg fs) (hne : fs ≠ []) (hlast : nv fs % 10 ≠ 0) : ∀ z : Nat, cutD (nv fs * 10 ^ z) = fs.map dby ∧ Lib.nDigits (nv fs * 10 ^ z) = fs.length + z
  | 0 => by
    obtain ⟨h1, h2⟩ := dec_of _ fs rfl h hne
    rw [Nat.pow_zero, Nat.mul_one, Nat.add_zero]
    refine ⟨?_, h2⟩
    unfold cutD
    rw [h1]
    obtain ⟨a, d, rfl⟩ := snoc_of hne
    rw [nv_snoc] at hlast
    have hd : d < 10 := h.lt d (by simp)
    rw [List.map_append, List.map_singleton, strip_snoc _ _ (dby_ne d hd (by omega))]
  | z + 1 => by
    obtain ⟨h1, h2⟩ := cut_of h hne hlast z
    have hp : 0 < nv fs * 10 ^ z := Nat.mul_pos (h.pos hne) (Nat.pow_pos (by decide))
    rw [Nat.pow_succ, ← Nat.mul_assoc, cutD_ten _ hp, nDigits_ten _ hp]
    exact ⟨h1, by omega⟩

/-- What stands in the decimal behind the rounding to n digits. -/
structure Rd (ds : List Nat) (dp : Int) (M : Nat) (E : Int) (n : Nat) (fs : List Nat) (fp : Int) : Prop where
  cut : cutD (rh (VN M E (n - dp)) VC) = fs.map dby
  pp : pt (rh (VN M E (n - dp)) VC) (n - dp) = fp

theorem Rd.of {ds : List Nat} {dp : Int} {M : Nat} {E : Int} {n : Nat} {fs : List Nat} {fp : Int} {z : Nat} (h : Dg fs) (hne : fs ≠ []) (hlast : nv fs % 10 ≠ 0) (e : rh (VN M E (n - dp)) VC = nv fs * 10 ^ z) (hp : fp = fs.length + z - (n - dp)) : Rd ds dp M E n fs fp := by
  obtain ⟨h1, h2⟩ := cut_of h hne hlast z
  have hpos : 0 < nv fs * 10 ^ z := Nat.mul_pos (h.pos hne) (Nat.pow_pos (by decide))
  refine ⟨by rw [e]; exact h1, ?_⟩
  unfold pt
  rw [e, if_neg (by omega), h2, hp]
  simp

theorem rh_whole (a D : Nat) (hD : 0 < D) : rh (D * a) D = a := by
  rw [rh_form (F := a) (R := 0) (by rw [Nat.add_zero, Nat.mul_comm]) hD, if_pos (by omega)]

/-- Nothing to be rounded. -/
theorem Rd.all {ds : List Nat} {dp : Int} {M : Nat} {E : Int} {n : Nat} (h : Dv ds dp M E) (hdp : dp ≤ 800) (hn : ds.length ≤ n) : Rd ds dp M E n ds dp := by
  refine Rd.of (z := n - ds.length) h.dg h.ne h.last ?_ (by omega)
  have e := VN_ten M E (ds.length - dp) (n - ds.length) (by omega)
  rw [show (ds.length : Int) - dp + ((n - ds.length : Nat) : Int) = n - dp by omega, h.val, Nat.mul_assoc] at e
  rw [e, rh_whole _ _ VC_pos]

/-- Is the rest more than half, or half behind an odd digit? -/
def upB (ds : List Nat) (n : Nat) : Bool :=
  if ds.getD n 0 = 5 ∧ n + 1 = ds.length then decide (0 < n ∧ ds.getD (n - 1) 0 % 2 ≠ 0) else decide (5 ≤ ds.getD n 0)

theorem rh_cutat {ds : List Nat} {dp : Int} {M : Nat} {E : Int} {n : Nat} (h : Dv ds dp M E) (hdp : dp ≤ 800) (hn : n < ds.length) : rh (VN M E (n - dp)) VC = nv (ds.take n) + (if upB ds n then 1 else 0) := by
  have e := VN_ten M E (n - dp) (ds.length - n) (by omega)
  rw [show (n : Int) - dp + ((ds.length - n : Nat) : Int) = ds.length - dp by omega, h.val] at e
  have hp : 0 < 10 ^ (ds.length - n) := Nat.pow_pos (by decide)
  rw [rh_cross (N2 := nv ds) (D2 := 10 ^ (ds.length - n)) (by rw [← e, Nat.mul_comm]) VC_pos hp]
  have e1 := nv_append (ds.take n) (ds.drop n)
  rw [List.take_append_drop, List.length_drop] at e1
  have hlt := nv_lt (ds.drop n) fun d hd => h.dg.lt d (List.drop_subset _ _ hd)
  rw [List.length_drop] at hlt
  have hc : ds.drop n = ds.getD n 0 :: ds.drop (n + 1) := by
    rw [List.drop_eq_getElem_cons hn, List.getD_eq_getElem?_getD, List.getElem?_eq_getElem hn]; rfl
  have hc10 := getD_lt h.dg.lt n
  have e2 := nv_cons (ds.getD n 0) (ds.drop (n + 1))
  rw [← hc, List.length_drop] at e2
  have hlt2 := nv_lt (ds.drop (n + 1)) fun d hd => h.dg.lt d (List.drop_subset _ _ hd)
  rw [List.length_drop] at hlt2
  have hS := pow10_succ (ds.length - n) (by omega)
  rw [show ds.length - n - 1 = ds.length - (n + 1) by omega] at hS
  obtain ⟨S, hSS⟩ : ∃ S, S = 10 ^ (ds.length - (n + 1)) := ⟨_, rfl⟩
  rw [← hSS] at hS e2 hlt2
  have hpar : nv (ds.take n) % 2 = if n = 0 then 0 else ds.getD (n - 1) 0 % 2 := by
    by_cases h0 : n = 0
    · subst h0; simp [nv]
    · rw [if_neg h0]
      have e3 : ds.take n = ds.take (n - 1) ++ [ds.getD (n - 1) 0] := by
        have := List.take_succ_eq_append_getElem (l := ds) (i := n - 1) (by omega)
        rw [Nat.sub_add_cancel (by omega)] at this
        rw [this, List.getD_eq_getElem?_getD, List.getElem?_eq_getElem (by omega)]
        rfl
      rw [e3, nv_snoc]; omega
  have hrest : ds.length ≠ n + 1 → nv (ds.drop (n + 1)) ≠ 0 := by
    intro hne hz
    have e4 := nv_append (ds.take (n + 1)) (ds.drop (n + 1))
    rw [List.take_append_drop, List.length_drop, hz, Nat.add_zero] at e4
    have h10 := pow10_succ (ds.length - (n + 1)) (by omega)
    rw [h10, ← Nat.mul_assoc] at e4
    have := h.last
    rw [e4] at this
    omega
  rw [rh_form e1 hlt, hS, hpar, e2]
  generalize nv (ds.take n) = F at *
  generalize nv (ds.drop (n + 1)) = R at *
  generalize hcc : ds.getD n 0 = c at *
  unfold upB
  rw [hcc]
  by_cases ht : c = 5 ∧ n + 1 = ds.length
  · obtain ⟨rfl, hl⟩ := ht
    have hS1 : S = 1 := by rw [hSS, ← hl, Nat.sub_self, Nat.pow_zero]
    subst hS1
    rw [if_neg (show ¬ 2 * (5 * 1 + R) < 1 * 10 by omega), if_neg (show ¬ 1 * 10 < 2 * (5 * 1 + R) by omega)]
    have hb : (if 5 = 5 ∧ n + 1 = ds.length then decide (0 < n ∧ ds.getD (n - 1) 0 % 2 ≠ 0) else decide (5 ≤ 5)) = decide (0 < n ∧ ds.getD (n - 1) 0 % 2 ≠ 0) := if_pos (And.intro rfl hl)
    rw [hb]
    by_cases h0 : n = 0
    · simp [h0]
    · rw [if_neg h0]
      clear hb hpar
      have hg2 : ds.getD (n - 1) 0 % 2 < 2 := Nat.mod_lt _ (by decide)
      generalize ds.getD (n - 1) 0 % 2 = g at *
      by_cases hodd : g = 0
      · simp [hodd]
      · have h1 : g = 1 := by omega
        have h2 : 0 < n := by omega
        rw [h1]
        simp [h2]
  · rw [show (if (if c = 5 ∧ n + 1 = ds.length then decide (0 < n ∧ ds.getD (n - 1) 0 % 2 ≠ 0) else decide (5 ≤ c)) = true then 1 else 0) = if decide (5 ≤ c) = true then 1 else 0 by rw [if_neg ht]]
    by_cases h5 : 5 ≤ c
    · rw [show (if decide (5 ≤ c) = true then 1 else 0) = 1 from if_pos (decide_eq_true h5)]
      have hcS := Nat.mul_le_mul_right S h5
      by_cases h6 : c = 5
      · subst h6
        have := hrest (by omega)
        rw [if_neg (by omega), if_pos (by omega)]
      · have hcS := Nat.mul_le_mul_right S (show 6 ≤ c by omega)
        rw [if_neg (by omega), if_pos (by omega)]
    · rw [show (if decide (5 ≤ c) = true then 1 else 0) = 0 from if_neg (by simpa using h5)]
      have hcS := Nat.mul_le_mul_right S (show c ≤ 4 by omega)
      rw [if_pos (by omega), Nat.add_zero]

theorem take_lead {ds : List Nat} (h : Dg ds) (hne : ds ≠ []) {n : Nat} (hn : n ≤ ds.length) : Dg (ds.take n) := by
  refine ⟨fun d hd => h.lt d (List.take_subset _ _ hd), fun hne' => ?_⟩
  have h0 : 1 ≤ n := by
    rcases Nat.eq_zero_or_pos n with g | g
    · subst g; simp at hne'
    · exact g
  have := NN_lo h hne n h0
  rw [NN_in ds n hn] at this
  rw [List.length_take, Nat.min_eq_left hn]
  exact this

/-- Rounded down: the noughts at the end are struck (j digits are left). -/
theorem Rd.down {ds : List Nat} {dp : Int} {M : Nat} {E : Int} {n : Nat} (h : Dv ds dp M E) (hdp : dp ≤ 800) (hn : n < ds.length) (hu : upB ds n = false) {j : Nat} (hj0 : 0 < j) (hj : j ≤ n) (hz : ∀ i, j ≤ i → i < n → ds.getD i 0 = 0) (hl : ds.getD (j - 1) 0 ≠ 0) :
    Rd ds dp M E n (ds.take j) dp := by
  have e := rh_cutat h hdp hn
  rw [hu, if_neg (by decide), Nat.add_zero] at e
  have hlen : (ds.take n).length = n := by rw [List.length_take]; omega
  have e1 := nv_take_zero (out := ds.take n) (j := j) (by omega) (fun i h1 h2 => by
    rw [List.getD_eq_getElem?_getD, List.getElem?_take, if_pos (by omega), ← List.getD_eq_getElem?_getD]; exact hz i h1 (by omega))
  rw [List.take_take, Nat.min_eq_left hj, hlen] at e1
  have hlj : (ds.take j).length = j := by rw [List.length_take]; omega
  have hne : ds.take j ≠ [] := by intro g; rw [g] at hlj; simp at hlj; omega
  refine Rd.of (z := n - j) (take_lead h.dg h.ne (by omega)) hne ?_ (by rw [e, e1]) (by rw [hlj]; omega)
  have e2 : ds.take j = ds.take (j - 1) ++ [ds.getD (j - 1) 0] := by
    have := List.take_succ_eq_append_getElem (l := ds) (i := j - 1) (by omega)
    rw [Nat.sub_add_cancel hj0] at this
    rw [this, List.getD_eq_getElem?_getD, List.getElem?_eq_getElem (by omega)]
    rfl
  have h10 := getD_lt h.dg.lt (j - 1)
  rw [e2, nv_snoc]
  omega

theorem Rd.down0 {ds : List Nat} {dp : Int} {M : Nat} {E : Int} (h : Dv ds dp M E) (hdp : dp ≤ 800) (hu : upB ds 0 = false) : Rd ds dp M E 0 [] 0 := by
  have e := rh_cutat h hdp (List.length_pos_iff.2 h.ne)
  rw [hu, if_neg (by decide), Nat.add_zero, List.take_zero, nv_nil] at e
  refine ⟨by rw [e]; decide +kernel, ?_⟩
  unfold pt
  rw [e, if_pos rfl]

/-- Rounded up at the digit i, behind which there are nines alone. -/
theorem Rd.up {ds : List Nat} {dp : Int} {M : Nat} {E : Int} {n : Nat} (h : Dv ds dp M E) (hdp : dp ≤ 800) (hn : n < ds.length) (hu : upB ds n = true) {i : Nat} (hi : i < n) (h9 : ∀ t, i < t → t < n → ds.getD t 0 = 9) (hl : ds.getD i 0 < 9) :
    Rd ds dp M E n (ds.take i ++ [ds.getD i 0 + 1]) dp := by
  have e := rh_cutat h hdp hn
  rw [hu, if_pos rfl] at e
  have key : ∀ m, i < m → m ≤ n → nv (ds.take m) + 1 = (nv (ds.take i) * 10 + ds.getD i 0 + 1) * 10 ^ (m - 1 - i) := by
    intro m
    induction m with
    | zero => intro h1; omega
    | succ m ih =>
      intro h1 h2
      have e2 : ds.take (m + 1) = ds.take m ++ [ds.getD m 0] := by
        rw [List.take_succ_eq_append_getElem (l := ds) (i := m) (by omega), List.getD_eq_getElem?_getD, List.getElem?_eq_getElem (by omega)]
        rfl
      rw [e2, nv_snoc]
      rcases Nat.lt_or_ge i m with g | g
      · have := ih g (by omega)
        rw [h9 m g (by omega), show m + 1 - 1 - i = (m - 1 - i) + 1 by omega, Nat.pow_succ, ← Nat.mul_assoc]
        omega
      · obtain rfl : m = i := by omega
        simp
  have e1 := key n hi (Nat.le_refl _)
  have hlen : (ds.take i ++ [ds.getD i 0 + 1]).length = i + 1 := by rw [List.length_append, List.length_take, List.length_singleton]; omega
  have hdg : Dg (ds.take i ++ [ds.getD i 0 + 1]) := by
    refine ⟨?_, fun _ => ?_⟩
    · intro d hd
      rcases List.mem_append.1 hd with g | g
      · exact h.dg.lt d (List.take_subset _ _ g)
      · rw [List.mem_singleton.1 g]; omega
    · rw [hlen, nv_snoc, Nat.add_sub_cancel]
      rcases Nat.eq_zero_or_pos i with g | g
      · subst g; simp [nv]
      · have := (take_lead h.dg h.ne (n := i) (by omega)).lead (by intro q; have h3 := congrArg List.length q; rw [List.length_take, List.length_nil] at h3; omega)
        rw [List.length_take, Nat.min_eq_left (by omega)] at this
        have := pow10_succ i g
        omega
  refine Rd.of (z := n - 1 - i) hdg (by simp) ?_ ?_ ?_
  · rw [nv_snoc]; omega
  · rw [e, nv_snoc]; rw [e1]; rfl
  · rw [hlen]; omega

/-- All digits were nines (or there were none). -/
theorem Rd.nines {ds : List Nat} {dp : Int} {M : Nat} {E : Int} {n : Nat} (h : Dv ds dp M E) (hdp : dp ≤ 800) (hn : n < ds.length) (hu : upB ds n = true) (h9 : ∀ t, t < n → ds.getD t 0 = 9) : Rd ds dp M E n [1] (dp + 1) := by
  have e := rh_cutat h hdp hn
  rw [hu, if_pos rfl] at e
  have key : ∀ m, m ≤ n → nv (ds.take m) + 1 = 10 ^ m := by
    intro m
    induction m with
    | zero => intro _; simp [nv]
    | succ m ih =>
      intro h2
      have e2 : ds.take (m + 1) = ds.take m ++ [ds.getD m 0] := by
        rw [List.take_succ_eq_append_getElem (l := ds) (i := m) (by omega), List.getD_eq_getElem?_getD, List.getElem?_eq_getElem (by omega)]
        rfl
      have := ih (by omega)
      rw [e2, nv_snoc, h9 m (by omega), Nat.pow_succ]
      omega
  rw [key n (Nat.le_refl _)] at e
  have e1 : nv [1] = 1 := rfl
  refine Rd.of (z := n) ⟨by simp, fun _ => by simp [nv]⟩ (by simp) (by rw [e1]; decide) (by rw [e, e1, Nat.one_mul]) ?_
  simp
  omega

end Go.Proofs.YthfjpofbaeeafaaDoor
