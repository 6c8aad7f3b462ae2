/-
  The plain law of the decimal (strconv's numbers of many digits): its shifts and its rounding, on lists of digits.
-/
import Derived.Test.YthfjpofbaeeafaaDoorUL
namespace Go.Proofs.YthfjpofbaeeafaaDoor

/-- The number that digits tell. -/
def nv (l : List Nat) : Nat := l.foldl (fun a d => a * 10 + d) 0
theorem nv_nil : nv [] = 0 := rfl
theorem nv_snoc (l : List Nat) (d : Nat) : nv (l ++ [d]) = nv l * 10 + d := by simp [nv]
theorem nv_acc : ∀ (l : List Nat) (a : Nat), l.foldl (fun a d => a * 10 + d) a = a * 10 ^ l.length + nv l
  | [], a => by simp [nv]
  | d :: l, a => by
    have h1 := nv_acc l (a * 10 + d)
    have h2 := nv_acc l (0 * 10 + d)
    unfold nv
    rw [List.foldl_cons, List.foldl_cons, h1, h2, List.length_cons, Nat.pow_succ, Nat.zero_mul, Nat.zero_add, Nat.add_mul]
    have : a * 10 * 10 ^ l.length = a * (10 ^ l.length * 10) := by ac_rfl
    omega
theorem nv_append (a b : List Nat) : nv (a ++ b) = nv a * 10 ^ b.length + nv b := by
  unfold nv
  rw [List.foldl_append, nv_acc b]
  rfl
theorem nv_cons (d : Nat) (l : List Nat) : nv (d :: l) = d * 10 ^ l.length + nv l := by
  have := nv_append [d] l
  simpa [nv] using this
theorem nv_lt : ∀ l : List Nat, (∀ d ∈ l, d < 10) → nv l < 10 ^ l.length
  | [], _ => by simp [nv]
  | d :: l, h => by
    have h1 := nv_lt l fun x hx => h x (List.mem_cons_of_mem _ hx)
    have h2 := h d (by simp)
    rw [nv_cons, List.length_cons, Nat.pow_succ]
    have := Nat.mul_le_mul_right (10 ^ l.length) (show d + 1 ≤ 10 from h2)
    rw [Nat.add_mul, Nat.one_mul] at this
    omega
theorem nv_zeros (n : Nat) : nv (List.replicate n 0) = 0 := by
  induction n with
  | zero => rfl
  | succ n ih => rw [List.replicate_succ', nv_snoc, ih]

/-- All digits, the first of them not 0. -/
structure Dg (ds : List Nat) : Prop where
  lt : ∀ d ∈ ds, d < 10
  lead : ds ≠ [] → 10 ^ (ds.length - 1) ≤ nv ds

/-- The number of the first r digits of ds (noughts behind its end). -/
def NN (ds : List Nat) (r : Nat) : Nat := nv (ds.take r) * 10 ^ (r - ds.length)
theorem NN_zero (ds : List Nat) : NN ds 0 = 0 := by simp [NN, nv]
theorem NN_in (ds : List Nat) (r : Nat) (h : r ≤ ds.length) : NN ds r = nv (ds.take r) := by
  unfold NN
  rw [show r - ds.length = 0 by omega, Nat.pow_zero, Nat.mul_one]
theorem NN_out (ds : List Nat) (r : Nat) (h : ds.length ≤ r) : NN ds r = nv ds * 10 ^ (r - ds.length) := by
  unfold NN
  rw [List.take_of_length_le h]
theorem NN_succ (ds : List Nat) (r : Nat) : NN ds (r + 1) = NN ds r * 10 + ds.getD r 0 := by
  rcases Nat.lt_or_ge r ds.length with h | h
  · rw [NN_in ds (r + 1) h, NN_in ds r (Nat.le_of_lt h), List.take_succ_eq_append_getElem h, nv_snoc]
    congr 1
    rw [List.getD_eq_getElem?_getD, List.getElem?_eq_getElem h]; rfl
  · rw [NN_out ds (r + 1) (by omega), NN_out ds r h, show r + 1 - ds.length = (r - ds.length) + 1 by omega, Nat.pow_succ, ← Nat.mul_assoc, List.getD_eq_getElem?_getD, List.getElem?_eq_none h]
    rfl
theorem getD_lt {ds : List Nat} (h : ∀ d ∈ ds, d < 10) (r : Nat) : ds.getD r 0 < 10 := by
  rw [List.getD_eq_getElem?_getD]
  rcases Nat.lt_or_ge r ds.length with g | g
  · rw [List.getElem?_eq_getElem g]; exact h _ (List.getElem_mem g)
  · rw [List.getElem?_eq_none g]; decide
theorem NN_lo {ds : List Nat} (h : Dg ds) (hne : ds ≠ []) : ∀ r, 1 ≤ r → 10 ^ (r - 1) ≤ NN ds r := by
  have hl := h.lead hne
  have hlen : 0 < ds.length := List.length_pos_iff.2 hne
  intro r hr
  rcases Nat.lt_or_ge ds.length r with g | g
  · rw [NN_out ds r (by omega)]
    have := Nat.mul_le_mul_right (10 ^ (r - ds.length)) hl
    rwa [← Nat.pow_add, show ds.length - 1 + (r - ds.length) = r - 1 by omega] at this
  · rw [NN_in ds r g]
    rcases Nat.lt_or_ge (nv (ds.take r)) (10 ^ (r - 1)) with q | q
    · exfalso
      have e := nv_append (ds.take r) (ds.drop r)
      rw [List.take_append_drop, List.length_drop] at e
      have hd := nv_lt (ds.drop r) fun d hd => h.lt d (List.drop_subset _ _ hd)
      rw [List.length_drop] at hd
      have h1 := Nat.mul_le_mul_right (10 ^ (ds.length - r)) (show nv (ds.take r) + 1 ≤ 10 ^ (r - 1) from q)
      rw [← Nat.pow_add, show r - 1 + (ds.length - r) = ds.length - 1 by omega, Nat.add_mul, Nat.one_mul] at h1
      omega
    · exact q

/-! ### the shift to the right -/
/-- r digits of ds have been taken in, the digits 'out' put down; n is what is held. -/
structure RSt (ds : List Nat) (k r0 r n : Nat) (out : List Nat) : Prop where
  len : out.length + r0 = r
  r1 : 1 ≤ r0
  dig : ∀ d ∈ out, d < 10
  eq : NN ds r = 10 * nv out * 2 ^ k + n
  lt : n < 10 * 2 ^ k
  lead : if out = [] then 2 ^ k ≤ n else 10 ^ (out.length - 1) ≤ nv out

theorem RSt.start {ds : List Nat} {k r0 : Nat} (h1 : 1 ≤ r0) (h2 : NN ds (r0 - 1) < 2 ^ k) (h3 : 2 ^ k ≤ NN ds r0) (hd : ∀ d ∈ ds, d < 10) : RSt ds k r0 r0 (NN ds r0) [] := by
  refine ⟨by simp, h1, by simp, by simp [nv], ?_, by rw [if_pos rfl]; exact h3⟩
  have e := NN_succ ds (r0 - 1)
  rw [Nat.sub_add_cancel h1] at e
  have := getD_lt hd (r0 - 1)
  omega

theorem RSt.dlt {ds : List Nat} {k r0 r n : Nat} {out : List Nat} (h : RSt ds k r0 r n out) : n / 2 ^ k < 10 := by
  rw [Nat.div_lt_iff_lt_mul (Nat.two_pow_pos k)]
  exact h.lt

theorem RSt.step {ds : List Nat} {k r0 r n : Nat} {out : List Nat} (h : RSt ds k r0 r n out) (hd : ∀ d ∈ ds, d < 10) : RSt ds k r0 (r + 1) (n % 2 ^ k * 10 + ds.getD r 0) (out ++ [n / 2 ^ k]) := by
  have hc := getD_lt hd r
  have hp := Nat.two_pow_pos k
  have hm := Nat.mod_lt n hp
  have hdm := Nat.div_add_mod n (2 ^ k)
  have hdl := h.dlt
  refine ⟨by have := h.len; rw [List.length_append, List.length_singleton]; omega, h.r1, ?_, ?_, by omega, ?_⟩
  · intro d hd'
    rcases List.mem_append.1 hd' with g | g
    · exact h.dig d g
    · rw [List.mem_singleton.1 g]; exact hdl
  · rw [NN_succ, h.eq, nv_snoc]
    have e1 : 10 * (nv out * 10 + n / 2 ^ k) * 2 ^ k = 10 * (10 * nv out * 2 ^ k) + 10 * (2 ^ k * (n / 2 ^ k)) := by
      rw [Nat.mul_add, Nat.add_mul]
      congr 1
      · ac_rfl
      · ac_rfl
    rw [e1]
    omega
  · have hne : out ++ [n / 2 ^ k] ≠ [] := by simp
    rw [if_neg hne, nv_snoc, List.length_append, List.length_singleton, Nat.add_sub_cancel]
    have hl := h.lead
    split at hl
    · rename_i h0
      subst h0
      have : 1 ≤ n / 2 ^ k := (Nat.le_div_iff_mul_le hp).2 (by omega)
      simp [nv]; omega
    · rename_i h0
      have hlen : 0 < out.length := List.length_pos_iff.2 h0
      have := pow10_succ out.length hlen
      generalize n / 2 ^ k = dd at *
      omega

theorem RSt.bound {ds : List Nat} {k r0 r n : Nat} {out : List Nat} (h : RSt ds k r0 r n out) (hn : 0 < n) : r ≤ ds.length + k := by
  rcases Nat.lt_or_ge (ds.length + k) r with g | g
  · exfalso
    have e := h.eq
    rw [NN_out ds r (by omega), show r - ds.length = (r - ds.length - (k + 1)) + (k + 1) by omega, Nat.pow_add, Nat.pow_succ 10 k, show (10 : Nat) = 2 * 5 from rfl, Nat.mul_pow 2 5 k] at e
    rw [show (2 : Nat) * 5 = 10 from rfl] at e
    have hlt := h.lt
    have e1 : nv ds * (10 ^ (r - ds.length - (k + 1)) * (2 ^ k * 5 ^ k * 10)) = (10 * 2 ^ k) * (nv ds * (10 ^ (r - ds.length - (k + 1)) * 5 ^ k)) := by ac_rfl
    have e2 : 10 * nv out * 2 ^ k = (10 * 2 ^ k) * nv out := by ac_rfl
    rw [e1, e2] at e
    have hpos : 0 < 10 * 2 ^ k := Nat.mul_pos (by decide) (Nat.two_pow_pos k)
    generalize 10 * 2 ^ k = X at *
    generalize nv ds * (10 ^ (r - ds.length - (k + 1)) * 5 ^ k) = A at *
    rcases Nat.lt_or_ge (nv out) A with q | q
    · have := Nat.mul_le_mul_left X (show nv out + 1 ≤ A from q)
      rw [Nat.mul_add, Nat.mul_one] at this
      omega
    · have := Nat.mul_le_mul_left X q
      omega
  · exact g

/-- k ≤ 60: so many digits at least are taken in before the first is put down. -/
theorem r0_big (k r0 : Nat) (hk : k ≤ 60) (h : 2 ^ k < 10 ^ r0) : k + 1 ≤ r0 + 42 := by
  rcases Nat.lt_or_ge k (r0 + 42) with g | g
  · omega
  · exfalso
    have h1 : 10 ^ r0 ≤ 10 ^ (k - 42) := Nat.pow_le_pow_right (by decide) (by omega)
    have h2 : 10 ^ (k - 42) ≤ 2 ^ k := by
      have : ∀ j : Fin 19, 10 ^ j.val ≤ 2 ^ (j.val + 42) := by decide
      have := this ⟨k - 42, by omega⟩
      simpa [show k - 42 + 42 = k by omega] using this
    omega

/-! ### the value -/
/-- The digits ds with the point behind dp of them tell M times 2 to the E. -/
structure Dv (ds : List Nat) (dp : Int) (M : Nat) (E : Int) : Prop where
  dg : Dg ds
  ne : ds ≠ []
  last : nv ds % 10 ≠ 0
  val : VN M E (ds.length - dp) = VC * nv ds

theorem VN_half (x : Nat) (e q : Int) (k : Nat) (he : -1200 ≤ e) : VN x (e + k) q = VN x e q * 2 ^ k := by
  unfold VN
  rw [show (e + k + 1200).toNat = (e + 1200).toNat + k by omega, Nat.pow_add]
  ac_rfl

theorem Dg.pos {ds : List Nat} (h : Dg ds) (hne : ds ≠ []) : 0 < nv ds := Nat.lt_of_lt_of_le (Nat.pow_pos (by decide)) (h.lead hne)

theorem RSt.fin {ds : List Nat} {k r0 r : Nat} {out : List Nat} (h : RSt ds k r0 r 0 out) (hr : ds.length ≤ r) (hne : out ≠ []) {dp : Int} {M : Nat} {E : Int} (hv : VN M E (ds.length - dp) = VC * nv ds) (hdp : dp ≤ 800) (hE : -1200 ≤ E - k) :
    Dg out ∧ VN M (E - k) (out.length - (dp - (r0 - 1))) = VC * nv out := by
  have hl := h.lead
  rw [if_neg hne] at hl
  refine ⟨⟨h.dig, fun _ => hl⟩, ?_⟩
  have e := h.eq
  have hlen := h.len
  have hr1 := h.r1
  rw [NN_out ds r hr, Nat.add_zero] at e
  have e1 := VN_ten M E ((ds.length : Int) - dp) (r - ds.length) (by omega)
  rw [hv, Nat.mul_assoc, e] at e1
  have hpos : 0 < out.length := List.length_pos_iff.2 hne
  have e2 := VN_ten M E ((out.length : Int) - (dp - (r0 - 1))) 1 (by omega)
  rw [show (out.length : Int) - (dp - (r0 - 1)) + ((1 : Nat) : Int) = (ds.length : Int) - dp + ((r - ds.length : Nat) : Int) by omega, e1, Nat.pow_one] at e2
  have e3 := VN_half M (E - k) ((out.length : Int) - (dp - (r0 - 1))) k hE
  rw [show E - (k : Int) + k = E by omega] at e3
  rw [e3] at e2
  have hp : 0 < 10 * 2 ^ k := Nat.mul_pos (by decide) (Nat.two_pow_pos k)
  refine (Nat.eq_of_mul_eq_mul_right hp ?_).symm
  clear e1 e3 hv
  generalize VC = C at *
  generalize VN M (E - k) ((out.length : Int) - (dp - (r0 - 1))) = V at *
  calc C * nv out * (10 * 2 ^ k) = C * (10 * nv out * 2 ^ k) := by ac_rfl
    _ = V * 2 ^ k * 10 := e2
    _ = _ := by ac_rfl

theorem nv_take_zero {out : List Nat} {j : Nat} (hj : j ≤ out.length) (hz : ∀ i, j ≤ i → i < out.length → out.getD i 0 = 0) : nv out = nv (out.take j) * 10 ^ (out.length - j) := by
  have e := nv_append (out.take j) (out.drop j)
  have h0 : nv (out.drop j) = 0 := by
    have : out.drop j = List.replicate (out.length - j) 0 := by
      refine List.ext_getElem (by simp) fun i h1 h2 => ?_
      rw [List.length_drop] at h1
      have := hz (j + i) (by omega) (by omega)
      rw [List.getD_eq_getElem?_getD, List.getElem?_eq_getElem (by omega)] at this
      simpa using this
    rw [this, nv_zeros]
  rw [List.take_append_drop, List.length_drop, h0, Nat.add_zero] at e
  exact e

/-- Noughts at the end are struck. -/
theorem Dv.trim {out : List Nat} {dp : Int} {M : Nat} {E : Int} {j : Nat} (dg : Dg out) (hv : VN M E (out.length - dp) = VC * nv out) (hj0 : 0 < j) (hj : j ≤ out.length) (hz : ∀ i, j ≤ i → i < out.length → out.getD i 0 = 0)
    (hlast : out.getD (j - 1) 0 ≠ 0) (hdp : dp ≤ 800) : Dv (out.take j) dp M E := by
  have e := nv_take_zero hj hz
  have hne : out ≠ [] := by
    intro h; subst h; simp at hj; omega
  have hl := dg.lead hne
  have hlen : (out.take j).length = j := by rw [List.length_take]; omega
  have hp : 0 < 10 ^ (out.length - j) := Nat.pow_pos (by decide)
  refine ⟨⟨fun d hd => dg.lt d (List.take_subset _ _ hd), fun _ => ?_⟩, ?_, ?_, ?_⟩
  · rw [hlen]
    rw [e, show out.length - 1 = (j - 1) + (out.length - j) by omega, Nat.pow_add] at hl
    exact Nat.le_of_mul_le_mul_right hl hp
  · intro h
    rw [h] at hlen
    simp at hlen; omega
  · have e2 : out.take j = out.take (j - 1) ++ [out.getD (j - 1) 0] := by
      have := List.take_succ_eq_append_getElem (l := out) (i := j - 1) (by omega)
      rw [Nat.sub_add_cancel hj0] at this
      rw [this, List.getD_eq_getElem?_getD, List.getElem?_eq_getElem (by omega)]
      rfl
    have h10 := getD_lt dg.lt (j - 1)
    rw [e2, nv_snoc]
    omega
  · rw [hlen]
    have e1 := VN_ten M E ((j : Int) - dp) (out.length - j) (by omega)
    rw [show (j : Int) - dp + ((out.length - j : Nat) : Int) = out.length - dp by omega, hv, e, ← Nat.mul_assoc] at e1
    exact (Nat.eq_of_mul_eq_mul_right hp e1).symm

/-! ### the shift to the left -/
/-- j digits have been taken, from the last one on; 'out' has been put down; n is carried. -/
structure LSt (ds : List Nat) (k j n : Nat) (out : List Nat) : Prop where
  len : out.length = j
  dig : ∀ d ∈ out, d < 10
  eq : nv (ds.drop (ds.length - j)) * 2 ^ k = n * 10 ^ j + nv out

theorem LSt.start (ds : List Nat) (k : Nat) : LSt ds k 0 0 [] := ⟨rfl, by simp, by simp [nv]⟩
theorem LSt.lt {ds : List Nat} {k j n : Nat} {out : List Nat} (h : LSt ds k j n out) (hd : ∀ d ∈ ds, d < 10) (hj : j ≤ ds.length) : n < 2 ^ k := by
  have h1 := nv_lt (ds.drop (ds.length - j)) fun d hd' => hd d (List.drop_subset _ _ hd')
  rw [List.length_drop, show ds.length - (ds.length - j) = j by omega] at h1
  have e := h.eq
  have h2 := Nat.mul_lt_mul_of_pos_right h1 (Nat.two_pow_pos k)
  rw [Nat.mul_comm (10 ^ j)] at h2
  refine Nat.lt_of_mul_lt_mul_right (a := 10 ^ j) (Nat.lt_of_le_of_lt ?_ h2)
  rw [e]
  exact Nat.le_add_right _ _
theorem LSt.put {ds : List Nat} {k j n m : Nat} {out : List Nat} (h : LSt ds k j n out) (he : nv (ds.drop (ds.length - (j + 1))) * 2 ^ k = m * 10 ^ j + nv out) : LSt ds k (j + 1) (m / 10) (m % 10 :: out) := by
  refine ⟨by rw [List.length_cons, h.len], ?_, ?_⟩
  · intro d hd
    rcases List.mem_cons.1 hd with g | g
    · rw [g]; omega
    · exact h.dig d g
  · rw [he, nv_cons, h.len, Nat.pow_succ]
    have := Nat.div_add_mod m 10
    have e1 : m / 10 * (10 ^ j * 10) = (10 * (m / 10)) * 10 ^ j := by ac_rfl
    rw [e1, ← Nat.add_assoc, ← Nat.add_mul, this]
theorem LSt.step {ds : List Nat} {k j n : Nat} {out : List Nat} (h : LSt ds k j n out) (hj : j < ds.length) : LSt ds k (j + 1) ((n + ds.getD (ds.length - 1 - j) 0 * 2 ^ k) / 10) ((n + ds.getD (ds.length - 1 - j) 0 * 2 ^ k) % 10 :: out) := by
  refine h.put ?_
  have e : ds.drop (ds.length - (j + 1)) = ds.getD (ds.length - 1 - j) 0 :: ds.drop (ds.length - j) := by
    rw [List.drop_eq_getElem_cons (by omega), List.getD_eq_getElem?_getD, List.getElem?_eq_getElem (by omega)]
    congr 1
    · simp only [Option.getD_some]; congr 1; omega
    · congr 1; omega
  rw [e, nv_cons, List.length_drop, show ds.length - (ds.length - j) = j by omega, Nat.add_mul, h.eq, Nat.add_mul]
  have : ds.getD (ds.length - 1 - j) 0 * 10 ^ j * 2 ^ k = ds.getD (ds.length - 1 - j) 0 * 2 ^ k * 10 ^ j := by ac_rfl
  omega
theorem LSt.more {ds : List Nat} {k j n : Nat} {out : List Nat} (h : LSt ds k j n out) (hj : ds.length ≤ j) : LSt ds k (j + 1) (n / 10) (n % 10 :: out) := by
  refine h.put ?_
  rw [← h.eq, show ds.length - (j + 1) = 0 by omega, show ds.length - j = 0 by omega]
theorem LSt.room {ds : List Nat} {k j n T : Nat} {out : List Nat} (h : LSt ds k j n out) (hj : ds.length ≤ j) (hn : 0 < n) (hT : nv ds * 2 ^ k < 10 ^ T) : j < T := by
  have e := h.eq
  rw [show ds.length - j = 0 by omega, List.drop_zero] at e
  rcases Nat.lt_or_ge j T with g | g
  · exact g
  · have h1 : 10 ^ T ≤ 10 ^ j := Nat.pow_le_pow_right (by decide) g
    have h2 := Nat.le_mul_of_pos_left (10 ^ j) hn
    omega
theorem LSt.fin {ds : List Nat} {k j T : Nat} {out : List Nat} (h : LSt ds k j 0 out) (hj : ds.length ≤ j) (hjT : j ≤ T) (hT : 10 ^ (T - 1) ≤ nv ds * 2 ^ k) (hT0 : 0 < T) {dp : Int} {M : Nat} {E : Int} (hv : VN M E (ds.length - dp) = VC * nv ds) (hE : -1200 ≤ E) :
    j = T ∧ Dg out ∧ VN M (E + k) (out.length - (dp + ((T : Int) - ds.length))) = VC * nv out := by
  have e := h.eq
  rw [show ds.length - j = 0 by omega, List.drop_zero, Nat.zero_mul, Nat.zero_add] at e
  have hlt := nv_lt out h.dig
  rw [h.len] at hlt
  have hj2 : j = T := by
    rcases Nat.lt_or_ge j T with g | g
    · exfalso
      have : 10 ^ j ≤ 10 ^ (T - 1) := Nat.pow_le_pow_right (by decide) (by omega)
      omega
    · omega
  refine ⟨hj2, ⟨h.dig, fun _ => by rw [h.len, hj2, ← e]; exact hT⟩, ?_⟩
  rw [h.len, hj2, show (T : Int) - (dp + ((T : Int) - ds.length)) = ds.length - dp by omega, VN_half M E _ k hE, hv, ← e, Nat.mul_assoc]

/-! ### the cheats -/
/-- Is the beginning of b less than s? -/
def ltP : List Nat → List Nat → Bool
  | _, [] => false
  | [], _ :: _ => true
  | b :: bs, s :: ss => if b = s then ltP bs ss else decide (b < s)

theorem ltP_iff : ∀ (b s : List Nat), (∀ d ∈ b, d < 10) → (∀ d ∈ s, d < 10) → (s ≠ [] → nv s % 10 ≠ 0) → (ltP b s = true ↔ nv b * 10 ^ s.length < nv s * 10 ^ b.length)
  | b, [], _, _, _ => by cases b <;> simp [ltP, nv]
  | [], s :: ss, _, _, hl => by
    have h := hl (by simp)
    have : 0 < nv (s :: ss) := by omega
    simp only [ltP, true_iff, nv_nil, Nat.zero_mul, List.length_nil, Nat.pow_zero, Nat.mul_one]
    exact this
  | b :: bs, s :: ss, hb, hs, hl => by
    have hb1 := hb b (by simp)
    have hs1 := hs s (by simp)
    have hbl := nv_lt bs fun d hd => hb d (List.mem_cons_of_mem _ hd)
    have hsl := nv_lt ss fun d hd => hs d (List.mem_cons_of_mem _ hd)
    have ih := ltP_iff bs ss (fun d hd => hb d (List.mem_cons_of_mem _ hd)) (fun d hd => hs d (List.mem_cons_of_mem _ hd)) (fun hne => by
      have h := hl (by simp)
      rw [nv_cons] at h
      have hlen : 0 < ss.length := List.length_pos_iff.2 hne
      have := pow10_succ ss.length hlen
      rw [this, ← Nat.mul_assoc] at h
      omega)
    rw [nv_cons, nv_cons, List.length_cons, List.length_cons, Nat.pow_succ, Nat.pow_succ]
    generalize hB : 10 ^ bs.length = B at *
    generalize hS : 10 ^ ss.length = S at *
    generalize nv bs = x at *
    generalize nv ss = y at *
    have e1 : (b * B + x) * (S * 10) = (b * (B * S) + x * S) * 10 := by rw [Nat.add_mul, Nat.add_mul]; congr 1 <;> ac_rfl
    have e2 : (s * S + y) * (B * 10) = (s * (B * S) + y * B) * 10 := by rw [Nat.add_mul, Nat.add_mul]; congr 1 <;> ac_rfl
    rw [e1, e2]
    have hxs : x * S < B * S := Nat.mul_lt_mul_of_pos_right hbl (by omega)
    have hyb : y * B < B * S := by rw [Nat.mul_comm B]; exact Nat.mul_lt_mul_of_pos_right hsl (by omega)
    unfold ltP
    by_cases he : b = s
    · subst he
      rw [if_pos rfl, ih]
      omega
    · rw [if_neg he, decide_eq_true_iff]
      constructor
      · intro h
        have := Nat.mul_le_mul_right (B * S) (show b + 1 ≤ s from h)
        rw [Nat.add_mul, Nat.one_mul] at this
        omega
      · intro h
        rcases Nat.lt_or_ge b s with g | g
        · exact g
        · exfalso
          have := Nat.mul_le_mul_right (B * S) (show s + 1 ≤ b by omega)
          rw [Nat.add_mul, Nat.one_mul] at this
          omega

/-- The cheats' rows. -/
def chD (k : Nat) : Nat := (Go.Pinned.cheatRows.getD k (0, [])).1
def chS (k : Nat) : List UInt8 := (Go.Pinned.cheatRows.getD k (0, [])).2
def chN (k : Nat) : List Nat := (chS k).map fun c => c.toNat - 48
def chOk (k : Nat) : Bool := decide (nv (chN k) = 5 ^ k) && decide ((chN k).length + chD k = k + 1) && decide (0 < chD k) && decide (chD k ≤ 19) && decide (10 ^ ((chN k).length - 1) ≤ 5 ^ k) && (chS k).all fun c => decide (48 ≤ c.toNat) && decide (c.toNat < 58)
set_option maxRecDepth 100000 in
theorem ch_table : (List.range 60).all (fun k => chOk (k + 1)) = true := by decide +kernel

theorem ch_at (k : Nat) (h0 : 0 < k) (h1 : k ≤ 60) : nv (chN k) = 5 ^ k ∧ (chN k).length + chD k = k + 1 ∧ 0 < chD k ∧ chD k ≤ 19 ∧ 10 ^ ((chN k).length - 1) ≤ 5 ^ k ∧ (∀ c ∈ chS k, 48 ≤ c.toNat ∧ c.toNat < 58) := by
  have := List.all_eq_true.1 ch_table (k - 1) (List.mem_range.2 (by omega))
  rw [Nat.sub_add_cancel h0] at this
  simp only [chOk, Bool.and_eq_true, decide_eq_true_eq, List.all_eq_true] at this
  obtain ⟨⟨⟨⟨⟨a, b⟩, c⟩, d⟩, e⟩, f⟩ := this
  exact ⟨a, b, c, d, e, f⟩

/-- How many digits a shift to the left gives. -/
def lsT (ds : List Nat) (k : Nat) : Nat := if ltP ds (chN k) then ds.length + chD k - 1 else ds.length + chD k

theorem lsT_law {ds : List Nat} (h : Dg ds) (hne : ds ≠ []) (k : Nat) (h0 : 0 < k) (h1 : k ≤ 60) : 10 ^ (lsT ds k - 1) ≤ nv ds * 2 ^ k ∧ nv ds * 2 ^ k < 10 ^ lsT ds k := by
  obtain ⟨c1, c2, c3, c4, c5, c6⟩ := ch_at k h0 h1
  have hlen : 0 < ds.length := List.length_pos_iff.2 hne
  have hcd : ∀ d ∈ chN k, d < 10 := by
    intro d hd
    obtain ⟨c, hc, rfl⟩ := List.mem_map.1 hd
    have := c6 c hc
    omega
  have h5 : 5 ^ k % 5 = 0 := by
    obtain ⟨t, rfl⟩ : ∃ t, k = t + 1 := ⟨k - 1, by omega⟩
    rw [Nat.pow_succ]; omega
  have h52 : 5 ^ k % 2 = 1 := by
    rw [Nat.pow_mod]; simp
  have hl := ltP_iff ds (chN k) h.lt hcd (fun _ => by rw [c1]; omega)
  rw [c1] at hl
  have hlead := h.lead hne
  have hlt := nv_lt ds h.lt
  have hclt := nv_lt (chN k) hcd
  rw [c1] at hclt
  obtain ⟨C, hC⟩ : ∃ C, C = (chN k).length := ⟨_, rfl⟩
  obtain ⟨L, hL⟩ : ∃ L, L = ds.length := ⟨_, rfl⟩
  rw [← hC] at c2 c5 hl hclt
  rw [← hL] at hl hlead hlt hlen
  -- two to the k times five to the k
  have h10 : 2 ^ k * 5 ^ k = 10 ^ k := by rw [← Nat.mul_pow]
  have hp5 : 0 < 5 ^ k := Nat.pow_pos (by decide)
  have hp2 : 0 < 2 ^ k := Nat.two_pow_pos k
  have hC1 : 1 ≤ C := by
    rcases Nat.eq_zero_or_pos C with g | g
    · rw [g] at hclt; simp at hclt
    · exact g
  have hk : C + chD k = k + 1 := c2
  have low : ∀ t, nv ds * 10 ^ k < 10 ^ t * 5 ^ k → nv ds * 2 ^ k < 10 ^ t := fun t g => by
    rw [← h10, ← Nat.mul_assoc] at g
    exact Nat.lt_of_mul_lt_mul_right g
  have high : ∀ t, 10 ^ t * 5 ^ k ≤ nv ds * 10 ^ k → 10 ^ t ≤ nv ds * 2 ^ k := fun t g => by
    rw [← h10, ← Nat.mul_assoc] at g
    exact Nat.le_of_mul_le_mul_right g hp5
  unfold lsT
  rw [← hL]
  by_cases hlp : ltP ds (chN k) = true
  · rw [if_pos hlp]
    have g := hl.1 hlp
    constructor
    · refine high _ ?_
      -- 10^(L+δ-2) 5^k ≤ 10^(L-1) 10^k
      have a1 : 10 ^ (L + chD k - 1 - 1) * 5 ^ k ≤ 10 ^ (L + chD k - 1 - 1) * 10 ^ C := Nat.mul_le_mul_left _ (Nat.le_of_lt hclt)
      rw [← Nat.pow_add, show L + chD k - 1 - 1 + C = L - 1 + k by omega, Nat.pow_add] at a1
      exact Nat.le_trans a1 (Nat.mul_le_mul_right _ hlead)
    · refine low _ ?_
      have a1 := Nat.mul_lt_mul_of_pos_right g (show 0 < 10 ^ (k - C) from Nat.pow_pos (by decide))
      rw [Nat.mul_assoc, ← Nat.pow_add, show C + (k - C) = k by omega, Nat.mul_assoc, ← Nat.pow_add, show L + (k - C) = L + chD k - 1 by omega, Nat.mul_comm (5 ^ k)] at a1
      exact a1
  · have hlp' : ltP ds (chN k) = false := by simpa using hlp
    rw [if_neg hlp]
    have g : 5 ^ k * 10 ^ L ≤ nv ds * 10 ^ C := by
      rcases Nat.lt_or_ge (nv ds * 10 ^ C) (5 ^ k * 10 ^ L) with q | q
      · exact absurd (hl.2 q) hlp
      · exact q
    constructor
    · refine high _ ?_
      have a1 := Nat.mul_le_mul_right (10 ^ (k - C)) g
      rw [Nat.mul_assoc, ← Nat.pow_add, show L + (k - C) = L + chD k - 1 by omega, Nat.mul_assoc, ← Nat.pow_add, show C + (k - C) = k by omega, Nat.mul_comm (5 ^ k)] at a1
      exact a1
    · refine low _ ?_
      have a1 := Nat.mul_lt_mul_of_pos_right hlt (show 0 < 10 ^ k from Nat.pow_pos (by decide))
      refine Nat.lt_of_lt_of_le a1 ?_
      have a2 := Nat.mul_le_mul_left (10 ^ (L + chD k)) c5
      rw [← Nat.pow_add, show L + chD k + (C - 1) = L + k by omega, Nat.pow_add] at a2
      exact a2

end Go.Proofs.YthfjpofbaeeafaaDoor
