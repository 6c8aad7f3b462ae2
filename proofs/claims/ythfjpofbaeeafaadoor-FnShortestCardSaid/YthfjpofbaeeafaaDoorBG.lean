/-
  Great numbers in limbs of nine decimal digits: plain lemmas.
  spec.big: a great number in memory; times, power, small, less, apart.
-/
import Derived.Test.YthfjpofbaeeafaaDoorTabs
import Derived.LoopTactic
import Derived.Deep.LoopGhost
import Derived.Deep.DeepCutAuto
import Derived.OwnWalk
import Derived.Deep.AppendLies
import Derived.Deep.OwnRows
namespace Go.Proofs.YthfjpofbaeeafaaDoor
open Go.RowKit

def UN : Nat := 1000000000
theorem UN_pos : 0 < UN := by decide
/-- The limb at place i. -/
def limb (n i : Nat) : Nat := n / UN ^ i % UN
theorem limb_lt (n i : Nat) : limb n i < UN := Nat.mod_lt _ UN_pos

theorem usucc (i : Nat) : UN ^ (i + 1) = UN ^ i * UN := Nat.pow_succ UN i
theorem mod_succ (n i : Nat) : n % UN ^ (i + 1) = n % UN ^ i + limb n i * UN ^ i := by
  unfold limb
  have h1 := Nat.div_add_mod n (UN ^ i)
  have h2 := Nat.div_add_mod (n / UN ^ i) UN
  have hp : 0 < UN ^ i := Nat.pow_pos UN_pos
  have hm : n % UN ^ i < UN ^ i := Nat.mod_lt _ hp
  have hl : n / UN ^ i % UN < UN := Nat.mod_lt _ UN_pos
  have e : n = UN ^ (i + 1) * (n / UN ^ i / UN) + (n % UN ^ i + n / UN ^ i % UN * UN ^ i) := by
    rw [Nat.pow_succ, Nat.mul_assoc]
    have : UN ^ i * (UN * (n / UN ^ i / UN)) + n / UN ^ i % UN * UN ^ i = UN ^ i * (n / UN ^ i) := by
      rw [Nat.mul_comm (n / UN ^ i % UN), ← Nat.mul_add, h2]
    omega
  have hlt : n % UN ^ i + n / UN ^ i % UN * UN ^ i < UN ^ (i + 1) := by
    have := Nat.mul_le_mul_right (UN ^ i) (show n / UN ^ i % UN + 1 ≤ UN from hl)
    rw [Nat.add_mul, Nat.one_mul, Nat.mul_comm UN, ← usucc] at this
    omega
  have := Nat.mul_add_mod (UN ^ (i + 1)) (n / UN ^ i / UN) (n % UN ^ i + n / UN ^ i % UN * UN ^ i)
  rw [← e, Nat.mod_eq_of_lt hlt] at this
  exact this

/-- What is carried to place i. -/
def carry (n k p i : Nat) : Nat := (n % UN ^ i * k + p) / UN ^ i
theorem carry_zero (n k p : Nat) : carry n k p 0 = p := by simp [carry, Nat.mod_one]
theorem carry_le (n k p i : Nat) : carry n k p i ≤ k + p := by
  unfold carry
  have hp : 0 < UN ^ i := Nat.pow_pos UN_pos
  have hm := Nat.mod_lt n hp
  have h1 := Nat.mul_le_mul_right k (Nat.le_of_lt hm)
  refine (Nat.div_le_iff_le_mul_add_pred hp).2 ?_
  have h2 : p ≤ UN ^ i * p := Nat.le_mul_of_pos_left _ hp
  rw [Nat.mul_add]
  omega
theorem carry_add (n k p i : Nat) : carry n k p i + limb n i * k = (n % UN ^ (i + 1) * k + p) / UN ^ i := by
  unfold carry
  have hp : 0 < UN ^ i := Nat.pow_pos UN_pos
  rw [mod_succ, Nat.add_mul, show n % UN ^ i * k + limb n i * UN ^ i * k + p = (n % UN ^ i * k + p) + UN ^ i * (limb n i * k) by
    have : limb n i * UN ^ i * k = UN ^ i * (limb n i * k) := by ac_rfl
    omega]
  rw [Nat.add_mul_div_left _ _ hp]
theorem carry_succ (n k p i : Nat) : (carry n k p i + limb n i * k) / UN = carry n k p (i + 1) := by
  rw [carry_add, Nat.div_div_eq_div_mul, ← usucc]
  rfl
theorem carry_limb (n k p i : Nat) : (carry n k p i + limb n i * k) % UN = limb (n * k + p) i := by
  rw [carry_add]
  unfold limb
  have hp : 0 < UN ^ i := Nat.pow_pos UN_pos
  have h1 := Nat.div_add_mod n (UN ^ (i + 1))
  have e : n * k + p = (n % UN ^ (i + 1) * k + p) + UN ^ i * (UN * (n / UN ^ (i + 1) * k)) := by
    have h2 : n * k = UN ^ (i + 1) * (n / UN ^ (i + 1)) * k + n % UN ^ (i + 1) * k := by rw [← Nat.add_mul, h1]
    have h3 : UN ^ i * (UN * (n / UN ^ (i + 1) * k)) = UN ^ (i + 1) * (n / UN ^ (i + 1)) * k := by
      rw [Nat.pow_succ]; ac_rfl
    omega
  rw [e, Nat.add_mul_div_left _ _ hp, Nat.add_mul_mod_self_left]
theorem carry_end (n k p L : Nat) (h : n < UN ^ L) : carry n k p L = (n * k + p) / UN ^ L := by
  unfold carry
  rw [Nat.mod_eq_of_lt h]

theorem limbs_eq {n m L : Nat} (hn : n < UN ^ L) (hm : m < UN ^ L) (h : ∀ i, i < L → limb n i = limb m i) : n = m := by
  have key : ∀ j, j ≤ L → n % UN ^ j = m % UN ^ j := by
    intro j
    induction j with
    | zero => intro _; simp [Nat.mod_one]
    | succ j ih =>
      intro hj
      rw [mod_succ, mod_succ, ih (by omega), h j (by omega)]
  have := key L (Nat.le_refl _)
  rwa [Nat.mod_eq_of_lt hn, Nat.mod_eq_of_lt hm] at this

/-- The first place from above at which two numbers differ tells which is less. -/
theorem limb_cmp {n m L i : Nat} (hn : n < UN ^ L) (hm : m < UN ^ L) (hi : i < L) (h : ∀ j, i < j → j < L → limb n j = limb m j) (hne : limb n i ≠ limb m i) : (n < m ↔ limb n i < limb m i) := by
  have hq : n / UN ^ (i + 1) = m / UN ^ (i + 1) := by
    have key : ∀ d, i + 1 + d ≤ L → n / UN ^ (L - d) = m / UN ^ (L - d) := by
      intro d
      induction d with
      | zero => intro _; rw [Nat.sub_zero, Nat.div_eq_of_lt hn, Nat.div_eq_of_lt hm]
      | succ d ih =>
        intro hd
        have h1 := ih (by omega)
        have h2 := h (L - (d + 1)) (by omega) (by omega)
        unfold limb at h2
        have e : ∀ x : Nat, x / UN ^ (L - (d + 1)) = UN * (x / UN ^ (L - d)) + x / UN ^ (L - (d + 1)) % UN := fun x => by
          have := Nat.div_add_mod (x / UN ^ (L - (d + 1))) UN
          rw [Nat.div_div_eq_div_mul, ← usucc, show L - (d + 1) + 1 = L - d by omega] at this
          exact this.symm
        rw [e n, e m, h1, h2]
    have := key (L - (i + 1)) (by omega)
    rwa [show L - (L - (i + 1)) = i + 1 by omega] at this
  have hp : 0 < UN ^ i := Nat.pow_pos UN_pos
  have e : ∀ x : Nat, x = UN ^ (i + 1) * (x / UN ^ (i + 1)) + (x % UN ^ i + limb x i * UN ^ i) := fun x => by
    rw [← mod_succ]; exact (Nat.div_add_mod x _).symm
  have en := e n
  have em := e m
  rw [hq] at en
  have mn := Nat.mod_lt n hp
  have mm := Nat.mod_lt m hp
  clear e h hq hn hm
  generalize n % UN ^ i = x at *
  generalize m % UN ^ i = y at *
  generalize UN ^ (i + 1) * (m / UN ^ (i + 1)) = Q at *
  constructor
  · intro hlt
    rcases Nat.lt_or_ge (limb n i) (limb m i) with g | g
    · exact g
    · exfalso
      have := Nat.mul_le_mul_right (UN ^ i) (show limb m i + 1 ≤ limb n i by omega)
      rw [Nat.add_mul, Nat.one_mul] at this
      omega
  · intro hlt
    have := Nat.mul_le_mul_right (UN ^ i) (show limb n i + 1 ≤ limb m i from hlt)
    rw [Nat.add_mul, Nat.one_mul] at this
    omega

/-! ### the difference -/
/-- What is borrowed at place i. -/
def borrow (n m i : Nat) : Nat := if n % UN ^ i < m % UN ^ i then 1 else 0
theorem borrow_zero (n m : Nat) : borrow n m 0 = 0 := by simp [borrow, Nat.mod_one]
theorem borrow_le (n m i : Nat) : borrow n m i ≤ 1 := by unfold borrow; split <;> omega

theorem sub_limb (n m i : Nat) (h : m ≤ n) : limb (n - m) i = if limb n i < borrow n m i + limb m i then limb n i + UN - (borrow n m i + limb m i) else limb n i - (borrow n m i + limb m i) := by
  have hp : 0 < UN ^ i := Nat.pow_pos UN_pos
  have mn := Nat.mod_lt n hp
  have mm := Nat.mod_lt m hp
  have ln := limb_lt n i
  have lm := limb_lt m i
  have e : ∀ x : Nat, x = UN ^ (i + 1) * (x / UN ^ (i + 1)) + (x % UN ^ i + limb x i * UN ^ i) := fun x => by
    rw [← mod_succ]; exact (Nat.div_add_mod x _).symm
  -- n - m, from place i on
  have key : ∀ (Q R r : Nat), n = m + ((Q * UN + R) * UN ^ i + r) → r < UN ^ i → R < UN → limb (n - m) i = R := by
    intro Q R r h1 h2 h3
    have : n - m = (Q * UN + R) * UN ^ i + r := by omega
    unfold limb
    rw [this, Nat.add_comm, Nat.add_mul_div_right _ _ hp, Nat.div_eq_of_lt h2, Nat.zero_add, Nat.add_comm, Nat.add_mul_mod_self_right, Nat.mod_eq_of_lt h3]
  have en := e n
  have em := e m
  obtain ⟨a, ha⟩ : ∃ a, a = n / UN ^ (i + 1) := ⟨_, rfl⟩
  obtain ⟨b, hb⟩ : ∃ b, b = m / UN ^ (i + 1) := ⟨_, rfl⟩
  rw [← ha, usucc] at en
  rw [← hb, usucc] at em
  unfold borrow
  clear e ha hb
  generalize limb (n - m) i = Z at *
  generalize limb n i = c at *
  generalize limb m i = d at *
  generalize n % UN ^ i = x at *
  generalize m % UN ^ i = y at *
  generalize UN ^ i = P at *
  generalize UN = U at *
  -- everything in units of P
  have dist : ∀ u v : Nat, (u * U + v) * P = P * U * u + v * P := fun u v => by
    rw [Nat.add_mul]; congr 1; ac_rfl
  by_cases hb1 : x < y
  · rw [if_pos hb1]
    by_cases hc1 : c < 1 + d
    · rw [if_pos hc1]
      have hab : b < a := by
        rcases Nat.lt_or_ge b a with g | g
        · exact g
        · exfalso
          have h1 := Nat.mul_le_mul_left (P * U) g
          have h2 := Nat.mul_le_mul_right P (show c ≤ d by omega)
          omega
      refine key (a - b - 1) (c + U - (1 + d)) (x + P - y) ?_ (by omega) (by omega)
      rw [dist]
      have h1 : P * U * a = P * U * b + P * U * (a - b - 1) + P * U := by
        rw [← Nat.mul_add, ← Nat.mul_succ]; congr 1; omega
      have h2 : (c + U - (1 + d)) * P + d * P + P = c * P + P * U := by
        rw [← Nat.add_mul, ← Nat.succ_mul, Nat.mul_comm P U, ← Nat.add_mul]; congr 1; omega
      omega
    · rw [if_neg hc1]
      have hab : b ≤ a := by
        rcases Nat.lt_or_ge a b with g | g
        · exfalso
          have h1 := Nat.mul_le_mul_left (P * U) (show a + 1 ≤ b from g)
          rw [Nat.mul_add, Nat.mul_one] at h1
          have h2 := Nat.mul_le_mul_right P (show c + 1 ≤ U from ln)
          rw [Nat.add_mul, Nat.one_mul, Nat.mul_comm U] at h2
          omega
        · exact g
      refine key (a - b) (c - (1 + d)) (x + P - y) ?_ (by omega) (by omega)
      rw [dist]
      have h1 : P * U * a = P * U * b + P * U * (a - b) := by
        rw [← Nat.mul_add]; congr 1; omega
      have h2 : (c - (1 + d)) * P + d * P + P = c * P := by
        rw [← Nat.add_mul, ← Nat.succ_mul]; congr 1; omega
      omega
  · rw [if_neg hb1, Nat.zero_add]
    by_cases hc1 : c < d
    · rw [if_pos hc1]
      have hab : b < a := by
        rcases Nat.lt_or_ge b a with g | g
        · exact g
        · exfalso
          have h1 := Nat.mul_le_mul_left (P * U) g
          have h2 := Nat.mul_le_mul_right P (show c + 1 ≤ d by omega)
          rw [Nat.add_mul, Nat.one_mul] at h2
          omega
      refine key (a - b - 1) (c + U - d) (x - y) ?_ (by omega) (by omega)
      rw [dist]
      have h1 : P * U * a = P * U * b + P * U * (a - b - 1) + P * U := by
        rw [← Nat.mul_add, ← Nat.mul_succ]; congr 1; omega
      have h2 : (c + U - d) * P + d * P = c * P + P * U := by
        rw [← Nat.add_mul, Nat.mul_comm P U, ← Nat.add_mul]; congr 1; omega
      omega
    · rw [if_neg hc1]
      have hab : b ≤ a := by
        rcases Nat.lt_or_ge a b with g | g
        · exfalso
          have h1 := Nat.mul_le_mul_left (P * U) (show a + 1 ≤ b from g)
          rw [Nat.mul_add, Nat.mul_one] at h1
          have h2 := Nat.mul_le_mul_right P (show c + 1 ≤ U from ln)
          rw [Nat.add_mul, Nat.one_mul, Nat.mul_comm U] at h2
          omega
        · exact g
      refine key (a - b) (c - d) (x - y) ?_ (by omega) (by omega)
      rw [dist]
      have h1 : P * U * a = P * U * b + P * U * (a - b) := by
        rw [← Nat.mul_add]; congr 1; omega
      have h2 : (c - d) * P + d * P = c * P := by
        rw [← Nat.add_mul]; congr 1; omega
      omega

theorem borrow_succ (n m i : Nat) : borrow n m (i + 1) = if limb n i < borrow n m i + limb m i then 1 else 0 := by
  have hp : 0 < UN ^ i := Nat.pow_pos UN_pos
  have mn := Nat.mod_lt n hp
  have mm := Nat.mod_lt m hp
  unfold borrow
  rw [mod_succ, mod_succ]
  generalize n % UN ^ i = x at *
  generalize m % UN ^ i = y at *
  generalize limb n i = c
  generalize limb m i = d
  generalize UN ^ i = P at *
  rcases Nat.lt_trichotomy c d with h | h | h
  · have h2 := Nat.mul_le_mul_right P (show c + 1 ≤ d from h)
    rw [Nat.add_mul, Nat.one_mul] at h2
    rw [if_pos (by omega), if_pos (by split <;> omega)]
  · subst h
    by_cases hb : x < y
    · rw [if_pos hb, if_pos (by omega), if_pos (by omega)]
    · rw [if_neg hb, if_neg (by omega), if_neg (by omega)]
  · have h2 := Nat.mul_le_mul_right P (show d + 1 ≤ c from h)
    rw [Nat.add_mul, Nat.one_mul] at h2
    rw [if_neg (by omega), if_neg (by split <;> omega)]


/-- A limb as a cell. -/
def lv (n i : Nat) : Value := .int .u64 (limb n i : Int)
/-- The slice v holds the number n: its limbs, the lowest one first, none of them 0 at the end. -/
structure Bg (w : World) (v : Value) (n L : Nat) (A : Option Addr) (c : Nat) : Prop where
  val : v = .slice A L c
  lt : n < UN ^ L
  lead : 0 < L → UN ^ (L - 1) ≤ n
  max : L ≤ 1100
  mem : 0 < L → ∃ g, A = some ⟨g, 0, none⟩ ∧ g < w.heap.size ∧ ∀ i, i < L → w.cell? ⟨g, i, none⟩ = some (lv n i)
def BgIs (w : World) (v : Value) (n : Nat) : Prop := ∃ L A c, Bg w v n L A c

theorem Bg.still {w w' : World} {v : Value} {n L : Nat} {A : Option Addr} {c : Nat} (h : Bg w v n L A c) (hs : Still w w') : Bg w' v n L A c :=
  ⟨h.val, h.lt, h.lead, h.max, fun hL => by
    obtain ⟨g, h1, h2, h3⟩ := h.mem hL
    exact ⟨g, h1, Nat.lt_of_lt_of_le h2 hs.size, fun i hi => hs.cell (h3 i hi)⟩⟩
theorem BgIs.still {w w' : World} {v : Value} {n : Nat} (h : BgIs w v n) (hs : Still w w') : BgIs w' v n := by
  obtain ⟨L, A, c, h⟩ := h
  exact ⟨L, A, c, h.still hs⟩
theorem Bg.nil (w : World) : Bg w (.slice none 0 0) 0 0 none 0 := ⟨rfl, by decide, fun h => absurd h (by omega), by omega, fun h => absurd h (by omega)⟩
theorem BgIs.nil (w : World) : BgIs w (.slice none 0 0) 0 := ⟨0, none, 0, Bg.nil w⟩

/-- The limbs of n from place 0 on. -/
def lims (n L : Nat) : List Value := (List.range L).map (lv n)
theorem lims_length (n L : Nat) : (lims n L).length = L := by simp [lims]
theorem lims_succ (n L : Nat) : lims n (L + 1) = lims n L ++ [lv n L] := by simp [lims, List.range_succ]

/-- So many limbs a number has at most. -/
def TOP : Nat := 1000
theorem TOP_eq : TOP = 1000 := rfl
theorem info22 : (Tryd.prog.info? 22).map (fun i => (i.zero, i.size, i.bytes)) = some (some (.int .u64 0), 1, 8) := by kernel_rfl

theorem bg_of_own {w : World} {v : Value} {n L base : Nat} (h : w.ownsRow base 22 1 v L (lims n L)) (hlt : n < UN ^ L) (hlead : 0 < L → UN ^ (L - 1) ≤ n) (hL : L ≤ 1100) : BgIs w v n := by
  rcases Nat.eq_zero_or_pos L with h0 | h0
  · subst h0
    rcases h.2 with ⟨rfl, _⟩ | ⟨g, cap, cur, rfl, _⟩
    · exact ⟨0, none, 0, rfl, hlt, hlead, hL, fun h => absurd h (by omega)⟩
    · exact ⟨0, _, cap, rfl, hlt, hlead, hL, fun h => absurd h (by omega)⟩
  · obtain ⟨g, cap, hv, hb, hl⟩ := h.form h0
    subst hv
    refine ⟨L, _, cap, rfl, hlt, hlead, hL, fun _ => ⟨g, rfl, hl, fun i hi => ?_⟩⟩
    have hx : (lims n L)[i]? = some (lv n i) := by unfold lims; simp [hi]
    have := h.cells (g := g) rfl i (lv n i) hx
    rwa [Addr.add_lit, Nat.zero_add] at this

def BgRes (W : World) (n : Nat) (e : Ending) (w' : World) : Prop := ∃ A L c, e = .returned (.slice A L c) ∧ BgIs w' (.slice A L c) n ∧ Still W w'

theorem own_slice {w : World} {v : Value} {base n : Nat} {xs : List Value} (h : w.ownsRow base 22 1 v n xs) : ∃ A c, v = .slice A n c := by
  rcases h.2 with ⟨rfl, he⟩ | ⟨g, cap, cur, rfl, _⟩
  · exact ⟨none, 0, by rw [he]⟩
  · exact ⟨_, cap, rfl⟩

theorem own_base {w : World} {v : Value} {base n : Nat} {xs : List Value} (h : w.ownsRow base 22 1 v n xs) : ∀ k, v.ownBlock = some k → base ≤ k := by
  intro k hk
  rcases h.2 with ⟨rfl, _⟩ | ⟨g, cap, cur, rfl, hb, _⟩
  · simp [Value.ownBlock] at hk
  · simp [Value.ownBlock] at hk
    omega

theorem news_one (w : World) (x : Value) (t : TypeId) : ∀ (j : Nat) (u : Value), [x][j]? = some u → (w.alloc (.cells #[x] t)).cell? ((⟨w.heap.size, 0, none⟩ : Addr).add j) = some u := by
  intro j u hj
  match j, hj with
  | 0, hj =>
    simp at hj
    subst hj
    rw [Addr.add_lit, Nat.zero_add]
    exact (World.cell?_alloc_new w _ _ 0).trans (by simp)
  | j + 1, hj => simp at hj

set_option maxRecDepth 100000 in
set_option maxHeartbeats 4000000 in
theorem times_any (W : World) (v : Value) (n k p : Nat) (h : BgIs W v n) (hk : k ≤ 10) (hk0 : 1 ≤ k ∨ n = 0) (hp : p < 1152921504606846976) (hT : n * k + p < UN ^ TOP) :
    Calls Tryd.prog 31 #[v, .int .u64 k, .int .u64 p] W (BgRes W (n * k + p)) := by
  obtain ⟨L, A, c, hb⟩ := h
  obtain ⟨i0, hi0, hz0, hz1, hz2⟩ := info_parts info22
  have hv := hb.val
  subst hv
  have HB := Lib.hid hb
  have hL := hb.max
  have hLI : (L : Int) ≤ 1100 := by omega
  obtain ⟨T, hTT⟩ : ∃ T, T = n * k + p := ⟨_, rfl⟩
  rw [← hTT] at hT ⊢
  have HTT := Lib.hid hTT
  have HT := Lib.hid hT
  clear hb hTT hT
  go_enter Tryd.func31, Tryd.ntmps31
  go_wp2_with fail
  go_loopg [2, 7, 12] L (fun q pv ov iv wr => ∃ (i P : Nat), pv = .int .u64 P ∧ iv = .int .i64 i ∧ i + q = L ∧ P = carry n k p i ∧ wr.ownsRow W.heap.size 22 1 ov i (lims T i) ∧ Below W.heap.size W wr)
  case atStart => exact ⟨0, p, rfl, rfl, by omega, (carry_zero n k p).symm, ⟨rfl, .inl ⟨rfl, rfl⟩⟩, Below.refl _ _⟩
  case round =>
    obtain ⟨i, P, rfl, rfl, hiq, hP, hown, hbw⟩ := hrel
    obtain ⟨oA, oc, rfl⟩ := own_slice hown
    have hPle : P ≤ 10 + p := by rw [hP]; exact Nat.le_trans (carry_le n k p i) (by omega)
    by_cases hlt : i < L
    · have hltI : (i : Int) < L := by omega
      obtain ⟨g, rfl, hg1, hg2⟩ := HB.out.mem (by omega)
      have hc : wr.cell? ⟨g, i, none⟩ = some (lv n i) := (hbw.cell (p := ⟨g, i, none⟩) hg1).trans (hg2 i hlt)
      have hl9 := limb_lt n i
      obtain ⟨D, hD⟩ : ∃ D, D = limb n i := ⟨_, rfl⟩
      unfold lv at hc
      rw [← hD] at hc hl9
      have hD9 : D < 1000000000 := hl9
      obtain ⟨DK, hDK⟩ : ∃ DK, DK = D * k := ⟨_, rfl⟩
      have hDKb : DK ≤ 10000000000 := by
        rw [hDK]
        exact Nat.le_trans (Nat.mul_le_mul (show D ≤ 1000000000 by omega) hk) (by decide)
      have hmul : (D : Int) * (k : Int) = (DK : Int) := by rw [hDK]; simp
      have hmulw : IntKind.u64.wrap ((D : Int) * (k : Int)) = (DK : Int) := by rw [hmul, IntKind.wrap_u64]; omega
      obtain ⟨Q, hQ⟩ : ∃ Q, Q = P + DK := ⟨_, rfl⟩
      have hQI : (P : Int) + (DK : Int) = (Q : Int) := by omega
      obtain ⟨R, hR⟩ : ∃ R, R = limb T i := ⟨_, rfl⟩
      have hrem : (Q : Int) % 1000000000 = (R : Int) := by
        rw [hR, HTT.out, ← carry_limb, ← hP, ← hD, ← hDK, ← hQ]
        simp [UN]
      obtain ⟨P2, hP2⟩ : ∃ P2, P2 = carry n k p (i + 1) := ⟨_, rfl⟩
      have hdiv : (Q : Int) / 1000000000 = (P2 : Int) := by
        rw [hP2, ← carry_succ, ← hP, ← hD, ← hDK, ← hQ]
        simp [UN]
      have hQb : Q < 18446744073709551616 := by omega
      have HP2 := Lib.hid hP2
      have HR := Lib.hid hR
      have hg3 : g < wr.heap.size := Nat.lt_of_lt_of_le hg1 hbw.size
      clear hP hD hDK hmul hQ hR hP2
      go_wp2_with (at_builtin; refine wpList_append_own _ rfl _ _ 64 rfl W.heap.size 22 i0 (.int .u64 0) 1 8 Tryd.underlying64 hi0 hz0 hz1 hz2 rfl (by decide) _ _ _ rfl (hown.alloc _) ⟨wr.heap.size, 0, none⟩ 1 1 [.int .u64 (R : Int)] rfl rfl (news_one _ _ _) (by simp [Value.oneCell']) (by unfold maxLen; omega) (by omega) (by simp; have := hbw.size; omega) ?_)
      intro v' w1 hown1 hgrow1 _
      have hbw1 : Below W.heap.size W w1 := (hbw.alloc hbw.size _).grown hgrow1 (by simp; have := hbw.size; omega) (own_base hown)
      have hlims : lims T i ++ [.int .u64 (R : Int)] = lims T (i + 1) := by rw [lims_succ, HR.out]; rfl
      rw [hlims] at hown1
      obtain ⟨A1, c1, hv1⟩ := own_slice hown1
      subst hv1
      have HO := Lib.hid hown1
      have HBW := Lib.hid hbw1
      clear hown1 hgrow1 hbw1 hown hlims hbw
      go_wp2_with fail
      go_roundg (gk - 1)
      case measure => omega
      case rel => exact ⟨i + 1, P2, rfl, by go_num, by omega, HP2.out, HO.out, HBW.out⟩
    · obtain rfl : L = i := by omega
      have hP0 : P = T / UN ^ L := by rw [hP, carry_end _ _ _ _ HB.out.lt, HTT.out]
      have hlow : 0 < L → UN ^ (L - 1) ≤ T := fun h => by
        have h1 := HB.out.lead h
        rw [HTT.out]
        rcases hk0 with h2 | h2
        · exact Nat.le_trans h1 (Nat.le_trans (Nat.le_mul_of_pos_right _ h2) (Nat.le_add_right _ _))
        · rw [h2] at h1
          have : 0 < UN ^ (L - 1) := Nat.pow_pos UN_pos
          omega
      have HO := Lib.hid hown
      have HBW := Lib.hid hbw
      have HP0 := Lib.hid hP0
      have HLOW := Lib.hid hlow
      clear hown hbw hP hP0 hlow
      go_wp2_with fail
      go_loopg [2, 7] (1001 - L) (fun q pv ov wr => ∃ (i P : Nat), pv = .int .u64 P ∧ L ≤ i ∧ i ≤ 1000 ∧ 1001 ≤ i + q ∧ P ≤ 10 + p ∧ P = T / UN ^ i ∧ (L < i → UN ^ (i - 1) ≤ T) ∧ wr.ownsRow W.heap.size 22 1 ov i (lims T i) ∧ Below W.heap.size W wr)
      case atStart =>
        have hL1000 : L ≤ 1000 := by
          have hTP := TOP_eq
          rcases Nat.lt_or_ge 1000 L with h | h
          · exfalso
            have h1 := HLOW.out (by omega)
            have h2 := HT.out
            have : UN ^ TOP ≤ UN ^ (L - 1) := Nat.pow_le_pow_right UN_pos (by omega)
            omega
          · exact h
        exact ⟨L, P, rfl, Nat.le_refl _, hL1000, by omega, hPle, HP0.out, fun h => by omega, HO.out, HBW.out⟩
      case round =>
        obtain ⟨i, P, rfl, hLi, hi1000, hiq, hPle, hP, hlead, hown, hbw⟩ := hrel
        obtain ⟨oA, oc, rfl⟩ := own_slice hown
        have HLEAD := Lib.hid hlead
        clear hlead
        rcases Nat.eq_zero_or_pos P with h0 | h0
        · subst h0
          have hTlt : T < UN ^ i := by
            rcases Nat.lt_or_ge T (UN ^ i) with h | h
            · exact h
            · have h1 := (Nat.le_div_iff_mul_le (Nat.pow_pos UN_pos)).2 (show 1 * UN ^ i ≤ T by omega)
              omega
          have hfin : BgIs wr (.slice oA i oc) T := bg_of_own hown hTlt (fun hi0 => by
            rcases Nat.lt_or_ge L i with h | h
            · exact HLEAD.out h
            · obtain rfl : L = i := by omega
              exact HLOW.out hi0) (by omega)
          have hst : Still W wr := Still.below hbw
          have HF := Lib.hid hfin
          have HS := Lib.hid hst
          clear hfin hst hown hbw hP hTlt
          go_wp2_with fail
          go_ret
          exact ⟨oA, i, oc, rfl, HF.out, HS.out⟩
        · have hTge : UN ^ i ≤ T := by
            rcases Nat.lt_or_ge T (UN ^ i) with h | h
            · rw [Nat.div_eq_of_lt h] at hP; omega
            · exact h
          have hi1 : i < 1000 := by
            have hTP := TOP_eq
            rcases Nat.lt_or_ge i 1000 with h | h
            · exact h
            · exfalso
              have h2 := HT.out
              have : UN ^ TOP ≤ UN ^ i := Nat.pow_le_pow_right UN_pos (by omega)
              omega
          have h0I : (0 : Int) < P := by omega
          obtain ⟨R, hR⟩ : ∃ R, R = limb T i := ⟨_, rfl⟩
          have hrem : (P : Int) % 1000000000 = (R : Int) := by
            rw [hR, hP]
            simp [UN, limb]
          obtain ⟨P2, hP2⟩ : ∃ P2, P2 = T / UN ^ (i + 1) := ⟨_, rfl⟩
          have hdiv : (P : Int) / 1000000000 = (P2 : Int) := by
            rw [hP2, usucc, ← Nat.div_div_eq_div_mul, ← hP]
            simp [UN]
          have hP2le : P2 ≤ 10 + p := by omega
          have HP2 := Lib.hid hP2
          have HR := Lib.hid hR
          have HTGE := Lib.hid hTge
          clear hP hR hP2 hTge
          go_wp2_with (at_builtin; refine wpList_append_own _ rfl _ _ 64 rfl W.heap.size 22 i0 (.int .u64 0) 1 8 Tryd.underlying64 hi0 hz0 hz1 hz2 rfl (by decide) _ _ _ rfl (hown.alloc _) ⟨wr.heap.size, 0, none⟩ 1 1 [.int .u64 (R : Int)] rfl rfl (news_one _ _ _) (by simp [Value.oneCell']) (by unfold maxLen; omega) (by omega) (by simp; have := hbw.size; omega) ?_)
          intro v' w1 hown1 hgrow1 _
          have hbw1 : Below W.heap.size W w1 := (hbw.alloc hbw.size _).grown hgrow1 (by simp; have := hbw.size; omega) (own_base hown)
          have hlims : lims T i ++ [.int .u64 (R : Int)] = lims T (i + 1) := by rw [lims_succ, HR.out]; rfl
          rw [hlims] at hown1
          obtain ⟨A1, c1, hv1⟩ := own_slice hown1
          subst hv1
          have HO1 := Lib.hid hown1
          have HBW1 := Lib.hid hbw1
          clear hown1 hgrow1 hbw1 hown hlims hbw
          go_wp2_with fail
          go_roundg (gk - 1)
          case measure => omega
          case rel => exact ⟨i + 1, P2, rfl, by omega, by omega, by omega, hP2le, HP2.out, fun _ => (by rw [Nat.add_sub_cancel]; exact HTGE.out), HO1.out, HBW1.out⟩

theorem small_bg (W : World) (n : Nat) (hn : n < 1152921504606846976) : Calls Tryd.prog 39 #[.int .u64 n] W (BgRes W n) := by
  have hT : 0 * 0 + n < UN ^ TOP := by
    have h1 : UN ^ 3 ≤ UN ^ TOP := Nat.pow_le_pow_right UN_pos (by decide)
    have h2 : UN ^ 3 = 1000000000000000000000000000 := by decide
    omega
  have hc := fun w => times_any w (.slice none 0 0) 0 0 n (BgIs.nil w) (by omega) (Or.inr rfl) hn hT
  rw [show 0 * 0 + n = n by omega] at hc
  have HC := Lib.hid hc
  clear hc hT
  go_enter Tryd.func39, Tryd.ntmps39
  go_wp2_with fail
  refine (HC.out _).mono ?_
  rintro e w' ⟨A, L, c, rfl, hb, hs⟩
  have HB := Lib.hid hb
  have HS := Lib.hid hs
  clear hb hs
  go_wp2_with fail
  go_ret
  exact ⟨A, L, c, rfl, HB.out, HS.out⟩

theorem imax0 (k k' : IntKind) (x y : Int) : Builtin.max2 (.int k x) (.int k' y) = pure (.int k (if x < y then y else x)) := by simp only [Builtin.max2, gt_iff_lt]
theorem imax02 (ats : Array TypeId) (ty : TypeId) (a b : Value) : Builtin.max_ ats ty #[a, b] = (Builtin.max2 a b >>= fun s => pure s) := by simp only [Builtin.max_, List.foldlM_cons, List.foldlM_nil]
attribute [local go_sem] imax0 imax02

set_option maxRecDepth 100000 in
set_option maxHeartbeats 1000000 in
theorem power_any (W : World) (v : Value) (n k : Nat) (m : Int) (h : BgIs W v n) (hk : k ≤ 10) (hk0 : 1 ≤ k) (hm : m < 100000) (hm0 : -100000 < m) (hT : n * k ^ m.toNat < UN ^ TOP) :
    Calls Tryd.prog 40 #[v, .int .u64 k, .int .i64 m] W (BgRes W (n * k ^ m.toNat)) := by
  obtain ⟨L, A, c, hb⟩ := h
  have hv := hb.val
  subst hv
  obtain ⟨N, hN⟩ : ∃ N, N = m.toNat := ⟨_, rfl⟩
  rw [← hN] at hT ⊢
  have hmx : (if (0 : Int) < m then m else 0) = (N : Int) := by split <;> omega
  have HB := Lib.hid (show BgIs W (.slice A L c) n from ⟨L, A, c, hb⟩)
  have HT := Lib.hid hT
  have hNb : N < 100000 := by omega
  clear hb hT hN
  go_enter Tryd.func40, Tryd.ntmps40
  go_wp2_with fail
  go_loopg [0, 9] N (fun q sv iv wr => ∃ (A : Option Addr) (L c j : Nat), sv = .slice A L c ∧ iv = .int .i64 j ∧ j + q = N ∧ BgIs wr (.slice A L c) (n * k ^ j) ∧ Still W wr)
  case atStart => exact ⟨A, L, c, 0, rfl, rfl, by omega, by rw [Nat.pow_zero, Nat.mul_one]; exact HB.out, Still.refl _⟩
  case round =>
    obtain ⟨A1, L1, c1, j, rfl, rfl, hjq, hb1, hs1⟩ := hrel
    have HB1 := Lib.hid hb1
    have HS1 := Lib.hid hs1
    clear hb1 hs1
    by_cases hlt : j < N
    · have hltI : (j : Int) < N := by omega
      have hle : n * k ^ j * k + 0 < UN ^ TOP := by
        refine Nat.lt_of_le_of_lt ?_ HT.out
        rw [Nat.add_zero, Nat.mul_assoc, ← Nat.pow_succ]
        exact Nat.mul_le_mul_left _ (Nat.pow_le_pow_right hk0 (by omega))
      have hc := times_any wr (.slice A1 L1 c1) (n * k ^ j) k 0 HB1.out hk (Or.inl hk0) (by decide) hle
      have HC := Lib.hid hc
      clear hc hle
      go_wp2_with fail
      refine HC.out.mono ?_
      rintro e w' ⟨A2, L2, c2, rfl, hb2, hs2⟩
      have HB2 := Lib.hid hb2
      have HS2 := Lib.hid hs2
      clear hb2 hs2
      go_wp2_with fail
      go_roundg (gk - 1)
      case measure => omega
      case rel => exact ⟨A2, L2, c2, j + 1, rfl, by go_num, by omega, (by have := HB2.out; rwa [Nat.add_zero, Nat.mul_assoc, ← Nat.pow_succ] at this), HS1.out.trans HS2.out⟩
    · obtain rfl : j = N := by omega
      go_wp2_with fail
      go_ret
      exact ⟨A1, L1, c1, rfl, HB1.out, HS1.out⟩

def LessRes (W : World) (b : Bool) (e : Ending) (w' : World) : Prop := e = .returned (.bool b) ∧ ∃ k, w' = W.drewN k

theorem len_less {w1 w2 : World} {v1 v2 : Value} {n m L1 L2 c1 c2 : Nat} {A1 A2 : Option Addr} (h1 : Bg w1 v1 n L1 A1 c1) (h2 : Bg w2 v2 m L2 A2 c2) (h : L1 < L2) : n < m := by
  have a1 := h1.lt
  have a2 := h2.lead (by omega)
  have : UN ^ L1 ≤ UN ^ (L2 - 1) := Nat.pow_le_pow_right UN_pos (by omega)
  omega

set_option maxRecDepth 100000 in
set_option maxHeartbeats 1000000 in
theorem less_any (W : World) (v1 v2 : Value) (n m : Nat) (h1 : BgIs W v1 n) (h2 : BgIs W v2 m) :
    Calls Tryd.prog 29 #[v1, v2] W (LessRes W (decide (n < m))) := by
  obtain ⟨L1, A1, c1, b1⟩ := h1
  obtain ⟨L2, A2, c2, b2⟩ := h2
  have e1 := b1.val
  have e2 := b2.val
  subst e1
  subst e2
  have hL1 := b1.max
  have hL2 := b2.max
  have HB1 := Lib.hid b1
  have HB2 := Lib.hid b2
  obtain ⟨R, hR⟩ : ∃ R, R = decide (n < m) := ⟨_, rfl⟩
  rw [← hR]
  have HR := Lib.hid hR
  clear b1 b2 hR
  by_cases hne : L1 = L2
  · subst hne
    have hq : ((L1 : Int) != (L1 : Int)) = false := bne_self_eq_false _
    go_enter Tryd.func29, Tryd.ntmps29
    go_wp2_with fail
    go_loopg [5] L1 (fun q iv wr => ∃ (r : Int) (j k : Nat), iv = .int .i64 r ∧ r + 1 = j ∧ j ≤ q ∧ j ≤ L1 ∧ (∀ i, j ≤ i → i < L1 → limb n i = limb m i) ∧ wr = W.drewN k)
    case atStart => exact ⟨_, L1, 0, rfl, by omega, Nat.le_refl _, Nat.le_refl _, fun i h3 h4 => by omega, rfl⟩
    case round =>
      obtain ⟨r, j, k, rfl, hrj, hjq, hjL, heq, rfl⟩ := hrel
      have HEQ := Lib.hid heq
      clear heq
      rcases Nat.eq_zero_or_pos j with h0 | h0
      · subst h0
        have hneg : decide ((0 : Int) ≤ r) = false := decide_eq_false (by omega)
        have hfin : R = false := by
          rw [HR.out]
          have := limbs_eq HB1.out.lt HB2.out.lt (fun i hi => HEQ.out i (Nat.zero_le _) hi)
          exact decide_eq_false (by omega)
        have HF := Lib.hid hfin
        clear hfin hrj
        go_wp2_with fail
        go_ret
        exact ⟨by rw [HF.out]; rfl, k, rfl⟩
      · obtain ⟨t, rfl⟩ : ∃ t, j = t + 1 := ⟨j - 1, by omega⟩
        obtain rfl : r = (t : Int) := by omega
        have htL : t < L1 := by omega
        have htLI : (t : Int) < L1 := by omega
        obtain ⟨g1, rfl, _, hg1⟩ := HB1.out.mem (by omega)
        obtain ⟨g2, rfl, _, hg2⟩ := HB2.out.mem (by omega)
        have q1 := hg1 t htL
        have q2 := hg2 t htL
        unfold lv at q1 q2
        obtain ⟨x, hx⟩ : ∃ x, x = limb n t := ⟨_, rfl⟩
        obtain ⟨y, hy⟩ : ∃ y, y = limb m t := ⟨_, rfl⟩
        rw [← hx] at q1
        rw [← hy] at q2
        have HX := Lib.hid hx
        have HY := Lib.hid hy
        clear hx hy hg1 hg2 hrj
        by_cases hxy : x = y
        · have hbn : ((x : Int) != (y : Int)) = false := by rw [hxy]; exact bne_self_eq_false _
          have HXY := Lib.hid hxy
          clear hxy
          go_wp2_with fail
          go_quiet (fail)
          go_wp2_with fail
          go_roundg (gk - 1)
          case measure => omega
          case rel =>
            refine ⟨(t : Int) - 1, t, _, rfl, by omega, by omega, by omega, fun i h3 h4 => ?_, rfl⟩
            by_cases e : i = t
            · rw [e, ← HX.out, ← HY.out, HXY.out]
            · exact HEQ.out i (by omega) h4
        · have hbn : ((x : Int) != (y : Int)) = true := bne_iff_ne.2 (by omega)
          have hfin : R = decide (x < y) := by
            rw [HR.out, HX.out, HY.out]
            exact decide_eq_decide.2 (limb_cmp HB1.out.lt HB2.out.lt htL (fun i h3 h4 => HEQ.out i (by omega) h4) (by rw [← HX.out, ← HY.out]; exact hxy))
          have HF := Lib.hid hfin
          clear hfin
          go_wp2_with fail
          go_quiet (fail)
          go_wp2_with fail
          go_quiet (fail)
          go_wp2_with fail
          go_ret
          exact ⟨by rw [HF.out]; rfl, _, by rw [World.drewN_drewN, World.drewN_drewN]⟩
  · have hq : ((L1 : Int) != (L2 : Int)) = true := bne_iff_ne.2 (by omega)
    have hfin : R = decide (L1 < L2) := by
      rw [HR.out]
      rcases Nat.lt_or_ge L1 L2 with h | h
      · rw [decide_eq_true h, decide_eq_true (len_less HB1.out HB2.out h)]
      · have := len_less HB2.out HB1.out (by omega)
        rw [decide_eq_false (by omega), decide_eq_false (by omega)]
    have HF := Lib.hid hfin
    clear hfin hne
    go_enter Tryd.func29, Tryd.ntmps29
    go_wp2_with fail
    go_ret
    exact ⟨by rw [HF.out]; rfl, 0, rfl⟩

/-- The new array in block g holds f's limbs; nothing old has turned. -/
structure DMem (W : World) (g L : Nat) (f : Nat → Nat) (w : World) : Prop where
  st : Still W w
  buf : ∀ i, i < L → w.cell? ⟨g, i, none⟩ = some (.int .u64 (f i : Int))
  free : ∀ i, w.frozen? ⟨g, i, none⟩ = false
  lt : g < w.heap.size
theorem DMem.put {W w : World} {g L : Nat} {f : Nat → Nat} (h : DMem W g L f w) (hg : W.heap.size ≤ g) {i v : Nat} (hi : i < L) : DMem W g L (fun j => if j = i then v else f j) (w.setCell ⟨g, i, none⟩ (.int .u64 (v : Int))) := by
  refine ⟨h.st.setCell (p := ⟨g, i, none⟩) hg _, fun j hj => ?_, fun j => by rw [World.frozen?_setCell]; exact h.free j, by rw [World.size_setCell]; exact h.lt⟩
  by_cases e : j = i
  · subst e
    rw [World.cell?_setCell_same _ _ _ (h.buf j hj), if_pos rfl]
  · have hne : (⟨g, j, none⟩ : Addr) ≠ ⟨g, i, none⟩ := fun q => e (by have := congrArg Addr.off q; simpa using this)
    rw [World.cell?_setCell_other _ _ _ _ hne.symm, if_neg e]
    exact h.buf j hj

set_option maxRecDepth 100000 in
set_option maxHeartbeats 4000000 in
theorem apart_core (W : World) (v1 v2 : Value) (n m : Nat) (h1 : BgIs W v1 n) (h2 : BgIs W v2 m) :
    Calls Tryd.prog 30 #[v1, v2] W (BgRes W (n - m + (m - n))) := by
  obtain ⟨i0, hi0, hz0, hz1, hz2⟩ := info_parts info22
  obtain ⟨L1, A1, c1, b1⟩ := h1
  obtain ⟨L2, A2, c2, b2⟩ := h2
  have e1 := b1.val
  have e2 := b2.val
  subst e1
  subst e2
  have hc := less_any W _ _ n m ⟨L1, A1, c1, b1⟩ ⟨L2, A2, c2, b2⟩
  obtain ⟨R, hR⟩ : ∃ R, R = decide (n < m) := ⟨_, rfl⟩
  rw [← hR] at hc
  -- the greater, the lesser
  obtain ⟨D, hD⟩ : ∃ D, D = n - m + (m - n) := ⟨_, rfl⟩
  rw [← hD]
  have HC := Lib.hid hc
  have HR := Lib.hid hR
  have HD := Lib.hid hD
  have HB1 := Lib.hid b1
  have HB2 := Lib.hid b2
  clear hc hR hD b1 b2
  go_enter Tryd.func30, Tryd.ntmps30
  go_wp2_with fail
  refine HC.out.mono ?_
  rintro e w' ⟨rfl, k, rfl⟩
  go_upto_if 12 with fail
  go_cut [0, 1] (fun x y wx => ∃ (Lx Ly : Nat) (Ax Ay : Option Addr) (cx cy a b : Nat), x = .slice Ax Lx cx ∧ y = .slice Ay Ly cy ∧ Bg W (.slice Ax Lx cx) a Lx Ax cx ∧ Bg W (.slice Ay Ly cy) b Ly Ay cy ∧ b ≤ a ∧ D = a - b ∧ W.drewN k = wx)
  case first =>
    cases R
    · have hle : m ≤ n := by have := HR.out; simp at this; omega
      go_wp2_with fail
      go_meet
      exact ⟨L1, L2, A1, A2, c1, c2, n, m, rfl, rfl, HB1.out, HB2.out, hle, by rw [HD.out]; omega, rfl⟩
    · have hle : n < m := by have := HR.out; simpa using this
      go_wp2_with fail
      go_meet
      exact ⟨L2, L1, A2, A1, c2, c1, m, n, rfl, rfl, HB2.out, HB1.out, by omega, by rw [HD.out]; omega, rfl⟩
  case rest =>
    clear HB1 HB2 HC HR HD
    obtain ⟨L1, L2, A1, A2, c1, c2, n, m, rfl, rfl, b1, b2, hle, hD, rfl⟩ := hcut
    have hL1 := b1.max
    have hL2 := b2.max
    have HB1 := Lib.hid b1
    have HB2 := Lib.hid b2
    have HD := Lib.hid hD
    have hL1I : (L1 : Int) ≤ 1100 := by omega
    clear b1 b2 hD
    go_wp2_with (refine wpList_make_row _ rfl _ _ 64 rfl 22 i0 (.int .u64 0) Tryd.underlying64 hi0 hz0 hz1 rfl .i64 .i64 L1 rfl rfl (by rw [hz2]; omega) (by omega) ?_)
    have hGB : (W.drewN k).heap.size = W.heap.size := rfl
    obtain ⟨gb, hgb⟩ : ∃ gb, gb = W.heap.size := ⟨_, rfl⟩
    rw [← hgb]
    have hS0 : Still W ((W.drewN k).alloc (.cells (madeCells #[.int .u64 0] L1) 22)) := ((Still.refl W).drewN k).alloc _
    have hmade : DMem W gb L1 (fun _ => 0) ((W.drewN k).alloc (.cells (madeCells #[.int .u64 0] L1) 22)) := by
      refine ⟨hS0, fun i hi => ?_, fun i => by rw [hgb]; exact World.frozen?_alloc_new (W.drewN k) _ _ _, by rw [hgb]; simp⟩
      rw [hgb]
      have h1 := World.cell?_alloc_new (W.drewN k) (madeCells #[.int .u64 0] L1) 22 i
      rw [hGB] at h1
      rw [h1, ← Array.getElem?_toList, toList_madeCells_one, List.getElem?_replicate, if_pos hi]
      rfl
    have HM := Lib.hid hmade
    have HGB := Lib.hid hgb
    have hgW : W.heap.size ≤ gb := by omega
    clear hS0 hmade hGB hgb
    obtain ⟨w0, hw0⟩ : ∃ w0, w0 = (W.drewN k).alloc (.cells (madeCells #[.int .u64 0] L1) 22) := ⟨_, rfl⟩
    have hm0 : DMem W gb L1 (fun _ => 0) w0 := by rw [hw0]; exact HM.out
    rw [← hw0]
    have HM := Lib.hid hm0
    clear hw0 hm0
    go_loopg [6, 20] L1 (fun q bv iv wr => ∃ (i b : Nat) (fb : Nat → Nat), bv = .int .u64 b ∧ iv = .int .i64 i ∧ i + q = L1 ∧ b = borrow n m i ∧ (∀ j, j < i → fb j = limb (n - m) j) ∧ DMem W gb L1 fb wr)
    case atStart => exact ⟨0, 0, _, rfl, rfl, by omega, (borrow_zero n m).symm, fun j hj => by omega, HM.out⟩
    case round =>
      obtain ⟨i, b, fb, rfl, rfl, hiq, hb, hfb, hM⟩ := hrel
      have hb1 : b ≤ 1 := by rw [hb]; exact borrow_le n m i
      by_cases hlt : i < L1
      · have hltI : (i : Int) < L1 := by omega
        obtain ⟨g1, rfl, hg1, hc1⟩ := HB1.out.mem (by omega)
        have q1 : wr.cell? ⟨g1, i, none⟩ = some (lv n i) := hM.st.cell (hc1 i hlt)
        have hx9 := limb_lt n i
        have hy9 := limb_lt m i
        obtain ⟨x, hx⟩ : ∃ x, x = limb n i := ⟨_, rfl⟩
        obtain ⟨y, hy⟩ : ∃ y, y = limb m i := ⟨_, rfl⟩
        unfold lv at q1
        rw [← hx] at q1 hx9
        rw [← hy] at hy9
        have hx10 : x < 1000000000 := hx9
        have hy10 : y < 1000000000 := hy9
        have hx10I : (x : Int) < 1000000000 := by omega
        have hy10I : (y : Int) < 1000000000 := by omega
        have hb1I : (b : Int) ≤ 1 := by omega
        have hyz : ¬ i < L2 → y = 0 := fun h => by
          rw [hy]
          unfold limb
          have h2 := HB2.out.lt
          have : UN ^ L2 ≤ UN ^ i := Nat.pow_le_pow_right UN_pos (by omega)
          rw [Nat.div_eq_of_lt (by omega), Nat.zero_mod]
        have q2 : i < L2 → ∃ g2, A2 = some ⟨g2, 0, none⟩ ∧ wr.cell? ⟨g2, i, none⟩ = some (.int .u64 (y : Int)) := fun h => by
          obtain ⟨g2, e2, _, hc2⟩ := HB2.out.mem (by omega)
          refine ⟨g2, e2, ?_⟩
          have := hM.st.cell (hc2 i h)
          unfold lv at this
          rw [← hy] at this
          exact this
        obtain ⟨s, hs⟩ : ∃ s, s = b + y := ⟨_, rfl⟩
        have hsI : (b : Int) + (y : Int) = (s : Int) := by omega
        obtain ⟨b2, hb2⟩ : ∃ b2, b2 = if x < s then 1 else 0 := ⟨_, rfl⟩
        have hbs : b2 = borrow n m (i + 1) := by rw [borrow_succ, ← hx, ← hy, ← hb, hb2, hs]
        obtain ⟨d, hd⟩ : ∃ d, d = if x < s then x + 1000000000 - s else x - s := ⟨_, rfl⟩
        have hds : d = limb (n - m) i := by
          rw [sub_limb n m i hle, ← hx, ← hy, ← hb, hd, hs]
          rfl
        have hput := hM.put (i := i) (v := d) hgW hlt
        have qi := hM.buf i hlt
        have fi := hM.free i
        have hlt1 := hM.lt
        have HPUT := Lib.hid hput
        have HBS := Lib.hid hbs
        have HDS := Lib.hid hds
        have HFB := Lib.hid hfb
        have HMM := Lib.hid hM
        have HB21 := Lib.hid hb2
        have HD1 := Lib.hid hd
        have hd10 : d < 1000000000 := by rw [hd]; split <;> omega
        clear hb hfb hM hx hy hbs hds hput hb2 hd
        by_cases hi2 : i < L2
        · have hi2I : (i : Int) < L2 := by omega
          obtain ⟨g2, rfl, q2'⟩ := q2 hi2
          have hs2 : s ≤ 1000000000 := by omega
          have hs2I : (s : Int) ≤ 1000000000 := by omega
          clear q2 hyz hs
          by_cases hxs : x < s
          · have hlI : (x : Int) < s := by omega
            have hdv : (x : Int) + 1000000000 - (s : Int) = (d : Int) := by rw [HD1.out, if_pos (by omega)]; omega
            have hb21 : b2 = 1 := by rw [HB21.out, if_pos (by omega)]
            subst hb21
            go_wp2_with fail
            go_roundg (gk - 1)
            case measure => omega
            case rel => exact ⟨i + 1, 1, _, rfl, by go_num, by omega, HBS.out, fun j hj => (by
                by_cases e : j = i
                · rw [if_pos e, e]; exact HDS.out
                · rw [if_neg e]; exact HFB.out j (by omega)), HPUT.out⟩
          · have hlI : decide ((x : Int) < s) = false := decide_eq_false (by omega)
            have hlN : decide (x < s) = false := decide_eq_false (by omega)
            have hge : (s : Int) ≤ (x : Int) := by omega
            have hdv : (x : Int) - (s : Int) = (d : Int) := by rw [HD1.out, if_neg (by omega)]; omega
            have hb21 : b2 = 0 := by rw [HB21.out, if_neg (by omega)]
            subst hb21
            go_wp2_with fail
            go_roundg (gk - 1)
            case measure => omega
            case rel => exact ⟨i + 1, 0, _, rfl, by go_num, by omega, HBS.out, fun j hj => (by
                by_cases e : j = i
                · rw [if_pos e, e]; exact HDS.out
                · rw [if_neg e]; exact HFB.out j (by omega)), HPUT.out⟩
        · have hi2I : decide ((i : Int) < (L2 : Int)) = false := decide_eq_false (by omega)
          have hi2N : decide (i < L2) = false := decide_eq_false hi2
          have hsb : s = b := by have := hyz hi2; omega
          clear q2 hyz hs hsI
          subst hsb
          by_cases hxs : x < s
          · have hlI : (x : Int) < s := by omega
            have hdv : (x : Int) + 1000000000 - (s : Int) = (d : Int) := by rw [HD1.out, if_pos (by omega)]; omega
            have hb21 : b2 = 1 := by rw [HB21.out, if_pos (by omega)]
            subst hb21
            go_wp2_with fail
            go_roundg (gk - 1)
            case measure => omega
            case rel => exact ⟨i + 1, 1, _, rfl, by go_num, by omega, HBS.out, fun j hj => (by
                by_cases e : j = i
                · rw [if_pos e, e]; exact HDS.out
                · rw [if_neg e]; exact HFB.out j (by omega)), HPUT.out⟩
          · have hlI : decide ((x : Int) < s) = false := decide_eq_false (by omega)
            have hlN : decide (x < s) = false := decide_eq_false (by omega)
            have hge : (s : Int) ≤ (x : Int) := by omega
            have hdv : (x : Int) - (s : Int) = (d : Int) := by rw [HD1.out, if_neg (by omega)]; omega
            have hb21 : b2 = 0 := by rw [HB21.out, if_neg (by omega)]
            subst hb21
            go_wp2_with fail
            go_roundg (gk - 1)
            case measure => omega
            case rel => exact ⟨i + 1, 0, _, rfl, by go_num, by omega, HBS.out, fun j hj => (by
                by_cases e : j = i
                · rw [if_pos e, e]; exact HDS.out
                · rw [if_neg e]; exact HFB.out j (by omega)), HPUT.out⟩
      · obtain rfl : L1 = i := by omega
        have HFB := Lib.hid hfb
        have HMM := Lib.hid hM
        clear hfb hM hb
        go_wp2_with fail
        go_loopg [5] L1 (fun q ov wr2 => ∃ j : Nat, ov = .slice (some ⟨gb, 0, none⟩) j L1 ∧ j ≤ q ∧ j ≤ L1 ∧ n - m < UN ^ j ∧ wr = wr2)
        case atStart => exact ⟨L1, rfl, Nat.le_refl _, Nat.le_refl _, Nat.lt_of_le_of_lt (Nat.sub_le _ _) HB1.out.lt, rfl⟩
        case round =>
          obtain ⟨j, rfl, hjq, hjL, hlt, rfl⟩ := hrel
          have HLT := Lib.hid hlt
          clear hlt
          have fin : (0 < j → UN ^ (j - 1) ≤ n - m) → BgRes W D (.returned (.slice (some ⟨gb, 0, none⟩) j L1)) wr := fun hl => by
            refine ⟨_, _, _, rfl, ?_, HMM.out.st⟩
            rw [HD.out]
            exact ⟨j, _, L1, rfl, HLT.out, hl, by omega, fun _ => ⟨gb, rfl, HMM.out.lt, fun i hi => by
              rw [HMM.out.buf i (by omega), HFB.out i (by omega)]; rfl⟩⟩
          rcases Nat.eq_zero_or_pos j with h0 | h0
          · subst h0
            have hf := fin (fun h => by omega)
            have HFIN := Lib.hid hf
            clear fin hf
            go_wp2_with fail
            go_ret
            exact HFIN.out
          · obtain ⟨t, rfl⟩ : ∃ t, j = t + 1 := ⟨j - 1, by omega⟩
            have ht1 : ((t + 1 : Nat) : Int) - 1 = (t : Int) := by omega
            have htL : t < L1 := by omega
            have qt := HMM.out.buf t htL
            obtain ⟨z, hz⟩ : ∃ z, z = fb t := ⟨_, rfl⟩
            rw [← hz] at qt
            have hzl : z = limb (n - m) t := by rw [hz]; exact HFB.out t htL
            have HZ := Lib.hid hzl
            clear hz hzl
            by_cases hz0 : z = 0
            · have hz0I : ((z : Int) == 0) = true := by simp; omega
              have hsm : n - m < UN ^ t := by
                have h1 := mod_succ (n - m) t
                rw [Nat.mod_eq_of_lt HLT.out, ← HZ.out, hz0, Nat.zero_mul, Nat.add_zero] at h1
                have := Nat.mod_lt (n - m) (show 0 < UN ^ t from Nat.pow_pos UN_pos)
                omega
              have HSM := Lib.hid hsm
              clear hsm fin
              go_wp2_with fail
              go_roundg (gk - 1)
              case measure => omega
              case rel => exact ⟨t, rfl, by omega, by omega, HSM.out, rfl⟩
            · have hz0I : ((z : Int) == 0) = false := by simp; omega
              have hf := fin (fun _ => by
                rw [Nat.add_sub_cancel]
                rcases Nat.lt_or_ge (n - m) (UN ^ t) with h | h
                · exfalso
                  have h1 := HZ.out
                  unfold limb at h1
                  rw [Nat.div_eq_of_lt h, Nat.zero_mod] at h1
                  exact hz0 h1
                · exact h)
              have HFIN := Lib.hid hf
              clear fin hf
              go_wp2_with fail
              go_ret
              exact HFIN.out

end Go.Proofs.YthfjpofbaeeafaaDoor
