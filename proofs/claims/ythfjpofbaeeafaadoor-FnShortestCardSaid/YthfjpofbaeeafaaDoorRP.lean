/-
  spec.hex, spec.SamePower.
  spec.ReadPower.
-/
import Derived.Test.YthfjpofbaeeafaaDoorTabs
import Derived.LoopTactic
import Derived.Deep.LoopGhost
import Derived.Deep.DeepCutAuto
import Derived.RegionTactic
import Derived.Lib.ConvBytes
namespace Go.Proofs.YthfjpofbaeeafaaDoor
open Go.RowKit

/-- The value of a digit in base 16; -1: it is none. -/
def hexv (c : Nat) : Int := if 48 ≤ c ∧ c ≤ 57 then (c : Int) - 48 else if 97 ≤ c ∧ c ≤ 102 then (c : Int) - 87 else if 65 ≤ c ∧ c ≤ 70 then (c : Int) - 55 else -1

set_option maxRecDepth 100000 in
theorem hex_any (c : Nat) (hc : c < 256) (w : World) : Calls Tryd.prog 34 #[.int .u8 (c : Int)] w fun e w' => e = .returned (.int .i64 (hexv c)) ∧ w = w' := by
  unfold hexv
  by_cases h1 : 48 ≤ c ∧ c ≤ 57
  · rw [if_pos h1]
    have i1 : (48 : Int) ≤ c := by omega
    have i2 : (c : Int) ≤ 57 := by omega
    clear h1
    go_enter Tryd.func34, Tryd.ntmps34
    go_wp2
    go_ret
    exact ⟨rfl, rfl⟩
  · rw [if_neg h1]
    by_cases h2 : 97 ≤ c ∧ c ≤ 102
    · rw [if_pos h2]
      have i1 : (97 : Int) ≤ c := by omega
      have i2 : (c : Int) ≤ 102 := by omega
      clear h1 h2
      go_enter Tryd.func34, Tryd.ntmps34
      go_wp2
      go_ret
      exact ⟨ret_int (by omega), rfl⟩
    · rw [if_neg h2]
      by_cases h3 : 65 ≤ c ∧ c ≤ 70
      · rw [if_pos h3]
        have i1 : (65 : Int) ≤ c := by omega
        have i2 : (c : Int) ≤ 70 := by omega
        clear h1 h2 h3
        go_enter Tryd.func34, Tryd.ntmps34
        go_wp2
        go_ret
        exact ⟨ret_int (by omega), rfl⟩
      · rw [if_neg h3]
        have hc' : (c : Int) < 256 := by omega
        have g1 : (c : Int) < 48 ∨ 57 < (c : Int) := by omega
        have g2 : (c : Int) < 97 ∨ 102 < (c : Int) := by omega
        have g3 : (c : Int) < 65 ∨ 70 < (c : Int) := by omega
        clear h1 h2 h3
        rcases g1 with g1 | g1 <;> rcases g2 with g2 | g2 <;> rcases g3 with g3 | g3 <;> first | (exfalso; omega) | skip
        all_goals
          go_enter Tryd.func34, Tryd.ntmps34
          go_wp2
          go_ret
          exact ⟨rfl, rfl⟩

set_option maxRecDepth 100000 in
set_option maxHeartbeats 2000000 in
/-- Zero, and zero. -/
theorem samePower_zero (pw at_ : Int) (m ed : Bool) (w : World) :
    Calls Tryd.prog 20 #[.int .u64 0, .int .i64 pw, .agg #[.bool m, .int .u64 0, .int .i64 at_, .bool ed]] w fun e w' => e = .returned (.bool true) ∧ Still w w' := by
  go_enter Tryd.func20, Tryd.ntmps20
  go_wp2
  go_ret
  exact ⟨rfl, (Still.refl w).alloc _⟩

set_option maxRecDepth 100000 in
set_option maxHeartbeats 2000000 in
/-- An odd number times two powers of two. -/
theorem samePower_odd (od a b : Nat) (pw at_ : Int) (m ed : Bool) (w : World) (ho : od % 2 = 1) (hp : pw + a = at_ + b) (ha : a < 100) (hb : b < 100) (hp0 : -100000 < pw) (hp1 : pw < 100000) (ha0 : -100000 < at_) (ha1 : at_ < 100000) (h1 : U64 (od * 2 ^ a)) (h2 : U64 (od * 2 ^ b)) :
    Calls Tryd.prog 20 #[.int .u64 (od * 2 ^ a : Nat), .int .i64 pw, .agg #[.bool m, .int .u64 (od * 2 ^ b : Nat), .int .i64 at_, .bool ed]] w fun e w' => e = .returned (.bool true) ∧ Still w w' := by
  obtain ⟨N, hN⟩ : ∃ N, N = od * 2 ^ a := ⟨_, rfl⟩
  obtain ⟨L, hL⟩ : ∃ L, L = od * 2 ^ b := ⟨_, rfl⟩
  have hN0 : 0 < N := by rw [hN]; exact Nat.mul_pos (by omega) (Nat.two_pow_pos _)
  have hL0 : 0 < L := by rw [hL]; exact Nat.mul_pos (by omega) (Nat.two_pow_pos _)
  rw [← hN] at h1 ⊢
  rw [← hL] at h2 ⊢
  have i1 : ((N : Int) == 0) = false := by simp; omega
  have i2 : ((L : Int) == 0) = false := by simp; omega
  have HN := Lib.hid hN
  have HL := Lib.hid hL
  have HP := Lib.hid hp
  clear hN hL hp
  go_enter Tryd.func20, Tryd.ntmps20
  go_wp2
  go_region
  go_wp2_with fail
  obtain ⟨w0, hw0⟩ : ∃ w0, w0 = (w.alloc (.cells #[.bool m, .int .u64 (L : Int), .int .i64 at_, .bool ed] 24)).drew := ⟨_, rfl⟩
  have HS : Still w w0 := by rw [hw0]; exact ((Still.refl w).alloc _).drew
  rw [← hw0]
  clear hw0
  go_loopg [0, 1] a (fun q n p wr => ∃ x : Nat, Hid (x = od * 2 ^ q) ∧ U64 x ∧ 0 < x ∧ n = .int .u64 (x : Int) ∧ p = .int .i64 (pw + ((a : Int) - q)) ∧ q ≤ a ∧ w0 = wr)
  case atStart => exact ⟨N, HN.out, h1, hN0, rfl, by go_num, Nat.le_refl _, rfl⟩
  case round =>
    obtain ⟨x, hx, hxU, hx0, rfl, rfl, hq, rfl⟩ := hrel
    by_cases hq0 : gk = 0
    · have hxo : x % 2 = 1 := by rw [hx.out, hq0]; simpa using ho
      have hxe : x = od := by rw [hx.out, hq0]; simp
      have i3 : ((x : Int) % 2 == 0) = false := by simp; omega
      obtain ⟨PW, hPW⟩ : ∃ PW : Int, PW = pw + ((a : Int) - (gk : Nat)) := ⟨_, rfl⟩
      rw [← hPW]
      have hPW2 : PW = pw + a := by rw [hPW, hq0]; omega
      have HPW := Lib.hid hPW2
      have HX := Lib.hid hxe
      clear hPW hPW2 hxe
      go_wp2_with fail
      go_loopg [7, 8] b (fun q n p wr => ∃ y : Nat, Hid (y = od * 2 ^ q) ∧ U64 y ∧ 0 < y ∧ n = .int .u64 (y : Int) ∧ p = .int .i64 (at_ + ((b : Int) - q)) ∧ q ≤ b ∧ w0 = wr)
      case atStart => exact ⟨L, HL.out, h2, hL0, rfl, by go_num, Nat.le_refl _, rfl⟩
      case round =>
        obtain ⟨y, hy, hyU, hy0, rfl, rfl, hq', rfl⟩ := hrel
        by_cases hr0 : gk = 0
        · have hyo : y % 2 = 1 := by rw [hy.out, hr0]; simpa using ho
          have hye : y = od := by rw [hy.out, hr0]; simp
          have hxy : x = y := by rw [HX.out, hye]
          have i4 : ((y : Int) % 2 == 0) = false := by simp; omega
          have hpp : PW = at_ + ((b : Int) - (gk : Nat)) := by have := HP.out; rw [HPW.out, hr0]; omega
          subst hxy
          rw [← hpp]
          clear hpp hye
          go_wp2_with fail
          go_ret
          exact ⟨rfl, HS⟩
        · have hye : y % 2 = 0 := by
            obtain ⟨k, rfl⟩ : ∃ k, gk = k + 1 := ⟨gk - 1, by omega⟩
            rw [hy.out, Nat.pow_succ, ← Nat.mul_assoc, Nat.mul_mod_left]
          have hyh : y / 2 = od * 2 ^ (gk - 1) := by
            obtain ⟨k, rfl⟩ : ∃ k, gk = k + 1 := ⟨gk - 1, by omega⟩
            rw [hy.out, Nat.pow_succ, ← Nat.mul_assoc, Nat.mul_div_cancel _ (by omega)]
            rfl
          have i4 : ((y : Int) % 2 == 0) = true := by simp; omega
          have HY := Lib.hid hyh
          have hyw : IntKind.u64.wrap ((y : Int) / 2) = (y : Int) / 2 := by rw [IntKind.wrap_u64]; unfold U64 at hyU; omega
          clear hyh
          go_wp2_with fail
          go_roundg (gk - 1)
          case measure => omega
          case rel => exact ⟨y / 2, HY.out, by unfold U64 at *; omega, by omega, by go_num, by go_num, by omega, rfl⟩
    · have hxe : x % 2 = 0 := by
        obtain ⟨k, rfl⟩ : ∃ k, gk = k + 1 := ⟨gk - 1, by omega⟩
        rw [hx.out, Nat.pow_succ, ← Nat.mul_assoc, Nat.mul_mod_left]
      have hxh : x / 2 = od * 2 ^ (gk - 1) := by
        obtain ⟨k, rfl⟩ : ∃ k, gk = k + 1 := ⟨gk - 1, by omega⟩
        rw [hx.out, Nat.pow_succ, ← Nat.mul_assoc, Nat.mul_div_cancel _ (by omega)]
        rfl
      have i3 : ((x : Int) % 2 == 0) = true := by simp; omega
      have HX := Lib.hid hxh
      have hxw : IntKind.u64.wrap ((x : Int) / 2) = (x : Int) / 2 := by rw [IntKind.wrap_u64]; unfold U64 at hxU; omega
      clear hxh
      go_wp2_with fail
      go_roundg (gk - 1)
      case measure => omega
      case rel => exact ⟨x / 2, HX.out, by unfold U64 at *; omega, by omega, by go_num, by go_num, by omega, rfl⟩

structure RP where
  n : Nat
  pw : Int
  point : Bool
  dg : Nat

/-- One byte of the digits. -/
def rpStep (base verb : Nat) (st : RP) (c : Nat) : Option RP :=
  if c = 46 ∧ base = 16 ∧ st.point = false ∧ st.dg = 1 then some { st with point := true }
  else if hexv c < 0 ∨ (base : Int) ≤ hexv c ∨ (verb = 120 ∧ c < 97 ∧ 57 < c) ∨ (verb = 88 ∧ 97 ≤ c) ∨ 18446744073709551616 ≤ st.n * base + (hexv c).toNat then none
  else some ⟨st.n * base + (hexv c).toNat, if st.point then st.pw - 4 else st.pw, st.point, st.dg + 1⟩
def rpBody (base verb : Nat) : List UInt8 → RP → Option RP
  | [], st => some st
  | c :: l, st => (rpStep base verb st c.toNat).bind (rpBody base verb l)

/-- The number that decimal digits write. -/
def decVal (es : List UInt8) : Nat := es.foldl (fun a c => a * 10 + (c.toNat - 48)) 0
theorem decVal_snoc (l : List UInt8) (c : UInt8) : decVal (l ++ [c]) = decVal l * 10 + (c.toNat - 48) := by simp [decVal]
theorem decVal_acc (l : List UInt8) (h : ∀ c ∈ l, 48 ≤ c.toNat ∧ c.toNat ≤ 57) : ∀ a, l.foldl (fun a c => a * 10 + (c.toNat - 48)) a < (a + 1) * 10 ^ l.length := by
  induction l with
  | nil => intro a; simp
  | cons c l ih =>
    intro a
    have h2 := h c (by simp)
    have := ih (fun x hx => h x (by simp [hx])) (a * 10 + (c.toNat - 48))
    rw [List.foldl_cons, List.length_cons, Nat.pow_succ]
    refine Nat.lt_of_lt_of_le this ?_
    rw [show (a + 1) * (10 ^ l.length * 10) = ((a + 1) * 10) * 10 ^ l.length by rw [Nat.mul_comm (10 ^ l.length) 10, Nat.mul_assoc]]
    exact Nat.mul_le_mul_right _ (by omega)
theorem decVal_lt (l : List UInt8) (h : ∀ c ∈ l, 48 ≤ c.toNat ∧ c.toNat ≤ 57) : decVal l < 10 ^ l.length := by
  have := decVal_acc l h 0
  simpa [decVal] using this

theorem list_idx {s : ByteArray} {l : List UInt8} (hs : s.data.toList = l) {k : Nat} (hk : k < s.size) : l[k]? = some s[k] := by
  rw [← hs]
  have hk' : k < s.data.size := hk
  rw [Array.getElem?_toList, Array.getElem?_eq_getElem hk']
  rfl
theorem list_size {s : ByteArray} {l : List UInt8} (hs : s.data.toList = l) : s.size = l.length := by
  rw [← hs]; rfl
theorem drop_extract {s : ByteArray} {l : List UInt8} (hs : s.data.toList = l) (k : Nat) : (s.extract k s.size).data.toList = l.drop k := by
  rw [← hs, Lib.extract_data]
  exact List.take_of_length_le (by rw [List.length_drop]; exact Nat.le_refl _)
theorem head45 {neg : Bool} {body r : List UInt8} {x : UInt8} (h : ((if neg then [45] else []) ++ (body ++ 112 :: r))[0]? = some x) (hb : ∀ c l, body = c :: l → c ≠ 45) : ((x.toNat : Int) == 45) = neg := by
  cases neg
  · simp only [Bool.false_eq_true, if_false, List.nil_append] at h
    have hx : x ≠ 45 := by
      cases body with
      | nil => simp at h; rw [← h]; decide
      | cons c l => simp at h; rw [← h]; exact hb c l rfl
    have : x.toNat ≠ 45 := fun e => hx (UInt8.toNat_inj.1 e)
    simp; omega
  · simp at h
    subst h
    rfl
theorem bytesBelow (w : World) (e : TypeId) (s : ByteArray) : Below w.heap.size w (Lib.bytesWorld w e s) := by
  refine ⟨rfl, rfl, rfl, by rw [Lib.bytesWorld_size]; omega, fun k hk => Lib.bytesWorld_at_old w e s k hk⟩
theorem str_ne {s : ByteArray} (h : 0 < s.size) : ¬ s.toList = [] := by
  intro e
  have : s.toList.length = s.size := by rw [Lib.toList_data]; rfl
  rw [e] at this
  simp at this
  omega

theorem step_b {st st' : RP} {c : Nat} (h : rpStep 10 98 st c = some st') : 0 ≤ hexv c ∧ hexv c < 10 ∧ st.n * 10 + (hexv c).toNat < 18446744073709551616 ∧ st' = ⟨st.n * 10 + (hexv c).toNat, if st.point then st.pw - 4 else st.pw, st.point, st.dg + 1⟩ := by
  unfold rpStep at h
  rw [if_neg (by omega)] at h
  split at h
  · cases h
  · rename_i hn
    simp only [Option.some.injEq] at h
    exact ⟨by omega, by omega, by omega, h.symm⟩

set_option maxRecDepth 100000 in
set_option maxHeartbeats 2000000 in
theorem readPower_b (neg : Bool) (body es : List UInt8) (sg : UInt8) (fin : RP) (KK : Int) (s : ByteArray) (w : World)
   (hs : s.data.toList = (if neg then [45] else []) ++ (body ++ 112 :: sg :: es)) (hlen : s.size ≤ 100000) (hb : rpBody 10 98 body ⟨0, 0, false, 0⟩ = some fin) (hfd : 0 < fin.dg) (hpw0 : fin.pw = 0) (hb45 : ∀ c l, body = c :: l → c ≠ 45) (hbp : ∀ c ∈ body, c ≠ 112)
   (hes : 0 < es.length) (hel : es.length ≤ 4) (hsg : sg = 43 ∨ sg = 45) (hed : ∀ c ∈ es, 48 ≤ c.toNat ∧ c.toNat ≤ 57) (hKK : KK = if sg = 45 then -(decVal es : Int) else decVal es) :
    Calls Tryd.prog 19 #[.string s, .int .u8 98] w fun e w' => e = .returned (.tuple #[.bool neg, .int .u64 (fin.n : Int), (.int .i64 (fin.pw + KK)), .bool true]) ∧ Still w w' := by
  have hsz := list_size hs
  have hsp : 0 < s.size := by rw [hsz, List.length_append, List.length_append]; simp; omega
  have hne := str_ne hsp
  have hne' : s.toList.isEmpty = false := by simpa using hne
  have hx0 := list_idx hs hsp
  obtain ⟨x, hx⟩ : ∃ x : UInt8, s[0] = x := ⟨_, rfl⟩
  rw [hx] at hx0
  have hx45 : ((x.toNat : Int) == 45) = neg := head45 hx0 hb45
  have HSS := Lib.hid hs
  have HSZ := Lib.hid hsz
  clear hs hx0 hsz
  go_enter Tryd.func19, Tryd.ntmps19
  go_upto_if 23 with fail
  go_cut [0, 4] (fun a m wx => ∃ s2 : ByteArray, a = .string s2 ∧ m = .bool neg ∧ Hid (s2.data.toList = body ++ 112 :: sg :: es) ∧ s2.size ≤ 100000 ∧ Still w wx)
  case first =>
    cases neg
    · go_wp2_with fail
      go_meet
      exact ⟨s, rfl, rfl, by show s.data.toList = _; simpa using HSS.out, hlen, Still.refl w⟩
    · go_wp2_with fail
      go_region
      all_goals
        go_wp2_with fail
        go_meet
        exact ⟨s.extract 1 s.size, rfl, rfl, drop_extract HSS.out 1, by rw [ByteArray.size_extract]; omega, (Still.refl w).drew⟩
  case rest =>
    obtain ⟨s2, rfl, rfl, hs2, hl2, HS⟩ := hcut
    have hz2 := list_size hs2.out
    rw [List.length_append, List.length_cons, List.length_cons] at hz2
    have hz2i : body.length + 2 + es.length ≤ s2.size := by omega
    have hz2j : s2.size ≤ body.length + 2 + es.length := by omega
    have HB := Lib.hid hb
    clear hz2 hb
    go_wp2_with fail
    go_loopg [4, 5, 6, 10, 11, 12] body.length (fun q mi n pw i pt dg wr => ∃ (st : RP) (k : Nat), mi = .bool neg ∧ n = .int .u64 (st.n : Int) ∧ pw = .int .i64 st.pw ∧ i = .int .i64 (k : Int) ∧ pt = .bool st.point ∧ dg = .int .i64 (st.dg : Int) ∧ Hid (rpBody 10 98 (body.drop k) st = some fin) ∧ k + q = body.length ∧ U64 st.n ∧ st.dg ≤ k ∧ -(4 * (k : Int)) ≤ st.pw ∧ st.pw ≤ 0 ∧ wc = wr)
    case atStart => exact ⟨⟨0, 0, false, 0⟩, 0, rfl, rfl, rfl, rfl, rfl, rfl, HB.out, by omega, by unfold U64; decide, Nat.le_refl _, by decide, by decide, rfl⟩
    case round =>
      obtain ⟨st, k, rfl, rfl, rfl, rfl, rfl, rfl, hst, hkq, hU, hdg, hp1, hp2, rfl⟩ := hrel
      by_cases hk : k < body.length
      · have hks : k < s2.size := by omega
        have hcl := list_idx hs2.out hks
        obtain ⟨c, hc⟩ : ∃ c : UInt8, s2[k] = c := ⟨_, rfl⟩
        rw [hc, List.getElem?_append_left hk] at hcl
        have hcm : c ∈ body := List.mem_of_getElem? hcl
        have hdr : body.drop k = c :: body.drop (k + 1) := by
          rw [List.drop_eq_getElem_cons hk]
          congr 1
          rw [List.getElem?_eq_getElem hk] at hcl
          exact Option.some.inj hcl
        obtain ⟨st', hst1, hst2⟩ : ∃ st', rpStep 10 98 st c.toNat = some st' ∧ rpBody 10 98 (body.drop (k + 1)) st' = some fin := by
          have := hst.out
          rw [hdr, rpBody, Option.bind_eq_some_iff] at this
          exact this
        obtain ⟨hd0, hd1, hov, hst'⟩ := step_b hst1
        have hx := hex_any c.toNat (by have := UInt8.toNat_lt c; omega)
        obtain ⟨d, hd⟩ : ∃ d : Nat, (d : Int) = hexv c.toNat := ⟨(hexv c.toNat).toNat, by omega⟩
        have hcp : c ≠ 112 := hbp c hcm
        have hcp' : c.toNat ≠ 112 := fun e => hcp (UInt8.toNat_inj.1 e)
        have hc46' : c.toNat ≠ 46 := fun e => by rw [e] at hd0; exact absurd hd0 (by decide)
        have t1 : ((c.toNat : Int) != 112) = true := by simp; omega
        have t2 : ((c.toNat : Int) == 46) = false := by simp; omega
        rw [← hd] at hx hd0 hd1
        have hov' : st.n * 10 + d < 18446744073709551616 := by rw [show d = (hexv c.toNat).toNat by omega]; exact hov
        have hov2 : (st.n : Int) ≤ (18446744073709551615 - (d : Int)) / 10 := by omega
        have HOV := Lib.hid hov'
        have HD := Lib.hid hd
        have HST2 := Lib.hid hst2
        have HST := Lib.hid hst'
        have HC := Lib.hid hcl
        have HDR := Lib.hid hdr
        clear hov hov' hd hst1 hst2 hst' hcl hdr hcp hcp' hc46' hcm
        go_wp2_with (go_at_call 34; refine (hx _).mono ?_; rintro e w' ⟨rfl, rfl⟩)
        all_goals
          go_roundg (gk - 1)
          case measure => omega
          case rel =>
            have hs' := HST.out
            have hp : st'.pw = if st.point then st.pw - 4 else st.pw := by rw [hs']
            have hn : st'.n = st.n * 10 + d := by rw [hs']; show st.n * 10 + (hexv c.toNat).toNat = _; have := HD.out; omega
            have hdg' : st'.dg = st.dg + 1 := by rw [hs']
            have hpt : st'.point = st.point := by rw [hs']
            refine ⟨st', k + 1, rfl, by rw [hn]; go_num, (by first | (rw [hp]; done) | (rw [hp]; simp [*])), by go_num, (by first | (rw [hpt]; done) | (rw [hpt]; simp [*])), (by first | (rw [hdg']; done) | (rw [hdg']; go_num)), HST2.out, by omega, by rw [hn]; exact HOV.out, by omega, ?_, ?_, rfl⟩
            · rw [hp]; split <;> omega
            · rw [hp]; split <;> omega
      · obtain rfl : k = body.length := by omega
        have hfin : st = fin := by
          have := hst.out
          rw [List.drop_length, rpBody] at this
          exact Option.some.inj this
        subst hfin
        have hks : body.length < s2.size := by omega
        have hks1 : body.length + 1 < s2.size := by omega
        have hc0 : s2[body.length] = 112 := by
          have := list_idx hs2.out hks
          rw [List.getElem?_append_right (Nat.le_refl _)] at this
          simp at this
          exact this.symm
        have hc1 : s2[body.length + 1] = sg := by
          have := list_idx hs2.out hks1
          rw [List.getElem?_append_right (by omega)] at this
          simp at this
          exact this.symm
        have hpw0' : (st.pw == 0) = true := by simp [hpw0]
        have HPW0 := Lib.hid hpw0
        clear hpw0
        have hdgp : ((st.dg : Int) == 0) = false := by simp; omega
        have hz3 : (body.length : Int) + 3 ≤ s2.size := by omega
        have hz4 : (body.length : Int) + 1 < s2.size := by omega
        have hz6 : decide ((s2.size : Int) < (body.length : Int) + 3) = false := by simp; omega
        have hz5 : (0 : Int) ≤ (body.length : Int) + 1 := by omega
        obtain ⟨s3, hs3⟩ : ∃ s3, s2.extract (body.length + 2) s2.size = s3 := ⟨_, rfl⟩
        have hs3l : s3.data.toList = es := by
          rw [← hs3, drop_extract hs2.out]
          rw [show body.length + 2 = body.length + 2 from rfl, List.drop_append]
          simp
        have hs3z : s3.size = es.length := list_size hs3l
        have hcv := fun W => Lib.run_convert_string_bytes (P := Tryd.prog) W 9 62 5 s3 Tryd.underlying9 Tryd.underlying62 Tryd.underlying5
        obtain ⟨N3, hN3⟩ : ∃ N3, N3 = es.length := ⟨_, rfl⟩
        rw [← hN3] at hs3z hz2i hz2j hes hel
        have hcell : ∀ j, j < N3 → (Lib.bytesWorld wc 5 s3).cell? ⟨wc.heap.size, j, none⟩ = some (.int .u8 ((es.getD j 0).toNat : Int)) := fun j hj => by
          rw [Lib.bytesWorld_cell wc 5 s3 j (by omega), hs3l]
        have HCELL := Lib.hid hcell
        have HN3 := Lib.hid hN3
        have hSb : Still w (Lib.bytesWorld wc 5 s3) := HS.trans (Still.below (bytesBelow wc 5 s3))
        have HSB := Lib.hid hSb
        have HS3L := Lib.hid hs3l
        clear hb45 hbp hx45 hs3l hcell hN3 hSb
        subst hs3
        rcases hsg with rfl | rfl
        all_goals
          go_wp2_with fail
          go_loopg [4, 5, 6, 14, 163] N3 (fun q mi n pw k i wr => ∃ j : Nat, mi = .bool neg ∧ n = .int .u64 (st.n : Int) ∧ pw = .int .i64 st.pw ∧ i = .int .i64 (j : Int) ∧ k = .int .i64 (decVal (es.take j) : Int) ∧ j + q = N3 ∧ Lib.bytesWorld wc 5 (s2.extract (body.length + 2) s2.size) = wr)
          case atStart => exact ⟨0, rfl, rfl, rfl, rfl, by simp [decVal], by omega, rfl⟩
          case round =>
            obtain ⟨j, rfl, rfl, rfl, rfl, rfl, hjq, rfl⟩ := hrel
            have hE4 : es.length ≤ 4 := by rw [← HN3.out]; exact hel
            have hdv : decVal (es.take j) < 10000 := Nat.lt_of_lt_of_le (decVal_lt _ (fun c hc => hed c (List.mem_of_mem_take hc))) (by
              have : (es.take j).length ≤ 4 := by rw [List.length_take]; omega
              exact Nat.le_trans (Nat.pow_le_pow_right (by decide) this) (by decide))
            by_cases hj : j < N3
            · have hcj := HCELL.out j hj
              have hjl : j < es.length := by have := HN3.out; omega
              have hee := hed es[j] (List.getElem_mem hjl)
              have hgd : es.getD j 0 = es[j] := by simp [hjl]
              rw [hgd] at hcj
              have hsn : decVal (es.take (j + 1)) = decVal (es.take j) * 10 + (es[j].toNat - 48) := by
                rw [List.take_succ_eq_append_getElem hjl, decVal_snoc]
              obtain ⟨cv, hcv'⟩ : ∃ cv, cv = es[j].toNat := ⟨_, rfl⟩
              rw [← hcv'] at hcj hee hsn
              obtain ⟨e1, e2⟩ := hee
              obtain ⟨D0, hD0⟩ : ∃ D0, D0 = decVal (es.take j) := ⟨_, rfl⟩
              rw [← hD0] at hsn hdv ⊢
              have HSN := Lib.hid hsn
              have HD0 := Lib.hid hD0
              have HCV := Lib.hid hcv'
              have i1 : (48 : Int) ≤ cv := by omega
              have i2 : (cv : Int) ≤ 57 := by omega
              clear hsn hD0 hcv' hgd
              go_wp2_with fail
              go_roundg (gk - 1)
              case measure => omega
              case rel => exact ⟨j + 1, rfl, rfl, rfl, by go_num, by rw [HSN.out]; go_num, by omega, rfl⟩
            · obtain rfl : j = N3 := by omega
              have hall : es.take j = es := by rw [List.take_of_length_le]; have := HN3.out; omega
              rw [hall] at hdv ⊢
              obtain ⟨D0, hD0⟩ : ∃ D0, D0 = decVal es := ⟨_, rfl⟩
              rw [← hD0] at hdv hKK ⊢
              have HKK := Lib.hid hKK
              have HD0 := Lib.hid hD0
              have hpw1 : -4000000 ≤ st.pw := by omega
              clear hD0 hKK hall
              go_wp2_with fail
              first
                | (refine bodyPost_ret (v := .tuple #[.bool neg, .int .u64 (st.n : Int), .int .i64 (st.pw + (D0 : Int)), .bool true]) (by simp [results, Tryd.results19, go_sem, *]) rfl ⟨?_, HSB.out⟩; rw [HKK.out]; rfl)
                | (refine bodyPost_ret (v := .tuple #[.bool neg, .int .u64 (st.n : Int), .int .i64 (st.pw + -(D0 : Int)), .bool true]) (by simp [results, Tryd.results19, go_sem, *]) rfl ⟨?_, HSB.out⟩; rw [HKK.out]; rfl)
end Go.Proofs.YthfjpofbaeeafaaDoor
