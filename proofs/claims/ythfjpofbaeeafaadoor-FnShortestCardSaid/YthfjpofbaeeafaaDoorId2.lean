/-
  spec.Digits.
-/
import Derived.Test.YthfjpofbaeeafaaDoorNE
import Derived.Test.YthfjpofbaeeafaaDoorRD
namespace Go.Proofs.YthfjpofbaeeafaaDoor
open Go.RowKit

set_option maxRecDepth 100000 in
set_option maxHeartbeats 2000000 in
/-- Digits, in base ten. -/
theorem digits_any (W : World) (n : Nat) (hn : n < 10 ^ 19) :
    Calls Tryd.prog 35 #[.int .u64 n, .int .i64 10, .bool false] W fun e w' => (∃ ba : ByteArray, e = .returned (.string ba) ∧ ba.data.toList = Lib.decDigits n) ∧ W = w' := by
  obtain ⟨LET, hLET⟩ : ∃ LET : ByteArray, LET = { data := #[48, 49, 50, 51, 52, 53, 54, 55, 56, 57, 97, 98, 99, 100, 101, 102] } := ⟨_, rfl⟩
  have hsz : LET.size = 16 := by rw [hLET]; rfl
  have hat : ∀ d, d < 10 → (LET.extract d (d + 1)).data.toList = [UInt8.ofNat (48 + d)] := fun d hd => by
    rw [sub_one (by omega)]
    subst hLET
    have h10 : d = 0 ∨ d = 1 ∨ d = 2 ∨ d = 3 ∨ d = 4 ∨ d = 5 ∨ d = 6 ∨ d = 7 ∨ d = 8 ∨ d = 9 := by omega
    rcases h10 with rfl | rfl | rfl | rfl | rfl | rfl | rfl | rfl | rfl | rfl <;> rfl
  have HAT := Lib.hid hat
  clear hat
  go_enter Tryd.func35, Tryd.ntmps35
  rw [← hLET]
  have HLET := Lib.hid hLET
  clear hLET
  go_wp2_with fail
  go_loopg [0, 8] n (fun q nv sv wr => ∃ (ba : ByteArray), nv = .int .u64 (q : Int) ∧ sv = .string ba ∧ q < 10 ^ (19 - ba.size) ∧ ba.size ≤ 18 ∧ ((ba.data.toList = [] ∧ q = n) ∨ (0 < q ∧ Lib.decDigits n = Lib.decDigits q ++ ba.data.toList)) ∧ W = wr)
  case atStart => exact ⟨⟨#[]⟩, rfl, rfl, hn, by decide, Or.inl ⟨rfl, rfl⟩, rfl⟩
  case round =>
    obtain ⟨ba, rfl, rfl, hq, hbs, hinv, rfl⟩ := hrel
    obtain ⟨d, hd⟩ : ∃ d, d = gk % 10 := ⟨_, rfl⟩
    have hdI : (gk : Int) % 10 = (d : Int) := by omega
    have hd9 : d < 10 := by omega
    have hd9I : (d : Int) < 10 := by omega
    have hsl : (d : Int) + 1 ≤ LET.size := by omega
    have hsl2 : (d : Int) ≤ (d : Int) + 1 := by omega
    obtain ⟨q2, hq2⟩ : ∃ q2, q2 = gk / 10 := ⟨_, rfl⟩
    have hqI : (gk : Int) / 10 = (q2 : Int) := by omega
    have hpw : 10 ^ (19 - ba.size) ≤ 10 ^ 19 := Nat.pow_le_pow_right (by decide) (by omega)
    have hgU : gk < 18446744073709551616 := by omega
    have hgUI : (gk : Int) < 18446744073709551616 := by omega
    have hX := HAT.out d hd9
    obtain ⟨X, hXe⟩ : ∃ X, X = LET.extract d (d + 1) := ⟨_, rfl⟩
    rw [← hXe] at hX
    have hXs : X.size = 1 := by rw [list_size hX]; rfl
    have hcc : ¬ ((X.size + ba.size : Nat) : Int) > IntKind.i64.max := by rw [show IntKind.i64.max = 9223372036854775807 from rfl]; omega
    have hcc2 : ¬ (9223372036854775807 < (X.size : Int) + ba.size) := by omega
    have hsn : Lib.decDigits gk = (if q2 = 0 then [] else Lib.decDigits q2) ++ [UInt8.ofNat (48 + d)] := by
      rw [Lib.decDigits]
      split
      · next h => rw [if_pos (by omega), List.nil_append, hd, Nat.mod_eq_of_lt h]
      · next h => rw [if_neg (by omega), hd, hq2]
    have hdone : gk = n ∧ ba.data.toList = [] ∨ 0 < gk ∧ Lib.decDigits n = Lib.decDigits gk ++ ba.data.toList := hinv.imp (fun h => ⟨h.2, h.1⟩) id
    have hall : Lib.decDigits n = Lib.decDigits gk ++ ba.data.toList := by
      rcases hinv with ⟨h1, h2⟩ | ⟨_, h⟩
      · rw [h1, h2, List.append_nil]
      · exact h
    have hnew : Lib.decDigits n = (if q2 = 0 then [] else Lib.decDigits q2) ++ (X ++ ba).data.toList := by
      rw [hall, hsn, show (X ++ ba).data.toList = X.data.toList ++ ba.data.toList from by simp, hX, List.append_assoc]
    have HNEW := Lib.hid hnew
    have HXE := Lib.hid hXe
    have hsize2 : (X ++ ba).size = ba.size + 1 := by
      have : (X ++ ba).size = X.size + ba.size := by simp
      omega
    have HS2 := Lib.hid hsize2
    have HD := Lib.hid hd
    have HQ2 := Lib.hid hq2
    have HX := Lib.hid hX
    clear hnew hX hsn hdone hall hinv hXe hsize2 hd hq2 HAT HLET
    by_cases hz : q2 = 0
    · have hz0 : ((q2 : Int) == 0) = true := by simp; omega
      go_wp2_with fail
      go_ret
      refine ⟨⟨_, rfl, ?_⟩, rfl⟩
      rw [← HXE.out, HNEW.out, if_pos hz, List.nil_append]
    · have hz0 : ((q2 : Int) == 0) = false := by simp; omega
      go_wp2_with fail
      have hq19 : q2 < 10 ^ (19 - (ba.size + 1)) := by
        have h1 : 10 ^ (19 - ba.size) = 10 ^ (19 - (ba.size + 1)) * 10 := by rw [← Nat.pow_succ]; congr 1; omega
        have := HQ2.out
        omega
      have hb18 : ba.size + 1 ≤ 18 := by
        refine Nat.le_of_not_lt fun h => ?_
        have h0 : 19 - (ba.size + 1) = 0 := by omega
        rw [h0, Nat.pow_zero] at hq19
        omega
      go_roundg q2
      case measure => have := HQ2.out; omega
      case rel =>
        rw [← HXE.out]
        exact ⟨X ++ ba, rfl, rfl, by rw [HS2.out]; exact hq19, by rw [HS2.out]; exact hb18, Or.inr ⟨by omega, by rw [HNEW.out, if_neg hz]⟩, rfl⟩

end Go.Proofs.YthfjpofbaeeafaaDoor
