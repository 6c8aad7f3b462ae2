/-
  fmtEFG for the verbs g and G: which form it takes.
-/
import Derived.Test.YthfjpofbaeeafaaDoorEL
namespace Go.Proofs.YthfjpofbaeeafaaDoor
open Go.RowKit

/-- The precision that decides between the two forms. -/
def gEp (sh : Bool) (dp : Int) (nd prec : Nat) : Int := if sh then 6 else if nd < prec ∧ dp ≤ nd then nd else prec
/-- With an exponent? -/
def gE (sh : Bool) (dp : Int) (nd prec : Nat) : Bool := decide (dp - 1 < -4 ∨ gEp sh dp nd prec ≤ dp - 1)

theorem gE_yes {sh : Bool} {dp : Int} {nd prec : Nat} (h : gE sh dp nd prec = true) : dp - 1 < -4 ∨ gEp sh dp nd prec ≤ dp - 1 := of_decide_eq_true h
theorem gE_no {sh : Bool} {dp : Int} {nd prec : Nat} (h : gE sh dp nd prec = false) : ¬ (dp - 1 < -4 ∨ gEp sh dp nd prec ≤ dp - 1) := of_decide_eq_false h
theorem nd_pos {sh : Bool} {dp : Int} {nd prec : Nat} (h0 : nd = 0 → dp = 0) (hp : 1 ≤ prec) (h : gE sh dp nd prec = true) : 1 ≤ nd := by
  rcases Nat.eq_zero_or_pos nd with h1 | h1
  · exfalso
    have h2 := h0 h1
    unfold gE at h
    have h3 := of_decide_eq_true h
    subst h2
    subst h1
    unfold gEp at h3
    cases sh
    · rw [if_neg (by decide), if_pos ⟨by omega, by omega⟩] at h3
      omega
    · rw [if_pos rfl] at h3
      omega
  · exact h1

end Go.Proofs.YthfjpofbaeeafaaDoor
