/- Contracts of the kinds and the precedence of a token, and of impl's functions over them. No condition. -/
import Derived.Test.YtggldaepncnnfaaDoorBase
namespace Go.Proofs.YtggldaepncnnfaaDoor
open Go.RowKit

theorem ret_int {k : IntKind} {a b : Int} (h : a = b) : Ending.returned (.int k a) = .returned (.int k b) := by rw [h]
theorem ret_bool {a b : Bool} (h : a = b) : Ending.returned (.bool a) = .returned (.bool b) := by rw [h]

/-- The kinds by place; 'iopB': with the last place. -/
def kwB (k : Int) : Bool := decide (56 ≤ k ∧ k ≤ 80)
def litB (k : Int) : Bool := decide (3 ≤ k ∧ k ≤ 8)
def opB (k : Int) : Bool := decide (9 ≤ k ∧ k ≤ 55)
def iopB (k : Int) : Bool := decide (9 ≤ k ∧ k ≤ 55 ∨ k = 81)

/-- Precedence by the constant's value. -/
def tprec (t : Int) : Int :=
  if t = 35 then 1 else if t = 34 then 2
  else if t = 39 ∨ t = 44 ∨ t = 40 ∨ t = 45 ∨ t = 41 ∨ t = 46 then 3
  else if t = 12 ∨ t = 13 ∨ t = 18 ∨ t = 19 then 4
  else if t = 14 ∨ t = 15 ∨ t = 16 ∨ t = 20 ∨ t = 21 ∨ t = 17 ∨ t = 22 then 5 else 0
/-- Precedence by place. -/
def prec (k : Int) : Int := tprec (tokAt k)

theorem tok_cases (k : Int) : (k < 0 ∧ tokAt k = 0) ∨ (0 ≤ k ∧ k < 3 ∧ tokAt k = k) ∨ (3 ≤ k ∧ k < 9 ∧ tokAt k = k + 1) ∨ (9 ≤ k ∧ k < 56 ∧ tokAt k = k + 3) ∨ (56 ≤ k ∧ k < 81 ∧ tokAt k = k + 5) ∨ (k = 81 ∧ tokAt k = 88) ∨ (82 ≤ k ∧ tokAt k = 0) := by
  unfold tokAt
  repeat' split
  all_goals omega
theorem tprec_range (t : Int) : 0 ≤ tprec t ∧ tprec t ≤ 5 := by
  unfold tprec
  repeat' split
  all_goals omega
theorem prec_range (k : Int) : 0 ≤ prec k ∧ prec k ≤ 5 := tprec_range _


end Go.Proofs.YtggldaepncnnfaaDoor
