/- Contracts of the kinds and the precedence of a token, and of impl's functions over them. No condition. -/
import Derived.Test.YtabjfjcaackelaaDoorBase
namespace Go.Proofs.YtabjfjcaackelaaDoor
open Go.RowKit

theorem ret_int {k : IntKind} {a b : Int} (h : a = b) : Ending.returned (.int k a) = .returned (.int k b) := by rw [h]
theorem ret_bool {a b : Bool} (h : a = b) : Ending.returned (.bool a) = .returned (.bool b) := by rw [h]

/-- The kinds by place; 'iopB': with the last place. -/
def kwB (k : Int) : Bool := decide (56 ≤ k ∧ k ≤ 80)
def litB (k : Int) : Bool := decide (3 ≤ k ∧ k ≤ 8)
def opB (k : Int) : Bool := decide (9 ≤ k ∧ k ≤ 55)
def iopB (k : Int) : Bool := decide (9 ≤ k ∧ k ≤ 55 ∨ k = 81)

/-- Precedence by the constant's value. -/
def tprec (t : Int) : Int :=
  if t = 35 then 1 else if t = 34 then 2
  else if t = 39 ∨ t = 44 ∨ t = 40 ∨ t = 45 ∨ t = 41 ∨ t = 46 then 3
  else if t = 12 ∨ t = 13 ∨ t = 18 ∨ t = 19 then 4
  else if t = 14 ∨ t = 15 ∨ t = 16 ∨ t = 20 ∨ t = 21 ∨ t = 17 ∨ t = 22 then 5 else 0
/-- Precedence by place. -/
def prec (k : Int) : Int := tprec (tokAt k)

theorem tok_cases (k : Int) : (k < 0 ∧ tokAt k = 0) ∨ (0 ≤ k ∧ k < 3 ∧ tokAt k = k) ∨ (3 ≤ k ∧ k < 9 ∧ tokAt k = k + 1) ∨ (9 ≤ k ∧ k < 56 ∧ tokAt k = k + 3) ∨ (56 ≤ k ∧ k < 81 ∧ tokAt k = k + 5) ∨ (k = 81 ∧ tokAt k = 88) ∨ (82 ≤ k ∧ tokAt k = 0) := by
  unfold tokAt
  repeat' split
  all_goals omega
theorem tprec_range (t : Int) : 0 ≤ tprec t ∧ tprec t ≤ 5 := by
  unfold tprec
  repeat' split
  all_goals omega
theorem prec_range (k : Int) : 0 ≤ prec k ∧ prec k ≤ 5 := tprec_range _

set_option maxHeartbeats 400000 in
theorem tokIsOperator (t : Int) (w : World) :
    Calls Tryd.prog 24 #[.int .i64 t] w fun e w' => e = .returned (.bool (decide (11 < t ∧ t < 59 ∨ t = 88))) ∧ w = w' := by
  by_cases h1 : 11 < t <;> by_cases h2 : t < 59 <;> by_cases h3 : t = 88
  all_goals try (exfalso; omega)
  all_goals
    first | subst h3 | (have h4 : (t == 88) = false := beq_eq_false_iff_ne.2 h3)
    go_enter Tryd.func24, Tryd.ntmps24
    go_wp2
    go_ret
    exact ⟨by first | (simp [h1, h2, h3]; done) | simp, rfl⟩
set_option maxHeartbeats 400000 in
theorem implIsOperator (k : Int) (w : World) :
    Calls Tryd.prog 13 #[.int .i64 k] w fun e w' => e = .returned (.bool (iopB k)) ∧ Below w.heap.size w w' := by
  have hb : decide (11 < tokAt k ∧ tokAt k < 59 ∨ tokAt k = 88) = iopB k := by
    unfold iopB; rw [decide_eq_decide]; have := tok_cases k; omega
  have Hb := Lib.hid hb
  clear hb
  go_enter Tryd.func13, Tryd.ntmps13
  go_wp2_with fail
  refine (at_any k _).mono ?_
  rintro e w1 ⟨rfl, hb1⟩
  go_wp2_with fail
  refine (tokIsOperator _ _).mono ?_
  rintro e w2 ⟨rfl, rfl⟩
  go_wp2_with fail
  go_ret
  exact ⟨ret_bool (by rw [← Hb.out]; simp), hb1⟩
theorem implIsOperatorAt (k : Int) (b : Bool) (hb : iopB k = b) (w : World) :
    Calls Tryd.prog 13 #[.int .i64 k] w fun e w' => e = .returned (.bool b) ∧ Below w.heap.size w w' := hb ▸ implIsOperator k w
set_option maxHeartbeats 1000000 in
theorem tokPrecedence (t : Int) (w : World) :
    Calls Tryd.prog 29 #[.int .i64 t] w fun e w' => e = .returned (.int .i64 (tprec t)) ∧ w = w' := by
  go_enter Tryd.func29, Tryd.ntmps29
  go_wp2
  all_goals
    go_ret
    exact ⟨ret_int (by simp_all [tprec]), rfl⟩
set_option maxHeartbeats 400000 in
theorem implPrecedence (k : Int) (w : World) :
    Calls Tryd.prog 17 #[.int .i64 k] w fun e w' => e = .returned (.int .i64 (prec k)) ∧ Below w.heap.size w w' := by
  go_enter Tryd.func17, Tryd.ntmps17
  go_wp2_with fail
  refine (at_any k _).mono ?_
  rintro e w1 ⟨rfl, hb1⟩
  go_wp2_with fail
  refine (tokPrecedence _ _).mono ?_
  rintro e w2 ⟨rfl, rfl⟩
  go_wp2_with fail
  go_ret
  exact ⟨rfl, hb1⟩
theorem implPrecedenceAt (k n : Int) (hn : prec k = n) (w : World) :
    Calls Tryd.prog 17 #[.int .i64 k] w fun e w' => e = .returned (.int .i64 n) ∧ Below w.heap.size w w' := hn ▸ implPrecedence k w

end Go.Proofs.YtabjfjcaackelaaDoor
