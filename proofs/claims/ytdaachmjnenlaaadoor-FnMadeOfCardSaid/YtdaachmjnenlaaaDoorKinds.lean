/- Contracts of the kinds and the precedence of a token, and of impl's functions over them. No condition. -/
import Derived.Test.YtdaachmjnenlaaaDoorBase
namespace Go.Proofs.YtdaachmjnenlaaaDoor
open Go.RowKit

theorem ret_int {k : IntKind} {a b : Int} (h : a = b) : Ending.returned (.int k a) = .returned (.int k b) := by rw [h]
theorem ret_bool {a b : Bool} (h : a = b) : Ending.returned (.bool a) = .returned (.bool b) := by rw [h]

/-- The kinds by place; 'iopB': with the last place. -/
def kwB (k : Int) : Bool := decide (56 ≤ k ∧ k ≤ 80)
def litB (k : Int) : Bool := decide (3 ≤ k ∧ k ≤ 8)
def opB (k : Int) : Bool := decide (9 ≤ k ∧ k ≤ 55)
def iopB (k : Int) : Bool := decide (9 ≤ k ∧ k ≤ 55 ∨ k = 81)

/-- Precedence by the constant's value. -/
def tprec (t : Int) : Int :=
  if t = 35 then 1 else if t = 34 then 2
  else if t = 39 ∨ t = 44 ∨ t = 40 ∨ t = 45 ∨ t = 41 ∨ t = 46 then 3
  else if t = 12 ∨ t = 13 ∨ t = 18 ∨ t = 19 then 4
  else if t = 14 ∨ t = 15 ∨ t = 16 ∨ t = 20 ∨ t = 21 ∨ t = 17 ∨ t = 22 then 5 else 0
/-- Precedence by place. -/
def prec (k : Int) : Int := tprec (tokAt k)

theorem tok_cases (k : Int) : (k < 0 ∧ tokAt k = 0) ∨ (0 ≤ k ∧ k < 3 ∧ tokAt k = k) ∨ (3 ≤ k ∧ k < 9 ∧ tokAt k = k + 1) ∨ (9 ≤ k ∧ k < 56 ∧ tokAt k = k + 3) ∨ (56 ≤ k ∧ k < 81 ∧ tokAt k = k + 5) ∨ (k = 81 ∧ tokAt k = 88) ∨ (82 ≤ k ∧ tokAt k = 0) := by
  unfold tokAt
  repeat' split
  all_goals omega
theorem tprec_range (t : Int) : 0 ≤ tprec t ∧ tprec t ≤ 5 := by
  unfold tprec
  repeat' split
  all_goals omega
theorem prec_range (k : Int) : 0 ≤ prec k ∧ prec k ≤ 5 := tprec_range _

set_option maxHeartbeats 400000 in
theorem tokIsKeyword (t : Int) (w : World) :
    Calls Tryd.prog 34 #[.int .i64 t] w fun e w' => e = .returned (.bool (decide (60 < t ∧ t < 86))) ∧ w = w' := by
  by_cases h1 : 60 < t <;> by_cases h2 : t < 86
  all_goals
    go_enter Tryd.func34, Tryd.ntmps34
    go_wp2
    go_ret
    exact ⟨by simp [h1, h2], rfl⟩
set_option maxHeartbeats 400000 in
theorem implIsKeyword (k : Int) (w : World) :
    Calls Tryd.prog 23 #[.int .i64 k] w fun e w' => e = .returned (.bool (kwB k)) ∧ Below w.heap.size w w' := by
  have hb : decide (60 < tokAt k ∧ tokAt k < 86) = kwB k := by
    unfold kwB; rw [decide_eq_decide]; have := tok_cases k; omega
  have Hb := Lib.hid hb
  clear hb
  go_enter Tryd.func23, Tryd.ntmps23
  go_wp2_with fail
  refine (at_any k _).mono ?_
  rintro e w1 ⟨rfl, hb1⟩
  go_wp2_with fail
  refine (tokIsKeyword _ _).mono ?_
  rintro e w2 ⟨rfl, rfl⟩
  go_wp2_with fail
  go_ret
  exact ⟨ret_bool (by rw [← Hb.out]; simp), hb1⟩
/-- The same, its answer named. -/
theorem implIsKeywordAt (k : Int) (b : Bool) (hb : kwB k = b) (w : World) :
    Calls Tryd.prog 23 #[.int .i64 k] w fun e w' => e = .returned (.bool b) ∧ Below w.heap.size w w' := hb ▸ implIsKeyword k w
set_option maxHeartbeats 400000 in
theorem tokIsLiteral (t : Int) (w : World) :
    Calls Tryd.prog 36 #[.int .i64 t] w fun e w' => e = .returned (.bool (decide (3 < t ∧ t < 10))) ∧ w = w' := by
  by_cases h1 : 3 < t <;> by_cases h2 : t < 10
  all_goals
    go_enter Tryd.func36, Tryd.ntmps36
    go_wp2
    go_ret
    exact ⟨by simp [h1, h2], rfl⟩
set_option maxHeartbeats 400000 in
theorem implIsLiteral (k : Int) (w : World) :
    Calls Tryd.prog 29 #[.int .i64 k] w fun e w' => e = .returned (.bool (litB k)) ∧ Below w.heap.size w w' := by
  have hb : decide (3 < tokAt k ∧ tokAt k < 10) = litB k := by
    unfold litB; rw [decide_eq_decide]; have := tok_cases k; omega
  have Hb := Lib.hid hb
  clear hb
  go_enter Tryd.func29, Tryd.ntmps29
  go_wp2_with fail
  refine (at_any k _).mono ?_
  rintro e w1 ⟨rfl, hb1⟩
  go_wp2_with fail
  refine (tokIsLiteral _ _).mono ?_
  rintro e w2 ⟨rfl, rfl⟩
  go_wp2_with fail
  go_ret
  exact ⟨ret_bool (by rw [← Hb.out]; simp), hb1⟩
theorem implIsLiteralAt (k : Int) (b : Bool) (hb : litB k = b) (w : World) :
    Calls Tryd.prog 29 #[.int .i64 k] w fun e w' => e = .returned (.bool b) ∧ Below w.heap.size w w' := hb ▸ implIsLiteral k w
set_option maxHeartbeats 400000 in
theorem tokIsOperator (t : Int) (w : World) :
    Calls Tryd.prog 33 #[.int .i64 t] w fun e w' => e = .returned (.bool (decide (11 < t ∧ t < 59 ∨ t = 88))) ∧ w = w' := by
  by_cases h1 : 11 < t <;> by_cases h2 : t < 59 <;> by_cases h3 : t = 88
  all_goals try (exfalso; omega)
  all_goals
    first | subst h3 | (have h4 : (t == 88) = false := beq_eq_false_iff_ne.2 h3)
    go_enter Tryd.func33, Tryd.ntmps33
    go_wp2
    go_ret
    exact ⟨by first | (simp [h1, h2, h3]; done) | simp, rfl⟩
set_option maxHeartbeats 400000 in
theorem implIsOperator (k : Int) (w : World) :
    Calls Tryd.prog 21 #[.int .i64 k] w fun e w' => e = .returned (.bool (iopB k)) ∧ Below w.heap.size w w' := by
  have hb : decide (11 < tokAt k ∧ tokAt k < 59 ∨ tokAt k = 88) = iopB k := by
    unfold iopB; rw [decide_eq_decide]; have := tok_cases k; omega
  have Hb := Lib.hid hb
  clear hb
  go_enter Tryd.func21, Tryd.ntmps21
  go_wp2_with fail
  refine (at_any k _).mono ?_
  rintro e w1 ⟨rfl, hb1⟩
  go_wp2_with fail
  refine (tokIsOperator _ _).mono ?_
  rintro e w2 ⟨rfl, rfl⟩
  go_wp2_with fail
  go_ret
  exact ⟨ret_bool (by rw [← Hb.out]; simp), hb1⟩
theorem implIsOperatorAt (k : Int) (b : Bool) (hb : iopB k = b) (w : World) :
    Calls Tryd.prog 21 #[.int .i64 k] w fun e w' => e = .returned (.bool b) ∧ Below w.heap.size w w' := hb ▸ implIsOperator k w
set_option maxHeartbeats 1000000 in
theorem tokPrecedence (t : Int) (w : World) :
    Calls Tryd.prog 28 #[.int .i64 t] w fun e w' => e = .returned (.int .i64 (tprec t)) ∧ w = w' := by
  go_enter Tryd.func28, Tryd.ntmps28
  go_wp2
  all_goals
    go_ret
    exact ⟨ret_int (by simp_all [tprec]), rfl⟩
set_option maxHeartbeats 400000 in
theorem implPrecedence (k : Int) (w : World) :
    Calls Tryd.prog 16 #[.int .i64 k] w fun e w' => e = .returned (.int .i64 (prec k)) ∧ Below w.heap.size w w' := by
  go_enter Tryd.func16, Tryd.ntmps16
  go_wp2_with fail
  refine (at_any k _).mono ?_
  rintro e w1 ⟨rfl, hb1⟩
  go_wp2_with fail
  refine (tokPrecedence _ _).mono ?_
  rintro e w2 ⟨rfl, rfl⟩
  go_wp2_with fail
  go_ret
  exact ⟨rfl, hb1⟩
theorem implPrecedenceAt (k n : Int) (hn : prec k = n) (w : World) :
    Calls Tryd.prog 16 #[.int .i64 k] w fun e w' => e = .returned (.int .i64 n) ∧ Below w.heap.size w w' := hn ▸ implPrecedence k w

end Go.Proofs.YtdaachmjnenlaaaDoor
