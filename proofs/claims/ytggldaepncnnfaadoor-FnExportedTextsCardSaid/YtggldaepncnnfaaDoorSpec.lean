/- Contracts of the reference: places, kinds, texts. No condition. -/
import Derived.Test.YtggldaepncnnfaaDoorRows
import Derived.Test.YtggldaepncnnfaaDoorTxt
import Derived.Test.YtggldaepncnnfaaDoorKinds
namespace Go.Proofs.YtggldaepncnnfaaDoor
open Go.RowKit

def nameCells : Array Value := (strVs nameL).toArray
def opCells : Array Value := (strVs opL).toArray
def kwCells : Array Value := (strVs kwL).toArray

/-- A slice literal in a new block: its value, its cells. -/
def NewRow (w : World) (n : Nat) (l : List Value) (e : Ending) (w' : World) : Prop :=
  e = .returned (.slice (some ⟨w.heap.size, 0, none⟩) n n) ∧ Below w.heap.size w w' ∧ Row w' w.heap.size l

set_option maxRecDepth 100000 in
set_option maxHeartbeats 400000 in
theorem specNames (w : World) : Calls Tryd.prog 18 #[] w (NewRow w 9 (strVs nameL)) := by
  go_enter Tryd.func18, Tryd.ntmps18
  go_wp2_with (refine wpList_run rfl (some 1) rfl (.slice (some ⟨w.heap.size, 0, none⟩) 9 9) (w.alloc (.cells nameCells 9)) ?_ ?_; kernel_rfl)
  go_ret
  exact ⟨rfl, below_new _ _, Row.new _ _ _ _ rfl⟩
set_option maxRecDepth 100000 in
set_option maxHeartbeats 400000 in
theorem specOperators (w : World) : Calls Tryd.prog 19 #[] w (NewRow w 47 (strVs opL)) := by
  go_enter Tryd.func19, Tryd.ntmps19
  go_wp2_with (refine wpList_run rfl (some 1) rfl (.slice (some ⟨w.heap.size, 0, none⟩) 47 47) (w.alloc (.cells opCells 9)) ?_ ?_; kernel_rfl)
  go_ret
  exact ⟨rfl, below_new _ _, Row.new _ _ _ _ rfl⟩
set_option maxRecDepth 100000 in
set_option maxHeartbeats 400000 in
theorem specKeywords (w : World) : Calls Tryd.prog 20 #[] w (NewRow w 25 (strVs kwL)) := by
  go_enter Tryd.func20, Tryd.ntmps20
  go_wp2_with (refine wpList_run rfl (some 1) rfl (.slice (some ⟨w.heap.size, 0, none⟩) 25 25) (w.alloc (.cells kwCells 9)) ?_ ?_; kernel_rfl)
  go_ret
  exact ⟨rfl, below_new _ _, Row.new _ _ _ _ rfl⟩
set_option maxHeartbeats 400000 in
theorem specPlace (k : Int) (w : World) :
    Calls Tryd.prog 17 #[.int .i64 k] w fun e w' => e = .returned (.int .i64 (place k)) ∧ w = w' := by
  by_cases h : k < 0
  · go_enter Tryd.func17, Tryd.ntmps17
    go_wp2
    go_ret
    exact ⟨ret_int (by unfold place; rw [if_pos (by omega)]), rfl⟩
  · by_cases h2 : 82 ≤ k
    · go_enter Tryd.func17, Tryd.ntmps17
      go_wp2
      go_ret
      exact ⟨ret_int (by unfold place; rw [if_pos (by omega)]), rfl⟩
    · go_enter Tryd.func17, Tryd.ntmps17
      go_wp2
      go_ret
      exact ⟨ret_int (by unfold place; rw [if_neg (by omega)]), rfl⟩
set_option maxHeartbeats 400000 in
theorem specIsOperator (k : Int) (w : World) :
    Calls Tryd.prog 10 #[.int .i64 k] w fun e w' => e = .returned (.bool (opB k)) ∧ Below w.heap.size w w' := by
  have hp := place_cases k
  have hr := place_range k
  by_cases h1 : 9 ≤ place k
  · by_cases h2 : place k < 56
    all_goals
      go_enter Tryd.func10, Tryd.ntmps10
      go_wp2_with fail
      refine (specPlace k _).mono ?_
      rintro e w1 ⟨rfl, rfl⟩
      go_wp2_with fail
      refine (specNames _).mono ?_
      rintro e w1 ⟨rfl, hb1, _⟩
      go_wp2_with fail
      refine (specOperators _).mono ?_
      rintro e w2 ⟨rfl, hb2, _⟩
      go_wp2_with fail
      go_ret
      exact ⟨ret_bool (by unfold opB; rw [Bool.eq_iff_iff]; simp; omega), below_step hb1 hb2⟩
  · go_enter Tryd.func10, Tryd.ntmps10
    go_wp2_with fail
    refine (specPlace k _).mono ?_
    rintro e w1 ⟨rfl, rfl⟩
    go_wp2_with fail
    refine (specNames _).mono ?_
    rintro e w1 ⟨rfl, hb1, _⟩
    go_wp2_with fail
    go_ret
    exact ⟨ret_bool (by unfold opB; rw [Bool.eq_iff_iff]; simp; omega), hb1⟩
theorem specIsOperatorAt (k : Int) (b : Bool) (hb : opB k = b) (w : World) :
    Calls Tryd.prog 10 #[.int .i64 k] w fun e w' => e = .returned (.bool b) ∧ Below w.heap.size w w' := hb ▸ specIsOperator k w
set_option maxHeartbeats 400000 in
theorem specIsKeyword (k : Int) (w : World) :
    Calls Tryd.prog 11 #[.int .i64 k] w fun e w' => e = .returned (.bool (kwB k)) ∧ Below w.heap.size w w' := by
  have hp := place_cases k
  have hr := place_range k
  by_cases h1 : 56 ≤ place k
  · by_cases h2 : place k < 81
    all_goals
      go_enter Tryd.func11, Tryd.ntmps11
      go_wp2_with fail
      refine (specPlace k _).mono ?_
      rintro e w1 ⟨rfl, rfl⟩
      go_wp2_with fail
      refine (specNames _).mono ?_
      rintro e w1 ⟨rfl, hb1, _⟩
      go_wp2_with fail
      refine (specOperators _).mono ?_
      rintro e w2 ⟨rfl, hb2, _⟩
      go_wp2_with fail
      refine (specKeywords _).mono ?_
      rintro e w3 ⟨rfl, hb3, _⟩
      go_wp2_with fail
      go_ret
      exact ⟨ret_bool (by unfold kwB; rw [Bool.eq_iff_iff]; simp; omega), below_step (below_step hb1 hb2) hb3⟩
  · go_enter Tryd.func11, Tryd.ntmps11
    go_wp2_with fail
    refine (specPlace k _).mono ?_
    rintro e w1 ⟨rfl, rfl⟩
    go_wp2_with fail
    refine (specNames _).mono ?_
    rintro e w1 ⟨rfl, hb1, _⟩
    go_wp2_with fail
    refine (specOperators _).mono ?_
    rintro e w2 ⟨rfl, hb2, _⟩
    go_wp2_with fail
    go_ret
    exact ⟨ret_bool (by unfold kwB; rw [Bool.eq_iff_iff]; simp; omega), below_step hb1 hb2⟩
theorem specIsKeywordAt (k : Int) (b : Bool) (hb : kwB k = b) (w : World) :
    Calls Tryd.prog 11 #[.int .i64 k] w fun e w' => e = .returned (.bool b) ∧ Below w.heap.size w w' := hb ▸ specIsKeyword k w

end Go.Proofs.YtggldaepncnnfaaDoor
