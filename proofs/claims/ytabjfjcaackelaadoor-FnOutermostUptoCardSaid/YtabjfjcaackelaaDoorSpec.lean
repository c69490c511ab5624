/- Contracts of the reference: places, kinds, texts. No condition. -/
import Derived.Test.YtabjfjcaackelaaDoorRows
import Derived.Test.YtabjfjcaackelaaDoorTxt
import Derived.Test.YtabjfjcaackelaaDoorKinds
namespace Go.Proofs.YtabjfjcaackelaaDoor
open Go.RowKit

def nameCells : Array Value := (strVs nameL).toArray
def opCells : Array Value := (strVs opL).toArray
def kwCells : Array Value := (strVs kwL).toArray

/-- A slice literal in a new block: its value, its cells. -/
def NewRow (w : World) (n : Nat) (l : List Value) (e : Ending) (w' : World) : Prop :=
  e = .returned (.slice (some ⟨w.heap.size, 0, none⟩) n n) ∧ Below w.heap.size w w' ∧ Row w' w.heap.size l

set_option maxRecDepth 100000 in
set_option maxHeartbeats 400000 in
theorem specNames (w : World) : Calls Tryd.prog 19 #[] w (NewRow w 9 (strVs nameL)) := by
  go_enter Tryd.func19, Tryd.ntmps19
  go_wp2_with (refine wpList_run rfl (some 1) rfl (.slice (some ⟨w.heap.size, 0, none⟩) 9 9) (w.alloc (.cells nameCells 9)) ?_ ?_; kernel_rfl)
  go_ret
  exact ⟨rfl, below_new _ _, Row.new _ _ _ _ rfl⟩
set_option maxRecDepth 100000 in
set_option maxHeartbeats 400000 in
theorem specOperators (w : World) : Calls Tryd.prog 20 #[] w (NewRow w 47 (strVs opL)) := by
  go_enter Tryd.func20, Tryd.ntmps20
  go_wp2_with (refine wpList_run rfl (some 1) rfl (.slice (some ⟨w.heap.size, 0, none⟩) 47 47) (w.alloc (.cells opCells 9)) ?_ ?_; kernel_rfl)
  go_ret
  exact ⟨rfl, below_new _ _, Row.new _ _ _ _ rfl⟩
set_option maxRecDepth 100000 in
set_option maxHeartbeats 400000 in
theorem specKeywords (w : World) : Calls Tryd.prog 31 #[] w (NewRow w 25 (strVs kwL)) := by
  go_enter Tryd.func31, Tryd.ntmps31
  go_wp2_with (refine wpList_run rfl (some 1) rfl (.slice (some ⟨w.heap.size, 0, none⟩) 25 25) (w.alloc (.cells kwCells 9)) ?_ ?_; kernel_rfl)
  go_ret
  exact ⟨rfl, below_new _ _, Row.new _ _ _ _ rfl⟩
set_option maxHeartbeats 400000 in
theorem specPlace (k : Int) (w : World) :
    Calls Tryd.prog 18 #[.int .i64 k] w fun e w' => e = .returned (.int .i64 (place k)) ∧ w = w' := by
  by_cases h : k < 0
  · go_enter Tryd.func18, Tryd.ntmps18
    go_wp2
    go_ret
    exact ⟨ret_int (by unfold place; rw [if_pos (by omega)]), rfl⟩
  · by_cases h2 : 82 ≤ k
    · go_enter Tryd.func18, Tryd.ntmps18
      go_wp2
      go_ret
      exact ⟨ret_int (by unfold place; rw [if_pos (by omega)]), rfl⟩
    · go_enter Tryd.func18, Tryd.ntmps18
      go_wp2
      go_ret
      exact ⟨ret_int (by unfold place; rw [if_neg (by omega)]), rfl⟩
set_option maxHeartbeats 400000 in
theorem specIsOperator (k : Int) (w : World) :
    Calls Tryd.prog 9 #[.int .i64 k] w fun e w' => e = .returned (.bool (opB k)) ∧ Below w.heap.size w w' := by
  have hp := place_cases k
  have hr := place_range k
  by_cases h1 : 9 ≤ place k
  · by_cases h2 : place k < 56
    all_goals
      go_enter Tryd.func9, Tryd.ntmps9
      go_wp2_with fail
      refine (specPlace k _).mono ?_
      rintro e w1 ⟨rfl, rfl⟩
      go_wp2_with fail
      refine (specNames _).mono ?_
      rintro e w1 ⟨rfl, hb1, _⟩
      go_wp2_with fail
      refine (specOperators _).mono ?_
      rintro e w2 ⟨rfl, hb2, _⟩
      go_wp2_with fail
      go_ret
      exact ⟨ret_bool (by unfold opB; rw [Bool.eq_iff_iff]; simp; omega), below_step hb1 hb2⟩
  · go_enter Tryd.func9, Tryd.ntmps9
    go_wp2_with fail
    refine (specPlace k _).mono ?_
    rintro e w1 ⟨rfl, rfl⟩
    go_wp2_with fail
    refine (specNames _).mono ?_
    rintro e w1 ⟨rfl, hb1, _⟩
    go_wp2_with fail
    go_ret
    exact ⟨ret_bool (by unfold opB; rw [Bool.eq_iff_iff]; simp; omega), hb1⟩
theorem specIsOperatorAt (k : Int) (b : Bool) (hb : opB k = b) (w : World) :
    Calls Tryd.prog 9 #[.int .i64 k] w fun e w' => e = .returned (.bool b) ∧ Below w.heap.size w w' := hb ▸ specIsOperator k w
set_option maxHeartbeats 1000000 in
theorem specString (k : Int) (w : World) :
    Calls Tryd.prog 23 #[.int .i64 k] w fun e w' => e = .returned (.string (txt k)) ∧ Below w.heap.size w w' := by
  have hr := place_range k
  by_cases h1 : place k < 9
  · have T := Lib.hid (txt_name k h1)
    go_enter Tryd.func23, Tryd.ntmps23
    go_wp2_with fail
    refine (specPlace k _).mono ?_
    rintro e w1 ⟨rfl, rfl⟩
    go_wp2_with fail
    refine (specNames _).mono ?_
    rintro e w1 ⟨rfl, hb1, _⟩
    go_wp2_with fail
    refine (specNames _).mono ?_
    rintro e w2 ⟨rfl, hb2, hrow⟩
    have hc := hrow.at _ _ T.out
    go_wp2_with fail
    go_ret
    exact ⟨rfl, below_step hb1 hb2⟩
  · by_cases h2 : place k - 9 < 47
    · have T := Lib.hid (txt_op k (by omega) h2)
      go_enter Tryd.func23, Tryd.ntmps23
      go_wp2_with fail
      refine (specPlace k _).mono ?_
      rintro e w1 ⟨rfl, rfl⟩
      go_wp2_with fail
      refine (specNames _).mono ?_
      rintro e w1 ⟨rfl, hb1, _⟩
      go_wp2_with fail
      refine (specNames _).mono ?_
      rintro e w2 ⟨rfl, hb2, _⟩
      go_wp2_with fail
      refine (specOperators _).mono ?_
      rintro e w3 ⟨rfl, hb3, _⟩
      go_wp2_with fail
      refine (specOperators _).mono ?_
      rintro e w4 ⟨rfl, hb4, hrow⟩
      have hc := hrow.at _ _ T.out
      go_wp2_with fail
      go_ret
      exact ⟨rfl, below_step (below_step (below_step hb1 hb2) hb3) hb4⟩
    · by_cases h3 : place k - 9 - 47 < 25
      · have T := Lib.hid (txt_kw k (by omega) h3)
        go_enter Tryd.func23, Tryd.ntmps23
        go_wp2_with fail
        refine (specPlace k _).mono ?_
        rintro e w1 ⟨rfl, rfl⟩
        go_wp2_with fail
        refine (specNames _).mono ?_
        rintro e w1 ⟨rfl, hb1, _⟩
        go_wp2_with fail
        refine (specNames _).mono ?_
        rintro e w2 ⟨rfl, hb2, _⟩
        go_wp2_with fail
        refine (specOperators _).mono ?_
        rintro e w3 ⟨rfl, hb3, _⟩
        go_wp2_with fail
        refine (specOperators _).mono ?_
        rintro e w4 ⟨rfl, hb4, _⟩
        go_wp2_with fail
        refine (specKeywords _).mono ?_
        rintro e w5 ⟨rfl, hb5, _⟩
        go_wp2_with fail
        refine (specKeywords _).mono ?_
        rintro e w6 ⟨rfl, hb6, hrow⟩
        have hc := hrow.at _ _ T.out
        go_wp2_with fail
        go_ret
        exact ⟨rfl, below_step (below_step (below_step (below_step (below_step hb1 hb2) hb3) hb4) hb5) hb6⟩
      · have T := Lib.hid (txt_last k (by omega))
        go_enter Tryd.func23, Tryd.ntmps23
        go_wp2_with fail
        refine (specPlace k _).mono ?_
        rintro e w1 ⟨rfl, rfl⟩
        go_wp2_with fail
        refine (specNames _).mono ?_
        rintro e w1 ⟨rfl, hb1, _⟩
        go_wp2_with fail
        refine (specNames _).mono ?_
        rintro e w2 ⟨rfl, hb2, _⟩
        go_wp2_with fail
        refine (specOperators _).mono ?_
        rintro e w3 ⟨rfl, hb3, _⟩
        go_wp2_with fail
        refine (specOperators _).mono ?_
        rintro e w4 ⟨rfl, hb4, _⟩
        go_wp2_with fail
        refine (specKeywords _).mono ?_
        rintro e w5 ⟨rfl, hb5, _⟩
        go_wp2_with fail
        go_ret
        exact ⟨by rw [T.out]; rfl, below_step (below_step (below_step (below_step hb1 hb2) hb3) hb4) hb5⟩

end Go.Proofs.YtabjfjcaackelaaDoor
