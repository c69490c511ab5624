/- Contract of the place table of impl (at): which constant stands at a place. No condition. -/
import Derived.Test.YtabjfjcaackelaaDoorRows
import Derived.Test.YtabjfjcaackelaaDoorLaws
namespace Go.Proofs.YtabjfjcaackelaaDoor
open Go.RowKit

/-- The value of the constant at a place. -/
def tokAt (k : Int) : Int := if k < 0 then 0 else if k < 3 then k else if k < 9 then k + 1 else if k < 56 then k + 3 else if k < 81 then k + 5 else if k = 81 then 88 else 0

def toks : List Value := (List.range 82).map fun (i : Nat) => Value.int .i64 (tokAt (i : Int))
def tokCells : Array Value := toks.toArray
def zeroCells : Array Value := (List.replicate 82 (Value.int .i64 0)).toArray

theorem toks_get (i : Nat) (h : i < 82) : toks[i]? = some (.int .i64 (tokAt (i : Int))) := by
  unfold toks
  rw [List.getElem?_map, List.getElem?_range h]
  rfl
theorem tokCells_size : tokCells.size = 82 := by kernel_rfl
theorem zeroCells_size : zeroCells.size = 82 := by kernel_rfl
theorem tokCells_one : tokCells.all (·.oneCell') = true := by kernel_rfl
theorem tokSize : (Tryd.prog.info? 44).map (·.size) = some 82 := by kernel_rfl

set_option maxRecDepth 100000 in
set_option maxHeartbeats 1000000 in
theorem at_out (k : Int) (w : World) (h : k < 0 ∨ 82 ≤ k) :
    Calls Tryd.prog 21 #[.int .i64 k] w fun e w' => e = .returned (.int .i64 0) ∧ Below w.heap.size w w' := by
  rcases h with h | h
  · go_enter Tryd.func21, Tryd.ntmps21
    go_wp2_with (first | (refine wpList_run rfl (some 4) rfl (.agg tokCells) w ?_ ?_; kernel_rfl) | (refine wpList_run rfl (some 3) rfl (.pointer (some ⟨w.heap.size, 0, none⟩)) (w.alloc (.cells zeroCells 44)) ?_ ?_; kernel_rfl) | (refine wpList_store_new rfl 44 (.tmp 3) (.tmp 4) rfl rfl tokCells 44 zeroCells rfl rfl tokSize ?_ tokCells_one ?_; (rw [tokCells_size, zeroCells_size])))
    go_ret
    exact ⟨rfl, below_new _ _⟩
  · have h' : ¬ k < 0 := by omega
    go_enter Tryd.func21, Tryd.ntmps21
    go_wp2_with (first | (refine wpList_run rfl (some 4) rfl (.agg tokCells) w ?_ ?_; kernel_rfl) | (refine wpList_run rfl (some 3) rfl (.pointer (some ⟨w.heap.size, 0, none⟩)) (w.alloc (.cells zeroCells 44)) ?_ ?_; kernel_rfl) | (refine wpList_store_new rfl 44 (.tmp 3) (.tmp 4) rfl rfl tokCells 44 zeroCells rfl rfl tokSize ?_ tokCells_one ?_; (rw [tokCells_size, zeroCells_size])))
    go_ret
    exact ⟨rfl, below_new _ _⟩

set_option maxRecDepth 100000 in
set_option maxHeartbeats 1000000 in
theorem at_in (k : Int) (w : World) (h0 : 0 ≤ k) (h1 : k < 82) :
    Calls Tryd.prog 21 #[.int .i64 k] w fun e w' => e = .returned (.int .i64 (tokAt k)) ∧ Below w.heap.size w w' := by
  have hc : (w.alloc (.cells tokCells 44)).cell? ⟨w.heap.size, k.toNat, none⟩ = some (.int .i64 (tokAt k)) := by
    refine (Row.new w tokCells 44 toks rfl).at k.toNat _ ?_
    rw [toks_get _ (by omega), Int.toNat_of_nonneg h0]
  have h0' : ¬ k < 0 := by omega
  have h1' : ¬ 82 ≤ k := by omega
  go_enter Tryd.func21, Tryd.ntmps21
  go_wp2_with (first | (refine wpList_run rfl (some 4) rfl (.agg tokCells) w ?_ ?_; kernel_rfl) | (refine wpList_run rfl (some 3) rfl (.pointer (some ⟨w.heap.size, 0, none⟩)) (w.alloc (.cells zeroCells 44)) ?_ ?_; kernel_rfl) | (refine wpList_store_new rfl 44 (.tmp 3) (.tmp 4) rfl rfl tokCells 44 zeroCells rfl rfl tokSize ?_ tokCells_one ?_; (rw [tokCells_size, zeroCells_size])))
  go_ret
  exact ⟨rfl, below_new _ _⟩

theorem tokAt_out (k : Int) (h : k < 0 ∨ 82 ≤ k) : tokAt k = 0 := by
  unfold tokAt
  split
  · rfl
  · repeat (split; omega)
    rfl

/-- The constant at a place, for every number. -/
theorem at_any (k : Int) (w : World) :
    Calls Tryd.prog 21 #[.int .i64 k] w fun e w' => e = .returned (.int .i64 (tokAt k)) ∧ Below w.heap.size w w' := by
  by_cases h : k < 0 ∨ 82 ≤ k
  · rw [tokAt_out k h]; exact at_out k w h
  · exact at_in k w (by omega) (by omega)

end Go.Proofs.YtabjfjcaackelaaDoor
