/- Contract of laws.every: true where a text is not empty and all its bytes lie between two. -/
import Derived.Test.YtdaachmjnenlaaaDoorLaws
import Derived.Test.YtdaachmjnenlaaaDoorRows
import Derived.Test.YtdaachmjnenlaaaDoorTxt
import Derived.Test.YtdaachmjnenlaaaDoorKinds
import Derived.Test.YtdaachmjnenlaaaDoorString
namespace Go.Proofs.YtdaachmjnenlaaaDoor
open Go.RowKit

def allIn (l : List UInt8) (lo hi : Int) : Bool := l.all fun c => decide (lo ≤ (c.toNat : Int) ∧ (c.toNat : Int) ≤ hi)

set_option maxHeartbeats 1000000 in
theorem everyTrue (k lo hi : Int) (h : allIn (txtB k) lo hi = true) (w : World) :
    Calls Tryd.prog 24 #[.string (txt k), .int .u8 lo, .int .u8 hi] w fun e w' => e = .returned (.bool true) ∧ w = w' := by
  have A : ∀ (i : Nat) (hi' : i < (txt k).size), lo ≤ ((txt k)[i].toNat : Int) ∧ ((txt k)[i].toNat : Int) ≤ hi := by
    intro i hi'
    have hm : (txt k)[i] ∈ txtB k := by
      show (txt k).data[i] ∈ txtB k
      have e : (txt k).data.toList = txtB k := rfl
      rw [← e]
      exact Array.getElem_mem_toList _
    have := (List.all_eq_true.1 h) _ hm
    simpa using this
  have HA := Lib.hid A
  clear A h
  have hl := txt_size k
  have NE := Lib.hid (txtB_ne k)
  go_enter Tryd.func24, Tryd.ntmps24
  go_wp2_with fail
  go_loop [10] (fun i => ∃ j : Nat, j ≤ (txt k).size ∧ i = .int .i64 (j : Int)) (fun i => (txt k).size - (intOf i).toNat)
  case atStart => exact ⟨0, by omega, rfl⟩
  case round =>
    obtain ⟨j, hj, rfl⟩ := hrel
    by_cases hlt : j < (txt k).size
    · obtain ⟨h1, h2⟩ := HA.out j hlt
      go_wp2_with fail
      go_round
      case rel => exact ⟨j + 1, by omega, by go_num⟩
      case measure => simp [intOf]; omega
    · go_wp2_with fail
      go_ret
      exact ⟨ret_bool (by rw [NE.out]; rfl), rfl⟩
end Go.Proofs.YtdaachmjnenlaaaDoor
