/- Contract of the reference's Lookup at the text of a keyword: its place. -/
import Derived.Test.YtdaachmjnenlaaaDoorSpec
import Derived.Test.YtdaachmjnenlaaaDoorString
namespace Go.Proofs.YtdaachmjnenlaaaDoor
open Go.RowKit

theorem txt_apart_all : ∀ i j : Fin 82, i ≠ j → txtL.getD i.val [] ≠ txtL.getD j.val [] := by decide +kernel
theorem txt_apart (a b : Int) (h : place a ≠ place b) : txtB a ≠ txtB b := by
  have ha := place_range a
  have hb := place_range b
  refine txt_apart_all ⟨(place a).toNat, by omega⟩ ⟨(place b).toNat, by omega⟩ ?_
  intro he
  have := congrArg Fin.val he
  simp only at this
  omega

set_option maxHeartbeats 1000000 in
theorem specLookup (k : Int) (h0 : 56 ≤ k) (h1 : k ≤ 80) (w : World) :
    Calls Tryd.prog 25 #[.string (txt k)] w fun e w' => e = .returned (.int .i64 k) ∧ Below w.heap.size w w' := by
  go_enter Tryd.func25, Tryd.ntmps25
  go_wp2_with fail
  go_loopw [4] (fun i wr => ∃ j : Nat, (j : Int) ≤ k ∧ i = .int .i64 (j : Int) ∧ Below w.heap.size w wr) (fun i _ => 82 - (intOf i).toNat)
  case atStart => exact ⟨0, by omega, rfl, Below.refl _ _⟩
  case round =>
    obtain ⟨j, hj, rfl, hb⟩ := hrel
    by_cases hlt : (j : Int) < 56
    · have K : Hid (kwB (j : Int) = false) := by show kwB (j : Int) = false; unfold kwB; simp; omega
      go_wp2_with fail
      refine (specIsKeywordAt _ _ K.out _).mono ?_
      rintro e w1 ⟨rfl, hb1⟩
      go_wp2_with fail
      go_roundw
      case rel => exact ⟨j + 1, by omega, by go_num, below_step hb hb1⟩
      case measure => simp [intOf]; omega
    · have K : Hid (kwB (j : Int) = true) := by show kwB (j : Int) = true; unfold kwB; simp; omega
      by_cases heq : (j : Int) = k
      · have E := Lib.hid heq
        clear heq
        go_wp2_with fail
        refine (specIsKeywordAt _ _ K.out _).mono ?_
        rintro e w1 ⟨rfl, hb1⟩
        go_wp2_with fail
        refine (specString _ _).mono ?_
        rintro e w2 ⟨rfl, hb2⟩
        have hq : (txtB (j : Int) == txtB k) = true := by rw [E.out]; simp
        go_wp2_with fail
        go_ret
        exact ⟨ret_int E.out, below_step (below_step hb hb1) hb2⟩
      · have hq : (txtB (j : Int) == txtB k) = false := by
          have := txt_apart (j : Int) k (by have := place_cases (j : Int); have := place_cases k; omega)
          simpa using this
        have hlt2 : (j : Int) < k := by omega
        clear heq
        go_wp2_with fail
        refine (specIsKeywordAt _ _ K.out _).mono ?_
        rintro e w1 ⟨rfl, hb1⟩
        go_wp2_with fail
        refine (specString _ _).mono ?_
        rintro e w2 ⟨rfl, hb2⟩
        go_wp2_with fail
        go_roundw
        case rel => exact ⟨j + 1, by omega, by go_num, below_step (below_step hb hb1) hb2⟩
        case measure => simp [intOf]; omega
end Go.Proofs.YtdaachmjnenlaaaDoor
