/- Contract of impl.String: the text at a place, where the library's table holds what its initialiser lays. -/
import Derived.Test.YtabjfjcaackelaaDoorTxt
import Derived.Test.YtabjfjcaackelaaDoorBase
namespace Go.Proofs.YtabjfjcaackelaaDoor
open Go.RowKit

theorem txtB_all : ∀ i : Fin 82, (txtL.getD i.val []).isEmpty = false := by decide +kernel
theorem txtB_ne (k : Int) : (txtB k).isEmpty = false := by
  have h := place_range k
  exact txtB_all ⟨(place k).toNat, by omega⟩

theorem txtB_len_all : ∀ i : Fin 82, (txtL.getD i.val []).length ≤ 11 := by decide +kernel
theorem txtB_len (k : Int) : (txtB k).length ≤ 11 := by
  have h := place_range k
  exact txtB_len_all ⟨(place k).toNat, by omega⟩
theorem txt_size_eq (k : Int) : (txt k).size = (txtB k).length := by
  show (txt k).data.size = _
  simp [txt]
theorem txt_size (k : Int) : (txt k).size ≤ 11 := by rw [txt_size_eq]; exact txtB_len k

/-- The library's table of texts, as far as the places go. -/
def TokTab (w : World) : Prop := 0 < w.heap.size ∧ ∀ i : Nat, i < 82 → w.cell? ⟨0, (tokAt (i : Int)).toNat, none⟩ = some (.string (txt (i : Int)))
theorem TokTab.below {w w' : World} (h : TokTab w) (hb : Below w.heap.size w w') : TokTab w' :=
  ⟨Nat.lt_of_lt_of_le h.1 hb.size, fun i hi => (hb.cell (p := ⟨0, (tokAt (i : Int)).toNat, none⟩) h.1).trans (h.2 i hi)⟩
theorem TokTab.at {w : World} (h : TokTab w) (k : Int) : w.cell? ⟨0, (tokAt k).toNat, none⟩ = some (.string (txt k)) := by
  have hp := place_cases k
  have := h.2 (place k).toNat (by omega)
  rw [Int.toNat_of_nonneg (by omega), txt_place] at this
  rcases hp with hp | hp
  · rw [hp.1] at this
    rw [tokAt_out k hp.2]
    exact this
  · rwa [hp.1] at this
theorem tokAt_range (k : Int) : 0 ≤ tokAt k ∧ tokAt k < 89 := by
  unfold tokAt
  repeat' split
  all_goals omega

set_option maxHeartbeats 1000000 in
theorem tokString (k t : Int) (ht : 0 ≤ t) (ht' : t < 89) (w : World) (hc : w.cell? ⟨0, t.toNat, none⟩ = some (.string (txt k))) :
    Calls Tryd.prog 22 #[.int .i64 t] w fun e w' => e = .returned (.string (txt k)) ∧ w = w' := by
  have h1 := txtB_ne k
  have h2 : (txtB k == []) = false := by
    cases h : txtB k with
    | nil => rw [h] at h1; cases h1
    | cons a l => rfl
  have h3 : ¬ txtB k = [] := by
    intro h
    rw [h] at h2
    cases h2
  go_enter Tryd.func22, Tryd.ntmps22
  go_wp2_with fail
  go_ret
  exact ⟨rfl, rfl⟩

set_option maxHeartbeats 400000 in
theorem implString (k : Int) (w : World) (hT : TokTab w) :
    Calls Tryd.prog 10 #[.int .i64 k] w fun e w' => e = .returned (.string (txt k)) ∧ Below w.heap.size w w' := by
  have hr := tokAt_range k
  go_enter Tryd.func10, Tryd.ntmps10
  go_wp2_with fail
  refine (at_any k _).mono ?_
  rintro e w1 ⟨rfl, hb1⟩
  go_wp2_with fail
  refine (tokString k _ hr.1 hr.2 _ ((hT.below hb1).at k)).mono ?_
  rintro e w2 ⟨rfl, rfl⟩
  go_wp2_with fail
  go_ret
  exact ⟨rfl, hb1⟩
end Go.Proofs.YtabjfjcaackelaaDoor
