/- Contract of laws.groups: how many of the three groups have a token. No condition. -/
import Derived.Test.YtdaachmjnenlaaaDoorSpec
namespace Go.Proofs.YtdaachmjnenlaaaDoor
open Go.RowKit

def one (b : Bool) : Int := if b then 1 else 0
def groupsN (k : Int) : Int := one (litB k) + one (iopB k) + one (kwB k)
theorem one_range (b : Bool) : 0 ≤ one b ∧ one b ≤ 1 := by cases b <;> simp [one]
def cnt (b1 b2 b3 : Bool) (j : Nat) : Int := if j = 0 then 0 else if j = 1 then one b1 else if j = 2 then one b1 + one b2 else one b1 + one b2 + one b3

set_option maxHeartbeats 1000000 in
theorem groupsBy (k : Int) (b1 b2 b3 : Bool) (h1 : litB k = b1) (h2 : iopB k = b2) (h3 : kwB k = b3) (w : World) :
    Calls Tryd.prog 17 #[.int .i64 k] w fun e w' => e = .returned (.int .i64 (one b1 + one b2 + one b3)) ∧ Below w.heap.size w w' := by
  have H1 := Lib.hid h1
  have H2 := Lib.hid h2
  have H3 := Lib.hid h3
  clear h1 h2 h3
  go_enter Tryd.func17, Tryd.ntmps17
  go_wp2_with fail
  refine (implIsLiteralAt k _ H1.out _).mono ?_
  rintro e w1 ⟨rfl, hb1⟩
  go_wp2_with fail
  refine (implIsOperatorAt k _ H2.out _).mono ?_
  rintro e w2 ⟨rfl, hb2⟩
  go_wp2_with fail
  refine (implIsKeywordAt k _ H3.out _).mono ?_
  rintro e w3 ⟨rfl, hb3⟩
  have hb : Below w.heap.size w w3 := below_step (below_step hb1 hb2) hb3
  clear hb1 hb2 hb3 H1 H2 H3
  go_wp2_with (refine wpList_run rfl (some 12) rfl (.slice (some ⟨w3.heap.size, 0, none⟩) 3 3) (w3.alloc (.cells #[.bool b1, .bool b2, .bool b3] 4)) ?_ ?_; kernel_rfl)
  have o1 := one_range b1
  have o2 := one_range b2
  have o3 := one_range b3
  go_loop [3, 14] (fun n i => ∃ j : Nat, j ≤ 3 ∧ i = .int .i64 (j : Int) ∧ n = .int .i64 (cnt b1 b2 b3 j)) (fun _ i => 3 - (intOf i).toNat)
  case atStart => exact ⟨0, by omega, rfl, rfl⟩
  case round =>
    obtain ⟨j, hj, rfl, rfl⟩ := hrel
    rcases (show j = 0 ∨ j = 1 ∨ j = 2 ∨ j = 3 by omega) with rfl | rfl | rfl | rfl
    · rw [show cnt b1 b2 b3 0 = 0 from rfl]
      cases b1
      all_goals
        go_wp2
        go_round
        case rel => exact ⟨1, by omega, by go_num, rfl⟩
        case measure => simp [intOf]
    · rw [show cnt b1 b2 b3 1 = one b1 from rfl]
      cases b2
      · go_wp2
        go_round
        case rel => exact ⟨2, by omega, by go_num, congrArg _ (Int.add_zero _).symm⟩
        case measure => simp [intOf]
      · go_wp2
        go_round
        case rel => exact ⟨2, by omega, by go_num, rfl⟩
        case measure => simp [intOf]
    · rw [show cnt b1 b2 b3 2 = one b1 + one b2 from rfl]
      cases b3
      · go_wp2
        go_round
        case rel => exact ⟨3, by omega, by go_num, congrArg _ (Int.add_zero _).symm⟩
        case measure => simp [intOf]
      · go_wp2
        go_round
        case rel => exact ⟨3, by omega, by go_num, rfl⟩
        case measure => simp [intOf]
    · go_wp2
      go_ret
      exact ⟨ret_int rfl, hb.trans (below_new _ _ |>.mono hb.size)⟩
theorem groupsAny (k : Int) (w : World) :
    Calls Tryd.prog 17 #[.int .i64 k] w fun e w' => e = .returned (.int .i64 (groupsN k)) ∧ Below w.heap.size w w' := groupsBy k _ _ _ rfl rfl rfl w
theorem groupsAt (k n : Int) (hn : groupsN k = n) (w : World) :
    Calls Tryd.prog 17 #[.int .i64 k] w fun e w' => e = .returned (.int .i64 n) ∧ Below w.heap.size w w' := hn ▸ groupsAny k w
theorem groups_le (k : Int) : 0 ≤ groupsN k ∧ groupsN k ≤ 1 := by
  unfold groupsN one litB iopB kwB
  simp only [decide_eq_true_eq]
  repeat' split
  all_goals omega
theorem groups_one (k : Int) (h : 3 ≤ k) (h' : k ≤ 81) : groupsN k = 1 := by
  unfold groupsN one litB iopB kwB
  simp only [decide_eq_true_eq]
  repeat' split
  all_goals omega
theorem groups_none (k : Int) (h : k < 3 ∨ 81 < k) : groupsN k = 0 := by
  unfold groupsN one litB iopB kwB
  simp only [decide_eq_true_eq]
  repeat' split
  all_goals omega

end Go.Proofs.YtdaachmjnenlaaaDoor
