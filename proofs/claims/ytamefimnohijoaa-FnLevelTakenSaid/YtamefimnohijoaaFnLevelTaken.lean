/- laws.FnLevelTaken returns true at every input. No condition. -/
import Derived.Test.YtamefimnohijoaaFrame
import Derived.Test.YtamefimnohijoaaKinds
namespace Go.Proofs.Ytamefimnohijoaa.fnLevelTaken
open Go.ChangeShapes Go.WideShapes Go.ChangeAt Go.RowKit

/-- How many of the first j places have the level. -/
def cntL (level : Int) : Nat → Int
  | 0 => 0
  | j + 1 => cntL level j + (if prec (j : Int) = level then 1 else 0)
theorem cntL_range (level : Int) : ∀ j, 0 ≤ cntL level j ∧ cntL level j ≤ (j : Int)
  | 0 => by simp [cntL]
  | j + 1 => by
    have := cntL_range level j
    unfold cntL
    split <;> omega
theorem cntL_all (level : Int) (h1 : 1 ≤ level) (h5 : level ≤ 5) : [1, 1, 6, 4, 7][(level - 1).toNat]? = some (cntL level 82) := by
  rcases (show level = 1 ∨ level = 2 ∨ level = 3 ∨ level = 4 ∨ level = 5 by omega) with rfl | rfl | rfl | rfl | rfl
  all_goals decide +kernel
def cellsL : Array Value := #[.int .i64 1, .int .i64 1, .int .i64 6, .int .i64 4, .int .i64 7]
theorem cellsL_at (level : Int) (h1 : 1 ≤ level) (h5 : level ≤ 5) : cellsL[level.toNat - 1]? = some (.int .i64 (cntL level 82)) := by
  have e : cellsL.toList = ([1, 1, 6, 4, 7] : List Int).map (Value.int .i64) := rfl
  rw [← Array.getElem?_toList, e, List.getElem?_map, show level.toNat - 1 = (level - 1).toNat by omega, cntL_all level h1 h5]
  rfl

set_option maxHeartbeats 1000000 in
theorem walk (a0 : Int) (_w0 : (Lit.int .i64 a0).wf = true) (w : World) :
    Calls Try.prog 8 #[.int .i64 a0] w fun e w' => e = .returned (.bool true) ∧ Below w.heap.size w w' := by
  by_cases h1 : a0 < 1
  · go_enter Try.func8, Try.ntmps8
    go_wp2_with fail
    go_ret
    exact ⟨rfl, Below.refl _ _⟩
  by_cases h5 : 5 < a0
  · go_enter Try.func8, Try.ntmps8
    go_wp2_with fail
    go_ret
    exact ⟨rfl, Below.refl _ _⟩
  have C := Lib.hid (cellsL_at a0 (by omega) (by omega))
  go_enter Try.func8, Try.ntmps8
  go_wp2_with fail
  go_loopw [3, 11] (fun n i wr => ∃ j : Nat, j ≤ 82 ∧ i = .int .i64 (j : Int) ∧ n = .int .i64 (cntL a0 j) ∧ Below w.heap.size w wr) (fun _ i _ => 82 - (intOf i).toNat)
  case atStart => exact ⟨0, by omega, rfl, rfl, Below.refl _ _⟩
  case round =>
    obtain ⟨j, hj, rfl, rfl, hb⟩ := hrel
    have hcr := cntL_range a0 j
    by_cases hlt : j < 82
    · by_cases hp : prec (j : Int) = a0
      · have hs : cntL a0 (j + 1) = cntL a0 j + 1 := by show _ + _ = _; rw [if_pos hp]
        have S := Lib.hid hs
        have P := Lib.hid hp
        clear hs hp
        go_wp2_with (go_at_call 19; refine (implPrecedenceAt _ a0 P.out _).mono ?_; rintro e w1 ⟨rfl, hb1⟩)
        go_roundw
        case rel => exact ⟨j + 1, by omega, by go_num, by rw [S.out], below_step hb hb1⟩
        case measure => simp [intOf]; omega
      · have hs : cntL a0 (j + 1) = cntL a0 j := by show _ + _ = _; rw [if_neg hp]; omega
        have S := Lib.hid hs
        have hp' : (prec (j : Int) == a0) = false := beq_eq_false_iff_ne.2 hp
        clear hs hp
        go_wp2_with (go_at_call 19; refine (implPrecedence _ _).mono ?_; rintro e w1 ⟨rfl, hb1⟩)
        go_roundw
        case rel => exact ⟨j + 1, by omega, by go_num, by rw [S.out], below_step hb hb1⟩
        case measure => simp [intOf]; omega
    · obtain rfl : j = 82 := by omega
      have hc := C.out
      go_wp2_with (refine wpList_run rfl (some 22) rfl (.slice (some ⟨wr.heap.size, 0, none⟩) 5 5) (wr.alloc (.cells cellsL 3)) ?_ ?_; kernel_rfl)
      go_ret
      exact ⟨ret_bool (by simp), below_step hb (below_new _ _)⟩
set_option maxRecDepth 100000 in
theorem lifted (os : Os) (started : os.Started) (H : Type) (enc : TypeId × Value → H) :
    ReturnsInHanded {} Try.checked os 8 .any (Rows.fnLevelTakenSpec.pre6 enc Try.prog Try.f8 Rows.fnLevelTakenRow.domain false) (Rows.fnLevelTakenSpec.post enc Try.prog Try.f8 false true false false) := by
  refine returnsInHanded_of_change (C := Try.checked) own started (by kernel_rfl) Try.func8
    (ChangeSpec.witness6 (enc := enc) (C := Try.checked) false ⟨#[], #[.int .i64 0], []⟩ 8 (by kernel_rfl) (by kernel_rfl) (by kernel_rfl) (by kernel_rfl)) ?_
  intro W base args ds gs before hval0 hW hcnd _
  have hval : ∀ (j : Nat) t v, Try.f8.params[j]? = some t → args[j]? = some v → Value.okWide Try.prog W .any base t v := hval0
  have hW1 := hW
  obtain ⟨p, q, hA0, hV, rfl, hfz, hnd⟩ := hW
  have hA : DataW.TrodAll enc Try.prog W 0 (fun _ => true) true Try.f8.params.toList args.toList ds p := hA0
  rw [Try.params8] at hA hval
  obtain ⟨v0, vs0, d0, ds0, p0, q0, hargs, rfl, rfl, h0, r0⟩ := trodAll_cons hA
  obtain ⟨rfl, rfl, rfl⟩ := trodAll_nil r0
  obtain rfl : args = #[v0] := by cases args; simp_all
  obtain ⟨rfl, rfl⟩ := trodVars_none hV
  obtain ⟨a0, rfl, rfl, rfl, w0⟩ := open_int Try.underlying3 (hval 0 3 v0 rfl rfl) h0
  clear hA0 hval0
  simp only [List.append_nil] at hW1
  refine (walk a0 w0 W).mono fun e W1 ⟨he, hg⟩ => ?_
  subst he
  exact ⟨_, rfl, _, _, _, [], [], [], hW1, (trodAll_cons_mk (shut_bool Try.underlying4 _) trodAll_mk0), (trodAll_cons_mk (shut_int Try.underlying3 w0) trodAll_mk0), rfl, hg.frame _, fun h => by cases h⟩
theorem over : Rows.fnLevelTakenRow.holds Try.pinned (OpenSpec.ofChange Rows.fnLevelTakenSpec) :=
  OpenClaim.holds_of_wide 8 Try.f8 rfl rfl rfl rfl rfl rfl rfl ⟨rfl, rfl, rfl, rfl, rfl⟩ rfl rfl rfl rfl rfl (by kernel_rfl) Try.func8 (by kernel_rfl)
    (of_decide_eq_true (by kernel_rfl)) (by unfold Func.isWrapper; first | (rw [if_pos (by decide +kernel)]; kernel_rfl) | (rw [if_neg (by decide +kernel)]; exact ⟨rfl, rfl⟩))
    (fun os started H enc _ => lifted os started H enc)
theorem proved : Rows.FnLevelTakenSaid := over
#print axioms proved
end Go.Proofs.Ytamefimnohijoaa.fnLevelTaken
