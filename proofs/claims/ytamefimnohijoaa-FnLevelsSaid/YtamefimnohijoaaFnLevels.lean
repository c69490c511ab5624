/- laws.FnLevels returns true at every input. No condition. -/
import Derived.Test.YtamefimnohijoaaFrame
import Derived.Test.YtamefimnohijoaaLevels
namespace Go.Proofs.Ytamefimnohijoaa.fnLevels
open Go.ChangeShapes Go.WideShapes Go.ChangeAt Go.RowKit

theorem prec_pos (k : Int) (h : ¬ prec k = 0) : 9 ≤ k ∧ k ≤ 55 := by
  cases ho : opB k
  · exact absurd (prec_zero k ho) h
  · unfold opB at ho; simpa using ho

set_option maxHeartbeats 1000000 in
theorem walk (a0 : Int) (_w0 : (Lit.int .i64 a0).wf = true) (w : World) :
    Calls Try.prog 10 #[.int .i64 a0] w fun e w' => e = .returned (.bool true) ∧ Below w.heap.size w w' := by
  have hr := prec_range a0
  by_cases h0 : prec a0 = 0
  · have Z := Lib.hid h0
    clear h0 hr
    go_enter Try.func10, Try.ntmps10
    go_wp2_with fail
    refine (implPrecedenceAt a0 0 Z.out _).mono ?_
    rintro e w1 ⟨rfl, hb1⟩
    go_wp2_with fail
    refine (specPrecedenceAt a0 0 Z.out _).mono ?_
    rintro e w2 ⟨rfl, hb2⟩
    go_wp2_with fail
    go_ret
    exact ⟨rfl, below_step hb1 hb2⟩
  · have hk := prec_pos a0 h0
    have O : Hid (iopB a0 = true) := by show iopB a0 = true; unfold iopB; simp; omega
    have P : Hid (place a0 = a0) := by show place a0 = a0; have := place_cases a0; omega
    have hne : (prec a0 == 0) = false := beq_eq_false_iff_ne.2 h0
    have hpos : 0 < prec a0 := by omega
    clear h0
    go_enter Try.func10, Try.ntmps10
    go_wp2_with fail
    refine (implPrecedence a0 _).mono ?_
    rintro e w1 ⟨rfl, hb1⟩
    go_wp2_with fail
    refine (implIsOperatorAt a0 _ O.out _).mono ?_
    rintro e w2 ⟨rfl, hb2⟩
    go_wp2_with fail
    refine (specPlace a0 _).mono ?_
    rintro e w3 ⟨rfl, rfl⟩
    rw [P.out]
    go_wp2_with fail
    go_ret
    exact ⟨rfl, below_step hb1 hb2⟩
set_option maxRecDepth 100000 in
theorem lifted (os : Os) (started : os.Started) (H : Type) (enc : TypeId × Value → H) :
    ReturnsInHanded {} Try.checked os 10 .any (Rows.fnLevelsSpec.pre6 enc Try.prog Try.f10 Rows.fnLevelsRow.domain false) (Rows.fnLevelsSpec.post enc Try.prog Try.f10 false true false false) := by
  refine returnsInHanded_of_change (C := Try.checked) own started (by kernel_rfl) Try.func10
    (ChangeSpec.witness6 (enc := enc) (C := Try.checked) false ⟨#[], #[.int .i64 0], []⟩ 8 (by kernel_rfl) (by kernel_rfl) (by kernel_rfl) (by kernel_rfl)) ?_
  intro W base args ds gs before hval0 hW hcnd _
  have hval : ∀ (j : Nat) t v, Try.f10.params[j]? = some t → args[j]? = some v → Value.okWide Try.prog W .any base t v := hval0
  have hW1 := hW
  obtain ⟨p, q, hA0, hV, rfl, hfz, hnd⟩ := hW
  have hA : DataW.TrodAll enc Try.prog W 0 (fun _ => true) true Try.f10.params.toList args.toList ds p := hA0
  rw [Try.params10] at hA hval
  obtain ⟨v0, vs0, d0, ds0, p0, q0, hargs, rfl, rfl, h0, r0⟩ := trodAll_cons hA
  obtain ⟨rfl, rfl, rfl⟩ := trodAll_nil r0
  obtain rfl : args = #[v0] := by cases args; simp_all
  obtain ⟨rfl, rfl⟩ := trodVars_none hV
  obtain ⟨a0, rfl, rfl, rfl, w0⟩ := open_int Try.underlying3 (hval 0 3 v0 rfl rfl) h0
  clear hA0 hval0
  simp only [List.append_nil] at hW1
  refine (walk a0 w0 W).mono fun e W1 ⟨he, hg⟩ => ?_
  subst he
  exact ⟨_, rfl, _, _, _, [], [], [], hW1, (trodAll_cons_mk (shut_bool Try.underlying4 _) trodAll_mk0), (trodAll_cons_mk (shut_int Try.underlying3 w0) trodAll_mk0), rfl, hg.frame _, fun h => by cases h⟩
theorem over : Rows.fnLevelsRow.holds Try.pinned (OpenSpec.ofChange Rows.fnLevelsSpec) :=
  OpenClaim.holds_of_wide 10 Try.f10 rfl rfl rfl rfl rfl rfl rfl ⟨rfl, rfl, rfl, rfl, rfl⟩ rfl rfl rfl rfl rfl (by kernel_rfl) Try.func10 (by kernel_rfl)
    (of_decide_eq_true (by kernel_rfl)) (by unfold Func.isWrapper; first | (rw [if_pos (by decide +kernel)]; kernel_rfl) | (rw [if_neg (by decide +kernel)]; exact ⟨rfl, rfl⟩))
    (fun os started H enc _ => lifted os started H enc)
theorem proved : Rows.FnLevelsSaid := over
#print axioms proved
end Go.Proofs.Ytamefimnohijoaa.fnLevels
