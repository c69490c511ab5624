/- laws.FnNamesCapital returns true at every input, where the library's tables hold what their initialisers lay (the card ties that to the program's text). -/
import Derived.Test.YtdaachmjnenlaaaDoorTab
import Derived.Test.YtdaachmjnenlaaaDoorSpec
import Derived.Test.YtdaachmjnenlaaaDoorEvery
namespace Go.Proofs.YtdaachmjnenlaaaDoor.fnNamesCapital
open Go.ChangeShapes Go.WideShapes Go.ChangeAt Go.RowKit

theorem capital_all : ∀ i : Fin 9, allIn (txtL.getD i.val []) 65 90 = true := by decide +kernel
theorem capital (a : Int) (h : place a < 9) : allIn (txtB a) 65 90 = true := by
  have hp := place_range a
  exact capital_all ⟨(place a).toNat, by omega⟩

set_option maxHeartbeats 1000000 in
theorem walk (a0 : Int) (_w0 : (Lit.int .i64 a0).wf = true) (w : World) (hT : TokTab w) :
    Calls Tryd.prog 12 #[.int .i64 a0] w fun e w' => e = .returned (.bool true) ∧ Below w.heap.size w w' := by
  cases h0 : opB a0
  · cases h1 : kwB a0
    · by_cases h81 : a0 = 81
      · subst h81
        go_enter Tryd.func12, Tryd.ntmps12
        go_wp2_with fail
        refine (specIsOperatorAt 81 false (by decide) _).mono ?_
        rintro e w1 ⟨rfl, hb1⟩
        go_wp2_with fail
        refine (specIsKeywordAt 81 false (by decide) _).mono ?_
        rintro e w2 ⟨rfl, hb2⟩
        go_wp2_with fail
        go_ret
        exact ⟨rfl, below_step hb1 hb2⟩
      · have n81 : (a0 == 81) = false := beq_eq_false_iff_ne.2 h81
        have I : Hid (iopB a0 = false) := by
          show iopB a0 = false
          unfold opB at h0
          unfold iopB
          simp only [decide_eq_false_iff_not] at h0 ⊢
          omega
        have C : Hid (allIn (txtB a0) 65 90 = true) := by
          refine capital a0 ?_
          unfold opB at h0
          unfold kwB at h1
          simp only [decide_eq_false_iff_not] at h0 h1
          have := place_cases a0
          omega
        have H0 := Lib.hid h0
        have H1 := Lib.hid h1
        clear h0 h1 h81
        go_enter Tryd.func12, Tryd.ntmps12
        go_wp2_with fail
        refine (specIsOperatorAt a0 _ H0.out _).mono ?_
        rintro e w1 ⟨rfl, hb1⟩
        go_wp2_with fail
        refine (specIsKeywordAt a0 _ H1.out _).mono ?_
        rintro e w2 ⟨rfl, hb2⟩
        go_wp2_with fail
        refine (implIsOperatorAt a0 _ I.out _).mono ?_
        rintro e w3 ⟨rfl, hb3⟩
        go_wp2_with fail
        refine (implIsKeywordAt a0 _ H1.out _).mono ?_
        rintro e w4 ⟨rfl, hb4⟩
        go_wp2_with fail
        refine (implString a0 _ ((((hT.below hb1).below hb2).below hb3).below hb4)).mono ?_
        rintro e w5 ⟨rfl, hb5⟩
        go_wp2_with fail
        refine (everyTrue a0 65 90 C.out _).mono ?_
        rintro e w6 ⟨rfl, rfl⟩
        go_wp2_with fail
        go_ret
        exact ⟨rfl, below_step (below_step (below_step (below_step hb1 hb2) hb3) hb4) hb5⟩
    · have H0 := Lib.hid h0
      have H1 := Lib.hid h1
      clear h0 h1
      go_enter Tryd.func12, Tryd.ntmps12
      go_wp2_with fail
      refine (specIsOperatorAt a0 _ H0.out _).mono ?_
      rintro e w1 ⟨rfl, hb1⟩
      go_wp2_with fail
      refine (specIsKeywordAt a0 _ H1.out _).mono ?_
      rintro e w2 ⟨rfl, hb2⟩
      go_wp2_with fail
      go_ret
      exact ⟨rfl, below_step hb1 hb2⟩
  · have H0 := Lib.hid h0
    clear h0
    go_enter Tryd.func12, Tryd.ntmps12
    go_wp2_with fail
    refine (specIsOperatorAt a0 _ H0.out _).mono ?_
    rintro e w1 ⟨rfl, hb1⟩
    go_wp2_with fail
    go_ret
    exact ⟨rfl, hb1⟩
set_option maxRecDepth 100000 in
theorem lifted (os : Os) (started : os.Started) (H : Type) (enc : TypeId × Value → H) :
    ReturnsInHanded {} Tryd.checked os 12 .any (fun w args => (Rows.fnNamesCapitalSpec.pre enc Tryd.prog Tryd.f12 [] false w args ∧ laidMetH Tryd.prog Rows.fnNamesCapitalRow.laid w) ∧ sizedMet enc Tryd.prog Tryd.f12 (OpenSpec.ofChange Rows.fnNamesCapitalSpec) false w args)
      (Rows.fnNamesCapitalSpec.post enc Tryd.prog Tryd.f12 false true false false) := by
  refine returnsInHanded_of_change_and (C := Tryd.checked) (X := fun w _ => laidMetH Tryd.prog Rows.fnNamesCapitalRow.laid w) (fun _ _ _ hh h => h.of_heap hh) own started (by kernel_rfl) Tryd.func12
    (ChangeSpec.witness_shaped (enc := enc) (C := Tryd.checked) (os := os) (X := fun w _ => laidMetH Tryd.prog Rows.fnNamesCapitalRow.laid w) false (World.doorLaid Tryd.prog 29 os) #[.int .i64 0] 8 rfl (World.shaped_of_RefB (by kernel_rfl) (by kernel_rfl)) (by kernel_rfl) (by kernel_rfl) (by kernel_rfl) (door_met os _)) ?_
  intro W base args ds gs before hval0 hW _ hsz hL _
  have hval : ∀ (j : Nat) t v, Tryd.f12.params[j]? = some t → args[j]? = some v → Value.okWide Tryd.prog W .any base t v := hval0
  have hW1 := hW
  obtain ⟨p, q, hA0, hV, rfl, hfz, hnd⟩ := hW
  have hA : DataW.TrodAll enc Tryd.prog W 0 (fun _ => true) true Tryd.f12.params.toList args.toList ds p := hA0
  rw [Tryd.params12] at hA hval
  obtain ⟨v0, vs0, d0, ds0, p0, q0, hargs, rfl, rfl, h0, r0⟩ := trodAll_cons hA
  obtain ⟨rfl, rfl, rfl⟩ := trodAll_nil r0
  obtain rfl : args = #[v0] := by cases args; simp_all
  obtain ⟨rfl, rfl⟩ := trodVars_none hV
  obtain ⟨a0, rfl, rfl, rfl, w0⟩ := open_int Tryd.underlying3 (hval 0 3 v0 rfl rfl) h0
  clear hA0 hval0
  simp only [List.append_nil] at hW1
  refine (walk a0 w0 W (tokTab hL)).mono fun e W1 ⟨he, hg⟩ => ?_
  subst he
  exact ⟨_, rfl, _, _, _, [], [], [], hW1, (trodAll_cons_mk (shut_bool Tryd.underlying4 _) trodAll_mk0), (trodAll_cons_mk (shut_int Tryd.underlying3 w0) trodAll_mk0), rfl, hg.frame _, fun h => by cases h⟩
theorem said : Rows.FnNamesCapitalSaid :=
  OpenClaim.holds_of_wide 12 Tryd.f12 rfl rfl rfl rfl rfl rfl rfl ⟨rfl, rfl, rfl, rfl, rfl⟩ rfl rfl rfl rfl rfl (by kernel_rfl) Tryd.func12 (by kernel_rfl)
    (of_decide_eq_true (by kernel_rfl)) (by unfold Func.isWrapper; first | (rw [if_pos (by decide +kernel)]; kernel_rfl) | (rw [if_neg (by decide +kernel)]; exact ⟨rfl, rfl⟩))
    (fun os started H enc _ => lifted os started H enc)
/-- What the card asks besides: no parameter wants a stand-in. -/
theorem plain (f : FuncId) (fn : Func) (hf : Tryd.pinned.checked.prog.funcNamed "loop.example/lib-g03114/laws.FnNamesCapital" = some f) (hfn : Tryd.pinned.checked.prog.funcs[f]? = some fn) :
    false = Tryd.pinned.checked.prog.looks [] ∧ ∀ (j : Nat) t, fn.params[j]? = some t → Tryd.pinned.checked.prog.wantsStandIn t = false := by
  obtain rfl : f = 12 := Option.some.inj ((show Tryd.prog.funcNamed "loop.example/lib-g03114/laws.FnNamesCapital" = some 12 by kernel_rfl).symm.trans hf) |>.symm
  obtain rfl : fn = Tryd.f12 := (Option.some.inj (Tryd.func12.symm.trans hfn)).symm
  refine ⟨by kernel_rfl, fun j t ht => ?_⟩
  rw [Tryd.params12] at ht
  have hm : t ∈ [3] := by
    have := Array.mem_of_getElem? ht
    simp at this ⊢
    omega
  have hall : ([3].all fun u => !Tryd.prog.wantsStandIn u) = true := by kernel_rfl
  exact (show Tryd.prog.wantsStandIn t = false by simpa using List.all_eq_true.1 hall t hm)
theorem card : Rows.FnNamesCapitalCardSaid :=
  Claim7.holds_tied_plain_at .later [] _ _ _ _ said (fun _ h => by cases h) (by kernel_rfl) (fun _ h => by cases h) fnNamesCapital_row_tie rfl ⟨rfl, rfl⟩ (by kernel_rfl) rfl plain (by kernel_rfl)
#print axioms card
end Go.Proofs.YtdaachmjnenlaaaDoor.fnNamesCapital
