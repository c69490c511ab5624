/- laws.FnSpecial returns true at every input, where the library's tables hold what their initialisers lay (the card ties that to the program's text). -/
import Derived.Test.YtdaachmjnenlaaaDoorTab
import Derived.Test.YtdaachmjnenlaaaDoorSpec
import Derived.Test.YtdaachmjnenlaaaDoorGroups
namespace Go.Proofs.YtdaachmjnenlaaaDoor.fnSpecial
open Go.ChangeShapes Go.WideShapes Go.ChangeAt Go.RowKit

theorem prec_small (k : Int) (h : place k < 3) : prec k = 0 := by
  have hp := place_cases k
  have hc := tok_cases k
  unfold prec tprec
  repeat' split
  all_goals omega

set_option maxHeartbeats 1000000 in
theorem walk (a0 : Int) (_w0 : (Lit.int .i64 a0).wf = true) (w : World) (hT : TokTab w) :
    Calls Tryd.prog 4 #[.int .i64 a0] w fun e w' => e = .returned (.bool true) ∧ Below w.heap.size w w' := by
  by_cases hp : 3 ≤ place a0
  · go_enter Tryd.func4, Tryd.ntmps4
    go_wp2_with fail
    refine (specPlace a0 _).mono ?_
    rintro e w1 ⟨rfl, rfl⟩
    go_wp2_with fail
    go_ret
    exact ⟨rfl, Below.refl _ _⟩
  · have hlt : place a0 < 3 := by omega
    have Pr := Lib.hid (prec_small a0 hlt)
    have Gr := Lib.hid (groups_none a0 (by have := place_cases a0; omega))
    have NE := Lib.hid (txtB_ne a0)
    clear hp
    go_enter Tryd.func4, Tryd.ntmps4
    go_wp2_with fail
    refine (specPlace a0 _).mono ?_
    rintro e w1 ⟨rfl, rfl⟩
    go_wp2_with fail
    refine (groupsAt a0 _ Gr.out _).mono ?_
    rintro e w1 ⟨rfl, hb1⟩
    go_wp2_with fail
    refine (implPrecedenceAt a0 _ Pr.out _).mono ?_
    rintro e w2 ⟨rfl, hb2⟩
    go_wp2_with fail
    refine (implString a0 _ ((hT.below hb1).below hb2)).mono ?_
    rintro e w3 ⟨rfl, hb3⟩
    have ne := NE.out
    go_wp2_with fail
    go_ret
    exact ⟨rfl, below_step (below_step hb1 hb2) hb3⟩
set_option maxRecDepth 100000 in
theorem lifted (os : Os) (started : os.Started) (H : Type) (enc : TypeId × Value → H) :
    ReturnsInHanded {} Tryd.checked os 4 .any (fun w args => (Rows.fnSpecialSpec.pre enc Tryd.prog Tryd.f4 [] false w args ∧ laidMetH Tryd.prog Rows.fnSpecialRow.laid w) ∧ sizedMet enc Tryd.prog Tryd.f4 (OpenSpec.ofChange Rows.fnSpecialSpec) false w args)
      (Rows.fnSpecialSpec.post enc Tryd.prog Tryd.f4 false true false false) := by
  refine returnsInHanded_of_change_and (C := Tryd.checked) (X := fun w _ => laidMetH Tryd.prog Rows.fnSpecialRow.laid w) (fun _ _ _ hh h => h.of_heap hh) own started (by kernel_rfl) Tryd.func4
    (ChangeSpec.witness_shaped (enc := enc) (C := Tryd.checked) (os := os) (X := fun w _ => laidMetH Tryd.prog Rows.fnSpecialRow.laid w) false (World.doorLaid Tryd.prog 29 os) #[.int .i64 0] 8 rfl (World.shaped_of_RefB (by kernel_rfl) (by kernel_rfl)) (by kernel_rfl) (by kernel_rfl) (by kernel_rfl) (door_met os _)) ?_
  intro W base args ds gs before hval0 hW _ hsz hL _
  have hval : ∀ (j : Nat) t v, Tryd.f4.params[j]? = some t → args[j]? = some v → Value.okWide Tryd.prog W .any base t v := hval0
  have hW1 := hW
  obtain ⟨p, q, hA0, hV, rfl, hfz, hnd⟩ := hW
  have hA : DataW.TrodAll enc Tryd.prog W 0 (fun _ => true) true Tryd.f4.params.toList args.toList ds p := hA0
  rw [Tryd.params4] at hA hval
  obtain ⟨v0, vs0, d0, ds0, p0, q0, hargs, rfl, rfl, h0, r0⟩ := trodAll_cons hA
  obtain ⟨rfl, rfl, rfl⟩ := trodAll_nil r0
  obtain rfl : args = #[v0] := by cases args; simp_all
  obtain ⟨rfl, rfl⟩ := trodVars_none hV
  obtain ⟨a0, rfl, rfl, rfl, w0⟩ := open_int Tryd.underlying3 (hval 0 3 v0 rfl rfl) h0
  clear hA0 hval0
  simp only [List.append_nil] at hW1
  refine (walk a0 w0 W (tokTab hL)).mono fun e W1 ⟨he, hg⟩ => ?_
  subst he
  exact ⟨_, rfl, _, _, _, [], [], [], hW1, (trodAll_cons_mk (shut_bool Tryd.underlying4 _) trodAll_mk0), (trodAll_cons_mk (shut_int Tryd.underlying3 w0) trodAll_mk0), rfl, hg.frame _, fun h => by cases h⟩
theorem said : Rows.FnSpecialSaid :=
  OpenClaim.holds_of_wide 4 Tryd.f4 rfl rfl rfl rfl rfl rfl rfl ⟨rfl, rfl, rfl, rfl, rfl⟩ rfl rfl rfl rfl rfl (by kernel_rfl) Tryd.func4 (by kernel_rfl)
    (of_decide_eq_true (by kernel_rfl)) (by unfold Func.isWrapper; first | (rw [if_pos (by decide +kernel)]; kernel_rfl) | (rw [if_neg (by decide +kernel)]; exact ⟨rfl, rfl⟩))
    (fun os started H enc _ => lifted os started H enc)
/-- What the card asks besides: no parameter wants a stand-in. -/
theorem plain (f : FuncId) (fn : Func) (hf : Tryd.pinned.checked.prog.funcNamed "loop.example/lib-g03114/laws.FnSpecial" = some f) (hfn : Tryd.pinned.checked.prog.funcs[f]? = some fn) :
    false = Tryd.pinned.checked.prog.looks [] ∧ ∀ (j : Nat) t, fn.params[j]? = some t → Tryd.pinned.checked.prog.wantsStandIn t = false := by
  obtain rfl : f = 4 := Option.some.inj ((show Tryd.prog.funcNamed "loop.example/lib-g03114/laws.FnSpecial" = some 4 by kernel_rfl).symm.trans hf) |>.symm
  obtain rfl : fn = Tryd.f4 := (Option.some.inj (Tryd.func4.symm.trans hfn)).symm
  refine ⟨by kernel_rfl, fun j t ht => ?_⟩
  rw [Tryd.params4] at ht
  have hm : t ∈ [3] := by
    have := Array.mem_of_getElem? ht
    simp at this ⊢
    omega
  have hall : ([3].all fun u => !Tryd.prog.wantsStandIn u) = true := by kernel_rfl
  exact (show Tryd.prog.wantsStandIn t = false by simpa using List.all_eq_true.1 hall t hm)
theorem card : Rows.FnSpecialCardSaid :=
  Claim7.holds_tied_plain_at .later [] _ _ _ _ said (fun _ h => by cases h) (by kernel_rfl) (fun _ h => by cases h) fnSpecial_row_tie rfl ⟨rfl, rfl⟩ (by kernel_rfl) rfl plain (by kernel_rfl)
#print axioms card
end Go.Proofs.YtdaachmjnenlaaaDoor.fnSpecial
