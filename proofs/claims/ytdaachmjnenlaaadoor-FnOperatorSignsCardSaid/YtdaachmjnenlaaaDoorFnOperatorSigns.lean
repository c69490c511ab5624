/- laws.FnOperatorSigns returns true at every input, where the library's tables hold what their initialisers lay (the card ties that to the program's text). -/
import Derived.Test.YtdaachmjnenlaaaDoorTab
import Derived.Test.YtdaachmjnenlaaaDoorSpec
namespace Go.Proofs.YtdaachmjnenlaaaDoor.fnOperatorSigns
open Go.ChangeShapes Go.WideShapes Go.ChangeAt Go.RowKit

/-- A sign: above the blank, at most the tilde, no digit, no letter, no low line. -/
def sign (n : Nat) : Bool := (decide (32 < n) && decide (n ≤ 126)) && !(decide (48 ≤ n) && decide (n ≤ 57)) && !(decide (97 ≤ n) && decide (n ≤ 122)) && !(decide (65 ≤ n) && decide (n ≤ 90)) && !(n == 95)
theorem signs_all : ∀ i : Fin 47, (txtL.getD (i.val + 9) []).all (fun c => sign c.toNat) = true ∧ 1 ≤ (txtL.getD (i.val + 9) []).length ∧ (txtL.getD (i.val + 9) []).length ≤ 3 := by decide +kernel
theorem signs (a : Int) (h0 : 9 ≤ a) (h1 : a ≤ 55) : (txtB a).all (fun c => sign c.toNat) = true ∧ 1 ≤ (txtB a).length ∧ (txtB a).length ≤ 3 := by
  have := signs_all ⟨(a - 9).toNat, by omega⟩
  simp only at this
  rcases place_cases a with pa | pa
  · omega
  · unfold txtB
    rw [pa.1]
    rwa [show (a - 9).toNat + 9 = a.toNat by omega] at this
theorem sign_at (k : Int) (h : (txtB k).all (fun c => sign c.toNat) = true) (i : Nat) (hi : i < (txt k).size) : sign (txt k)[i].toNat = true := by
  have hm : (txt k)[i] ∈ txtB k := by
    show (txt k).data[i] ∈ txtB k
    have e : (txt k).data.toList = txtB k := rfl
    rw [← e]
    exact Array.getElem_mem_toList _
  exact (List.all_eq_true.1 h) _ hm
/-- What the tests ask, in numbers: five ways between the digits and the letters. -/
theorem sign_ways (n : Nat) (h : sign n = true) : 32 < (n : Int) ∧ (n : Int) ≤ 126 ∧ ((n : Int) < 48 ∨ (57 < (n : Int) ∧ (n : Int) < 65) ∨ (90 < (n : Int) ∧ (n : Int) < 97 ∧ (n : Int) ≠ 95) ∨ 122 < (n : Int)) := by
  unfold sign at h
  simp at h
  omega

set_option maxHeartbeats 2000000 in
theorem walk (a0 : Int) (_w0 : (Lit.int .i64 a0).wf = true) (w : World) (hT : TokTab w) :
    Calls Tryd.prog 11 #[.int .i64 a0] w fun e w' => e = .returned (.bool true) ∧ Below w.heap.size w w' := by
  cases h0 : opB a0
  · have H0 := Lib.hid h0
    clear h0
    go_enter Tryd.func11, Tryd.ntmps11
    go_wp2_with fail
    refine (specIsOperatorAt a0 _ H0.out _).mono ?_
    rintro e w1 ⟨rfl, hb1⟩
    go_wp2_with fail
    go_ret
    exact ⟨rfl, hb1⟩
  · have hr : 9 ≤ a0 ∧ a0 ≤ 55 := by unfold opB at h0; simpa using h0
    have SG := Lib.hid (signs a0 hr.1 hr.2).1
    have hs : 1 ≤ (txt a0).size ∧ (txt a0).size ≤ 3 := by rw [txt_size_eq]; exact (signs a0 hr.1 hr.2).2
    have I : Hid (iopB a0 = true) := by show iopB a0 = true; unfold iopB; simp; omega
    have H0 := Lib.hid h0
    clear h0
    go_enter Tryd.func11, Tryd.ntmps11
    go_wp2_with fail
    refine (specIsOperatorAt a0 _ H0.out _).mono ?_
    rintro e w1 ⟨rfl, hb1⟩
    go_wp2_with fail
    refine (implString a0 _ (hT.below hb1)).mono ?_
    rintro e w2 ⟨rfl, hb2⟩
    go_wp2_with fail
    go_loop [13] (fun i => ∃ j : Nat, j ≤ (txt a0).size ∧ i = .int .i64 (j : Int)) (fun i => (txt a0).size - (intOf i).toNat)
    case atStart => exact ⟨0, by omega, rfl⟩
    case round =>
      obtain ⟨j, hj, rfl⟩ := hrel
      by_cases hlt : j < (txt a0).size
      · obtain ⟨g1, g2, g3⟩ := sign_ways _ (sign_at a0 SG.out j hlt)
        have hne : (((txt a0)[j].toNat : Int) == 95) = false := by rw [beq_eq_false_iff_ne]; omega
        rcases g3 with g | g | g | g
        all_goals
          go_wp2_with fail
          go_round
          case rel => exact ⟨j + 1, by omega, by go_num⟩
          case measure => simp [intOf]; omega
      · go_wp2_with fail
        refine (implIsOperatorAt a0 _ I.out _).mono ?_
        rintro e w3 ⟨rfl, hb3⟩
        go_wp2_with fail
        go_ret
        exact ⟨ret_bool (by simp; omega), below_step (below_step hb1 hb2) hb3⟩
set_option maxRecDepth 100000 in
theorem lifted (os : Os) (started : os.Started) (H : Type) (enc : TypeId × Value → H) :
    ReturnsInHanded {} Tryd.checked os 11 .any (fun w args => (Rows.fnOperatorSignsSpec.pre enc Tryd.prog Tryd.f11 [] false w args ∧ laidMetH Tryd.prog Rows.fnOperatorSignsRow.laid w) ∧ sizedMet enc Tryd.prog Tryd.f11 (OpenSpec.ofChange Rows.fnOperatorSignsSpec) false w args)
      (Rows.fnOperatorSignsSpec.post enc Tryd.prog Tryd.f11 false true false false) := by
  refine returnsInHanded_of_change_and (C := Tryd.checked) (X := fun w _ => laidMetH Tryd.prog Rows.fnOperatorSignsRow.laid w) (fun _ _ _ hh h => h.of_heap hh) own started (by kernel_rfl) Tryd.func11
    (ChangeSpec.witness_shaped (enc := enc) (C := Tryd.checked) (os := os) (X := fun w _ => laidMetH Tryd.prog Rows.fnOperatorSignsRow.laid w) false (World.doorLaid Tryd.prog 29 os) #[.int .i64 0] 8 rfl (World.shaped_of_RefB (by kernel_rfl) (by kernel_rfl)) (by kernel_rfl) (by kernel_rfl) (by kernel_rfl) (door_met os _)) ?_
  intro W base args ds gs before hval0 hW _ hsz hL _
  have hval : ∀ (j : Nat) t v, Tryd.f11.params[j]? = some t → args[j]? = some v → Value.okWide Tryd.prog W .any base t v := hval0
  have hW1 := hW
  obtain ⟨p, q, hA0, hV, rfl, hfz, hnd⟩ := hW
  have hA : DataW.TrodAll enc Tryd.prog W 0 (fun _ => true) true Tryd.f11.params.toList args.toList ds p := hA0
  rw [Tryd.params11] at hA hval
  obtain ⟨v0, vs0, d0, ds0, p0, q0, hargs, rfl, rfl, h0, r0⟩ := trodAll_cons hA
  obtain ⟨rfl, rfl, rfl⟩ := trodAll_nil r0
  obtain rfl : args = #[v0] := by cases args; simp_all
  obtain ⟨rfl, rfl⟩ := trodVars_none hV
  obtain ⟨a0, rfl, rfl, rfl, w0⟩ := open_int Tryd.underlying3 (hval 0 3 v0 rfl rfl) h0
  clear hA0 hval0
  simp only [List.append_nil] at hW1
  refine (walk a0 w0 W (tokTab hL)).mono fun e W1 ⟨he, hg⟩ => ?_
  subst he
  exact ⟨_, rfl, _, _, _, [], [], [], hW1, (trodAll_cons_mk (shut_bool Tryd.underlying4 _) trodAll_mk0), (trodAll_cons_mk (shut_int Tryd.underlying3 w0) trodAll_mk0), rfl, hg.frame _, fun h => by cases h⟩
theorem said : Rows.FnOperatorSignsSaid :=
  OpenClaim.holds_of_wide 11 Tryd.f11 rfl rfl rfl rfl rfl rfl rfl ⟨rfl, rfl, rfl, rfl, rfl⟩ rfl rfl rfl rfl rfl (by kernel_rfl) Tryd.func11 (by kernel_rfl)
    (of_decide_eq_true (by kernel_rfl)) (by unfold Func.isWrapper; first | (rw [if_pos (by decide +kernel)]; kernel_rfl) | (rw [if_neg (by decide +kernel)]; exact ⟨rfl, rfl⟩))
    (fun os started H enc _ => lifted os started H enc)
/-- What the card asks besides: no parameter wants a stand-in. -/
theorem plain (f : FuncId) (fn : Func) (hf : Tryd.pinned.checked.prog.funcNamed "loop.example/lib-g03114/laws.FnOperatorSigns" = some f) (hfn : Tryd.pinned.checked.prog.funcs[f]? = some fn) :
    false = Tryd.pinned.checked.prog.looks [] ∧ ∀ (j : Nat) t, fn.params[j]? = some t → Tryd.pinned.checked.prog.wantsStandIn t = false := by
  obtain rfl : f = 11 := Option.some.inj ((show Tryd.prog.funcNamed "loop.example/lib-g03114/laws.FnOperatorSigns" = some 11 by kernel_rfl).symm.trans hf) |>.symm
  obtain rfl : fn = Tryd.f11 := (Option.some.inj (Tryd.func11.symm.trans hfn)).symm
  refine ⟨by kernel_rfl, fun j t ht => ?_⟩
  rw [Tryd.params11] at ht
  have hm : t ∈ [3] := by
    have := Array.mem_of_getElem? ht
    simp at this ⊢
    omega
  have hall : ([3].all fun u => !Tryd.prog.wantsStandIn u) = true := by kernel_rfl
  exact (show Tryd.prog.wantsStandIn t = false by simpa using List.all_eq_true.1 hall t hm)
theorem card : Rows.FnOperatorSignsCardSaid :=
  Claim7.holds_tied_plain_at .later [] _ _ _ _ said (fun _ h => by cases h) (by kernel_rfl) (fun _ h => by cases h) fnOperatorSigns_row_tie rfl ⟨rfl, rfl⟩ (by kernel_rfl) rfl plain (by kernel_rfl)
#print axioms card
end Go.Proofs.YtdaachmjnenlaaaDoor.fnOperatorSigns
