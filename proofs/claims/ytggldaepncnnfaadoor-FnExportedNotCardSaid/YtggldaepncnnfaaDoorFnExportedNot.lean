/- laws.FnExportedNot returns true at every input, where the library's tables hold what their initialisers lay (the card ties that to the program's text). -/
import Derived.Test.YtggldaepncnnfaaDoorUni
import Derived.Test.YtggldaepncnnfaaDoorExpLaws
namespace Go.Proofs.YtggldaepncnnfaaDoor.fnExportedNot
open Go.ChangeShapes Go.WideShapes Go.ChangeAt Go.RowKit

set_option maxHeartbeats 1000000 in
theorem walk (a0 : Int) (a1 : ByteArray) (w0 : (Lit.int .u8 a0).wf = true) (z1 : a1.size ≤ 140737488351232) (w : World) (hU : UniTabs w) :
    Calls Tryd.prog 6 #[.int .u8 a0, .string a1] w fun e w' => e = .returned (.bool true) ∧ Below w.heap.size w w' := by
  have hb0 : 0 ≤ a0 ∧ a0 ≤ 255 := by simpa [Lit.wf, IntKind.min, IntKind.max, IntKind.signed, IntKind.bits] using w0
  by_cases h1 : 128 ≤ a0
  · go_enter Tryd.func6, Tryd.ntmps6
    go_wp2_with fail
    go_ret
    exact ⟨rfl, Below.refl _ _⟩
  by_cases h2 : 65 ≤ a0 ∧ a0 ≤ 90
  · obtain ⟨h2, h3⟩ := h2
    go_enter Tryd.func6, Tryd.ntmps6
    go_wp2_with fail
    go_ret
    exact ⟨rfl, Below.refl _ _⟩
  obtain ⟨c, rfl⟩ : ∃ c : UInt8, a0 = (c.toNat : Int) := ⟨UInt8.ofNat a0.toNat, by simp; omega⟩
  have E1 : Hid (expB (⟨#[c]⟩ ++ a1) = false) := by
    show expB (⟨#[c]⟩ ++ a1) = false
    rw [exp_first c a1 (by omega)]
    simp
    omega
  have E2 := Lib.hid exp_empty
  have E3 : Hid (expB (⟨#[65]⟩ ++ a1) = true) := exp_first 65 a1 (by decide)
  rcases (show (c.toNat : Int) < 65 ∨ (90 < (c.toNat : Int) ∧ 65 ≤ (c.toNat : Int)) by omega) with h3 | ⟨h3, h4⟩
  all_goals
    clear h2
    go_enter Tryd.func6, Tryd.ntmps6
    go_wp2_with (refine wpList_newRow rfl (some 16) rfl 1 #[.int .u8 (c.toNat : Int)] 5 ?_ ?_; kernel_rfl; intro w1 hb1 hr1; have hconv1 := conv_one c hr1)
    refine (implIsExportedAt _ _ E1.out _ (hU.below hb1)).mono ?_
    rintro e w2 ⟨rfl, hb2⟩
    go_wp2_with fail
    refine (implIsExportedAt _ _ E2.out _ ((hU.below hb1).below hb2)).mono ?_
    rintro e w3 ⟨rfl, hb3⟩
    go_wp2_with fail
    refine (implIsExportedAt _ _ E3.out _ (((hU.below hb1).below hb2).below hb3)).mono ?_
    rintro e w4 ⟨rfl, hb4⟩
    go_wp2_with fail
    go_ret
    exact ⟨rfl, below_step (below_step (below_step hb1 hb2) hb3) hb4⟩
set_option maxRecDepth 100000 in
theorem lifted (os : Os) (started : os.Started) (H : Type) (enc : TypeId × Value → H) :
    ReturnsInHanded {} Tryd.checked os 6 .any (fun w args => (Rows.fnExportedNotSpec.pre enc Tryd.prog Tryd.f6 [] false w args ∧ laidMetH Tryd.prog Rows.fnExportedNotRow.laid w) ∧ sizedMet enc Tryd.prog Tryd.f6 (OpenSpec.ofChange Rows.fnExportedNotSpec) false w args)
      (Rows.fnExportedNotSpec.post enc Tryd.prog Tryd.f6 false true false false) := by
  refine returnsInHanded_of_change_and (C := Tryd.checked) (X := fun w _ => laidMetH Tryd.prog Rows.fnExportedNotRow.laid w) (fun _ _ _ hh h => h.of_heap hh) own started (by kernel_rfl) Tryd.func6
    (ChangeSpec.witness_shaped (enc := enc) (C := Tryd.checked) (os := os) (X := fun w _ => laidMetH Tryd.prog Rows.fnExportedNotRow.laid w) false (World.laidAll Tryd.prog os Rows.fnExportedNotRow.laid) #[.int .u8 0, .string ByteArray.empty] 8 (World.laidAll_os _ _ _) (World.shaped_of_ZipB (by kernel_rfl) (by kernel_rfl)) (by kernel_rfl) (by kernel_rfl) (by kernel_rfl) (by rw [MakeChecks.laidMetH_plain _ _ _ (by kernel_rfl)]; exact laidMet_laidAll _ (by kernel_rfl) (by kernel_rfl))) ?_
  intro W base args ds gs before hval0 hW _ hsz hL _
  have hsz1 : (DataW.weightsEach Tryd.prog (Tryd.f6.params.toList ++ Rows.fnExportedNotSpec.plain.varTypes Tryd.prog) (ds ++ gs)).all (· ≤ reachBytes) = true := hsz
  have hval : ∀ (j : Nat) t v, Tryd.f6.params[j]? = some t → args[j]? = some v → Value.okWide Tryd.prog W .any base t v := hval0
  have hW1 := hW
  obtain ⟨p, q, hA0, hV, rfl, hfz, hnd⟩ := hW
  have hA : DataW.TrodAll enc Tryd.prog W 0 (fun _ => true) true Tryd.f6.params.toList args.toList ds p := hA0
  rw [Tryd.params6] at hA hval hsz1
  obtain ⟨v0, vs0, d0, ds0, p0, q0, hargs, rfl, rfl, h0, r0⟩ := trodAll_cons hA
  obtain ⟨v1, vs1, d1, ds1, p1, q1, rfl, rfl, rfl, h1, r1⟩ := trodAll_cons r0
  obtain ⟨rfl, rfl, rfl⟩ := trodAll_nil r1
  obtain rfl : args = #[v0, v1] := by cases args; simp_all
  obtain ⟨rfl, rfl⟩ := trodVars_none hV
  obtain ⟨a0, rfl, rfl, rfl, w0⟩ := open_int Tryd.underlying5 (hval 0 5 v0 rfl rfl) h0
  obtain ⟨a1, rfl, rfl, rfl, w1⟩ := Go.ChangeMaps.open_string Tryd.underlying9 (hval 1 9 v1 rfl rfl) h1
  have z1 : a1.size ≤ 140737488351232 := by
    have := sized_string hsz1 (j := 1) (t := 9) rfl rfl
    rw [Lib.size_eq]
    exact this
  clear hA0 hval0
  simp only [List.append_nil] at hW1
  refine (walk a0 a1 w0 z1 W (uniTabs hL)).mono fun e W1 ⟨he, hg⟩ => ?_
  subst he
  exact ⟨_, rfl, _, _, _, [], [], [], hW1, (trodAll_cons_mk (shut_bool Tryd.underlying4 _) trodAll_mk0), (trodAll_cons_mk (shut_int Tryd.underlying5 w0) (trodAll_cons_mk (Go.ChangeMaps.shut_string Tryd.underlying9 w1) trodAll_mk0)), rfl, hg.frame _, fun h => by cases h⟩
theorem said : Rows.FnExportedNotSaid :=
  OpenClaim.holds_of_wide 6 Tryd.f6 rfl rfl rfl rfl rfl rfl rfl ⟨rfl, rfl, rfl, rfl, rfl⟩ rfl rfl rfl rfl rfl (by kernel_rfl) Tryd.func6 (by kernel_rfl)
    (of_decide_eq_true (by kernel_rfl)) (by unfold Func.isWrapper; first | (rw [if_pos (by decide +kernel)]; kernel_rfl) | (rw [if_neg (by decide +kernel)]; exact ⟨rfl, rfl⟩))
    (fun os started H enc _ => lifted os started H enc)
/-- What the card asks besides: no parameter wants a stand-in. -/
theorem plain (f : FuncId) (fn : Func) (hf : Tryd.pinned.checked.prog.funcNamed "loop.example/lib-g03114/laws.FnExportedNot" = some f) (hfn : Tryd.pinned.checked.prog.funcs[f]? = some fn) :
    false = Tryd.pinned.checked.prog.looks [] ∧ ∀ (j : Nat) t, fn.params[j]? = some t → Tryd.pinned.checked.prog.wantsStandIn t = false := by
  obtain rfl : f = 6 := Option.some.inj ((show Tryd.prog.funcNamed "loop.example/lib-g03114/laws.FnExportedNot" = some 6 by kernel_rfl).symm.trans hf) |>.symm
  obtain rfl : fn = Tryd.f6 := (Option.some.inj (Tryd.func6.symm.trans hfn)).symm
  refine ⟨by kernel_rfl, fun j t ht => ?_⟩
  rw [Tryd.params6] at ht
  have hm : t ∈ [5, 9] := by
    have := Array.mem_of_getElem? ht
    simp at this ⊢
    omega
  have hall : ([5, 9].all fun u => !Tryd.prog.wantsStandIn u) = true := by kernel_rfl
  exact (show Tryd.prog.wantsStandIn t = false by simpa using List.all_eq_true.1 hall t hm)
theorem card : Rows.FnExportedNotCardSaid :=
  Claim7.holds_tied_plain_at .later [] _ _ _ _ said (fun _ h => by cases h) (by kernel_rfl) (fun _ h => by cases h) fnExportedNot_row_tie rfl ⟨rfl, rfl⟩ (by kernel_rfl) rfl plain (by kernel_rfl)
#print axioms card
end Go.Proofs.YtggldaepncnnfaaDoor.fnExportedNot
