/- laws.FnExportedCapital returns true at every input, where the library's tables hold what their initialisers lay (the card ties that to the program's text). -/
import Derived.Test.YtggldaepncnnfaaDoorUni
import Derived.Test.YtggldaepncnnfaaDoorExpLaws
namespace Go.Proofs.YtggldaepncnnfaaDoor.fnExportedCapital
open Go.ChangeShapes Go.WideShapes Go.ChangeAt Go.RowKit

set_option maxHeartbeats 1000000 in
theorem walk (a0 : Int) (a1 : ByteArray) (_w0 : (Lit.int .i64 a0).wf = true) (z1 : a1.size ≤ 140737488351232) (w : World) (hU : UniTabs w) :
    Calls Tryd.prog 4 #[.int .i64 a0, .string a1] w fun e w' => e = .returned (.bool true) ∧ Below w.heap.size w w' := by
  by_cases h1 : a0 < 0
  · go_enter Tryd.func4, Tryd.ntmps4
    go_wp2_with fail
    go_ret
    exact ⟨rfl, Below.refl _ _⟩
  by_cases h2 : 25 < a0
  · go_enter Tryd.func4, Tryd.ntmps4
    go_wp2_with fail
    go_ret
    exact ⟨rfl, Below.refl _ _⟩
  obtain ⟨c, hc⟩ : ∃ c : UInt8, 65 + a0 = (c.toNat : Int) := ⟨UInt8.ofNat (65 + a0).toNat, by simp; omega⟩
  obtain ⟨d, hd⟩ : ∃ d : UInt8, 97 + a0 = (d.toNat : Int) := ⟨UInt8.ofNat (97 + a0).toNat, by simp; omega⟩
  have E1 : Hid (expB (⟨#[c]⟩ ++ a1) = true) := by
    show expB (⟨#[c]⟩ ++ a1) = true
    rw [exp_first c a1 (by omega)]
    simp
    omega
  have E2 : Hid (expB (⟨#[d]⟩ ++ a1) = false) := by
    show expB (⟨#[d]⟩ ++ a1) = false
    rw [exp_first d a1 (by omega)]
    simp
    omega
  have C := Lib.hid hc
  have D := Lib.hid hd
  clear hc hd
  go_enter Tryd.func4, Tryd.ntmps4
  go_wp2_with (refine wpList_newRow rfl (some 14) rfl 1 #[.int .u8 (65 + a0)] 5 ?_ ?_; kernel_rfl; intro w1 hb1 hr1; have hconv1 := conv_one c (by rw [← C.out]; exact hr1))
  refine (implIsExportedAt _ _ E1.out _ (hU.below hb1)).mono ?_
  rintro e w2 ⟨rfl, hb2⟩
  have hconv2 := conv_one (w := w2.alloc (.cells #[.int .u8 (97 + a0)] 5)) (b := w2.heap.size) d (Row.new _ _ _ _ (by rw [D.out]))
  go_wp2_with fail
  refine (implIsExportedAt _ _ E2.out _ (((hU.below hb1).below hb2).below (below_new _ _))).mono ?_
  rintro e w4 ⟨rfl, hb4⟩
  go_wp2_with fail
  go_ret
  exact ⟨rfl, below_step (below_step (below_step hb1 hb2) (below_new _ _)) hb4⟩
set_option maxRecDepth 100000 in
theorem lifted (os : Os) (started : os.Started) (H : Type) (enc : TypeId × Value → H) :
    ReturnsInHanded {} Tryd.checked os 4 .any (fun w args => (Rows.fnExportedCapitalSpec.pre enc Tryd.prog Tryd.f4 [] false w args ∧ laidMetH Tryd.prog Rows.fnExportedCapitalRow.laid w) ∧ sizedMet enc Tryd.prog Tryd.f4 (OpenSpec.ofChange Rows.fnExportedCapitalSpec) false w args)
      (Rows.fnExportedCapitalSpec.post enc Tryd.prog Tryd.f4 false true false false) := by
  refine returnsInHanded_of_change_and (C := Tryd.checked) (X := fun w _ => laidMetH Tryd.prog Rows.fnExportedCapitalRow.laid w) (fun _ _ _ hh h => h.of_heap hh) own started (by kernel_rfl) Tryd.func4
    (ChangeSpec.witness_shaped (enc := enc) (C := Tryd.checked) (os := os) (X := fun w _ => laidMetH Tryd.prog Rows.fnExportedCapitalRow.laid w) false (World.laidAll Tryd.prog os Rows.fnExportedCapitalRow.laid) #[.int .i64 0, .string ByteArray.empty] 8 (World.laidAll_os _ _ _) (World.shaped_of_ZipB (by kernel_rfl) (by kernel_rfl)) (by kernel_rfl) (by kernel_rfl) (by kernel_rfl) (by rw [MakeChecks.laidMetH_plain _ _ _ (by kernel_rfl)]; exact laidMet_laidAll _ (by kernel_rfl) (by kernel_rfl))) ?_
  intro W base args ds gs before hval0 hW _ hsz hL _
  have hsz1 : (DataW.weightsEach Tryd.prog (Tryd.f4.params.toList ++ Rows.fnExportedCapitalSpec.plain.varTypes Tryd.prog) (ds ++ gs)).all (· ≤ reachBytes) = true := hsz
  have hval : ∀ (j : Nat) t v, Tryd.f4.params[j]? = some t → args[j]? = some v → Value.okWide Tryd.prog W .any base t v := hval0
  have hW1 := hW
  obtain ⟨p, q, hA0, hV, rfl, hfz, hnd⟩ := hW
  have hA : DataW.TrodAll enc Tryd.prog W 0 (fun _ => true) true Tryd.f4.params.toList args.toList ds p := hA0
  rw [Tryd.params4] at hA hval hsz1
  obtain ⟨v0, vs0, d0, ds0, p0, q0, hargs, rfl, rfl, h0, r0⟩ := trodAll_cons hA
  obtain ⟨v1, vs1, d1, ds1, p1, q1, rfl, rfl, rfl, h1, r1⟩ := trodAll_cons r0
  obtain ⟨rfl, rfl, rfl⟩ := trodAll_nil r1
  obtain rfl : args = #[v0, v1] := by cases args; simp_all
  obtain ⟨rfl, rfl⟩ := trodVars_none hV
  obtain ⟨a0, rfl, rfl, rfl, w0⟩ := open_int Tryd.underlying3 (hval 0 3 v0 rfl rfl) h0
  obtain ⟨a1, rfl, rfl, rfl, w1⟩ := Go.ChangeMaps.open_string Tryd.underlying9 (hval 1 9 v1 rfl rfl) h1
  have z1 : a1.size ≤ 140737488351232 := by
    have := sized_string hsz1 (j := 1) (t := 9) rfl rfl
    rw [Lib.size_eq]
    exact this
  clear hA0 hval0
  simp only [List.append_nil] at hW1
  refine (walk a0 a1 w0 z1 W (uniTabs hL)).mono fun e W1 ⟨he, hg⟩ => ?_
  subst he
  exact ⟨_, rfl, _, _, _, [], [], [], hW1, (trodAll_cons_mk (shut_bool Tryd.underlying4 _) trodAll_mk0), (trodAll_cons_mk (shut_int Tryd.underlying3 w0) (trodAll_cons_mk (Go.ChangeMaps.shut_string Tryd.underlying9 w1) trodAll_mk0)), rfl, hg.frame _, fun h => by cases h⟩
theorem said : Rows.FnExportedCapitalSaid :=
  OpenClaim.holds_of_wide 4 Tryd.f4 rfl rfl rfl rfl rfl rfl rfl ⟨rfl, rfl, rfl, rfl, rfl⟩ rfl rfl rfl rfl rfl (by kernel_rfl) Tryd.func4 (by kernel_rfl)
    (of_decide_eq_true (by kernel_rfl)) (by unfold Func.isWrapper; first | (rw [if_pos (by decide +kernel)]; kernel_rfl) | (rw [if_neg (by decide +kernel)]; exact ⟨rfl, rfl⟩))
    (fun os started H enc _ => lifted os started H enc)
/-- What the card asks besides: no parameter wants a stand-in. -/
theorem plain (f : FuncId) (fn : Func) (hf : Tryd.pinned.checked.prog.funcNamed "loop.example/lib-g03114/laws.FnExportedCapital" = some f) (hfn : Tryd.pinned.checked.prog.funcs[f]? = some fn) :
    false = Tryd.pinned.checked.prog.looks [] ∧ ∀ (j : Nat) t, fn.params[j]? = some t → Tryd.pinned.checked.prog.wantsStandIn t = false := by
  obtain rfl : f = 4 := Option.some.inj ((show Tryd.prog.funcNamed "loop.example/lib-g03114/laws.FnExportedCapital" = some 4 by kernel_rfl).symm.trans hf) |>.symm
  obtain rfl : fn = Tryd.f4 := (Option.some.inj (Tryd.func4.symm.trans hfn)).symm
  refine ⟨by kernel_rfl, fun j t ht => ?_⟩
  rw [Tryd.params4] at ht
  have hm : t ∈ [3, 9] := by
    have := Array.mem_of_getElem? ht
    simp at this ⊢
    omega
  have hall : ([3, 9].all fun u => !Tryd.prog.wantsStandIn u) = true := by kernel_rfl
  exact (show Tryd.prog.wantsStandIn t = false by simpa using List.all_eq_true.1 hall t hm)
theorem card : Rows.FnExportedCapitalCardSaid :=
  Claim7.holds_tied_plain_at .later [] _ _ _ _ said (fun _ h => by cases h) (by kernel_rfl) (fun _ h => by cases h) fnExportedCapital_row_tie rfl ⟨rfl, rfl⟩ (by kernel_rfl) rfl plain (by kernel_rfl)
#print axioms card
end Go.Proofs.YtggldaepncnnfaaDoor.fnExportedCapital
