/- laws.FnGrouped returns true at every input, where the library's tables hold what their initialisers lay (the card ties that to the program's text). -/
import Derived.Test.YtabjfjcaackelaaDoorTab
import Derived.Test.YtabjfjcaackelaaDoorIntsFrame
import Derived.Test.YtabjfjcaackelaaDoorGrpd
namespace Go.Proofs.YtabjfjcaackelaaDoor.fnGrouped
open Go.ChangeShapes Go.WideShapes Go.ChangeAt Go.RowKit

set_option maxRecDepth 100000 in
set_option maxHeartbeats 4000000 in
theorem walk {w : World} (A : Option Addr) (cap : Nat) (zs : List Int) (hn : zs.length ≤ 17592186044416) (hI : IntsAt w A zs) (_hx : ∀ x ∈ zs, (Lit.int .i64 x).wf = true) (hc : zs.length ≤ cap) (hm : cap ≤ 17592186044416) (hT : TokTab w) :
    Calls Tryd.prog 7 #[.slice A zs.length cap] w fun e w' => e = .returned (.bool true) ∧ Below w.heap.size w w' := by
  have C1 := Lib.hid (lawsBinary A cap zs hn hI)
  cases hb : binB zs
  · rw [hb] at C1
    clear hI hT hb hn hc hm
    go_enter Tryd.func7, Tryd.ntmps7
    go_wp2_with fail
    refine C1.out.mono ?_
    rintro e w1 ⟨rfl, hb1⟩
    go_wp2_with fail
    go_ret
    exact ⟨rfl, hb1⟩
  · rw [hb] at C1
    have C2 := Lib.hid (fun W (hW : Below w.heap.size w W) => lawsGrouped A cap zs hn (hI.below hW) hb (hT.below hW))
    have C3 := Lib.hid (fun W (hW : Below w.heap.size w W) => specGrouped A cap zs hc hm (hI.below hW))
    clear hI hT hb hn hc hm
    go_enter Tryd.func7, Tryd.ntmps7
    go_wp2_with fail
    refine C1.out.mono ?_
    rintro e w1 ⟨rfl, hb1⟩
    go_wp2_with fail
    refine (C2.out _ hb1).mono ?_
    rintro e w2 ⟨rfl, hb2⟩
    go_wp2_with fail
    refine (C3.out _ (below_step hb1 hb2)).mono ?_
    rintro e w3 ⟨rfl, hb3⟩
    go_wp2_with fail
    go_ret
    exact ⟨rfl, below_step (below_step hb1 hb2) hb3⟩
set_option maxRecDepth 100000 in
theorem lifted (os : Os) (started : os.Started) (H : Type) (enc : TypeId × Value → H) :
    ReturnsInHanded {} Tryd.checked os 7 .any (fun w args => (Rows.fnGroupedSpec.pre enc Tryd.prog Tryd.f7 [] false w args ∧ laidMetH Tryd.prog Rows.fnGroupedRow.laid w) ∧ sizedMet enc Tryd.prog Tryd.f7 (OpenSpec.ofChange Rows.fnGroupedSpec) false w args)
      (Rows.fnGroupedSpec.post enc Tryd.prog Tryd.f7 false true false false) := by
  refine returnsInHanded_of_change_and (C := Tryd.checked) (X := fun w _ => laidMetH Tryd.prog Rows.fnGroupedRow.laid w) (fun _ _ _ hh h => h.of_heap hh) own started (by kernel_rfl) Tryd.func7
    (ChangeSpec.witness_shaped (enc := enc) (C := Tryd.checked) (os := os) (X := fun w _ => laidMetH Tryd.prog Rows.fnGroupedRow.laid w) false (World.doorLaid Tryd.prog 29 os) #[.slice none 0 0] 8 rfl (World.shaped_of_RefB (by kernel_rfl) (by kernel_rfl)) (by kernel_rfl) (by kernel_rfl) (by kernel_rfl) (door_met os _)) ?_
  intro W base args ds gs before hval0 hW _ hsz hL _
  have hval : ∀ (j : Nat) t v, Tryd.f7.params[j]? = some t → args[j]? = some v → Value.okWide Tryd.prog W .any base t v := hval0
  have hsz1 : (DataW.weightsEach Tryd.prog (Tryd.f7.params.toList ++ Rows.fnGroupedSpec.plain.varTypes Tryd.prog) (ds ++ gs)).all (· ≤ reachBytes) = true := hsz
  have hW1 := hW
  obtain ⟨p, q, hA0, hV, rfl, hfz, hnd⟩ := hW
  have hA : DataW.TrodAll enc Tryd.prog W 0 (fun _ => true) true Tryd.f7.params.toList args.toList ds p := hA0
  rw [Tryd.params7] at hA hval hsz1
  have hAA := hA
  obtain ⟨v0, vs0, d0, ds0, p0, q0, hargs, rfl, rfl, h0, r0⟩ := trodAll_cons hA
  obtain ⟨rfl, rfl, rfl⟩ := trodAll_nil r0
  obtain rfl : args = #[v0] := by cases args; simp_all
  obtain ⟨rfl, rfl⟩ := trodVars_none hV
  obtain ⟨A0, zs0, cap0, rfl, hn0, hI0, hx0, hc0, hm0⟩ := ints_open (j := 0) (okWide_slice Tryd.underlying28 (hval 0 28 v0 rfl rfl)) h0 hsz1 rfl rfl
  have hlt : ∀ x ∈ (p0 ++ []), x.block < W.heap.size := fun x hx => hW1.lt x (by simpa using hx)
  clear hA0 hval0
  simp only [List.append_nil] at hW1
  refine (walk A0 cap0 zs0 hn0 hI0 hx0 hc0 hm0 (tokTab hL)).mono fun e W1 ⟨he, hg⟩ => ?_
  subst he
  exact ⟨_, rfl, _, _, _, [], (p0 ++ []), [], hW1, (trodAll_cons_mk (shut_bool Tryd.underlying4 _) trodAll_mk0), trodAll_below laidOut hg (all_readable (by kernel_rfl)) hAA hlt, rfl, hg.frame _, fun h => by cases h⟩
theorem said : Rows.FnGroupedSaid :=
  OpenClaim.holds_of_wide 7 Tryd.f7 rfl rfl rfl rfl rfl rfl rfl ⟨rfl, rfl, rfl, rfl, rfl⟩ rfl rfl rfl rfl rfl (by kernel_rfl) Tryd.func7 (by kernel_rfl)
    (of_decide_eq_true (by kernel_rfl)) (by unfold Func.isWrapper; first | (rw [if_pos (by decide +kernel)]; kernel_rfl) | (rw [if_neg (by decide +kernel)]; exact ⟨rfl, rfl⟩))
    (fun os started H enc _ => lifted os started H enc)
/-- What the card asks besides: no parameter wants a stand-in. -/
theorem plain (f : FuncId) (fn : Func) (hf : Tryd.pinned.checked.prog.funcNamed "loop.example/lib-g03114/laws.FnGrouped" = some f) (hfn : Tryd.pinned.checked.prog.funcs[f]? = some fn) :
    false = Tryd.pinned.checked.prog.looks [] ∧ ∀ (j : Nat) t, fn.params[j]? = some t → Tryd.pinned.checked.prog.wantsStandIn t = false := by
  obtain rfl : f = 7 := Option.some.inj ((show Tryd.prog.funcNamed "loop.example/lib-g03114/laws.FnGrouped" = some 7 by kernel_rfl).symm.trans hf) |>.symm
  obtain rfl : fn = Tryd.f7 := (Option.some.inj (Tryd.func7.symm.trans hfn)).symm
  refine ⟨by kernel_rfl, fun j t ht => ?_⟩
  rw [Tryd.params7] at ht
  have hm : t ∈ [28] := by
    have := Array.mem_of_getElem? ht
    simp at this ⊢
    omega
  have hall : ([28].all fun u => !Tryd.prog.wantsStandIn u) = true := by kernel_rfl
  exact (show Tryd.prog.wantsStandIn t = false by simpa using List.all_eq_true.1 hall t hm)
theorem card : Rows.FnGroupedCardSaid :=
  Claim7.holds_tied_plain_at .later [] _ _ _ _ said (fun _ h => by cases h) (by kernel_rfl) (fun _ h => by cases h) fnGrouped_row_tie rfl ⟨rfl, rfl⟩ (by kernel_rfl) rfl plain (by kernel_rfl)
#print axioms card
end Go.Proofs.YtabjfjcaackelaaDoor.fnGrouped
