/- laws.FnExportedTexts returns true at every input, where the library's tables hold what their initialisers lay (the card ties that to the program's text). -/
import Derived.Test.YtggldaepncnnfaaDoorUni
import Derived.Test.YtggldaepncnnfaaDoorExpLaws
import Derived.Test.YtggldaepncnnfaaDoorTab
import Derived.Test.YtggldaepncnnfaaDoorSpec
namespace Go.Proofs.YtggldaepncnnfaaDoor.fnExportedTexts
open Go.ChangeShapes Go.WideShapes Go.ChangeAt Go.RowKit

def Tabs (w : World) : Prop := TokTab w ∧ UniTabs w
theorem tabs {W : World} (h : laidMetH Tryd.prog [("math/bits.deBruijn32tab", Rows.laid_math_bits_deBruijn32tab), ("math/bits.deBruijn64tab", Rows.laid_math_bits_deBruijn64tab), ("internal/strconv.uint64pow10", Rows.laid_internal_strconv_uint64pow10), ("unicode/utf8.acceptRanges", Rows.laid_unicode_utf8_acceptRanges), ("unicode.properties", Rows.laid_unicode_properties), ("go/token.tokens", Rows.laid_go_token_tokens), ("unicode.Upper", Rows.laid_unicode_Upper), ("unicode/utf8.first", Rows.laid_unicode_utf8_first)] W) : Tabs W := by
  rw [MakeChecks.laidMetH_plain _ _ _ (by kernel_rfl)] at h
  exact ⟨tokTab_of h.tail.tail.tail.tail.tail, uni_of h (.tail _ (.tail _ (.tail _ (.head _)))) (.tail _ (.tail _ (.tail _ (.tail _ (.head _))))) (.tail _ (.tail _ (.tail _ (.tail _ (.tail _ (.tail _ (.head _))))))) (.tail _ (.tail _ (.tail _ (.tail _ (.tail _ (.tail _ (.tail _ (.head _))))))))⟩

theorem exp_all : ∀ i : Fin 81, expB (txt (i.val : Int)) = decide (i.val < 9) := by decide +kernel
theorem exp_txt (k : Int) (h : k ≠ 81) : expB (txt k) = (!opB k && !kwB k) := by
  have hp := place_cases k
  have := exp_all ⟨(place k).toNat, by omega⟩
  simp only at this
  rw [Int.toNat_of_nonneg (by omega), txt_place] at this
  rw [this]
  unfold opB kwB
  rw [Bool.eq_iff_iff]
  simp
  omega

set_option maxHeartbeats 1000000 in
theorem walk (a0 : Int) (_w0 : (Lit.int .i64 a0).wf = true) (w : World) (hTU : Tabs w) :
    Calls Tryd.prog 3 #[.int .i64 a0] w fun e w' => e = .returned (.bool true) ∧ Below w.heap.size w w' := by
  obtain ⟨hT, hU⟩ := hTU
  by_cases h81 : a0 = 81
  · subst h81
    go_enter Tryd.func3, Tryd.ntmps3
    go_wp2_with fail
    go_ret
    exact ⟨rfl, Below.refl _ _⟩
  have n81 : (a0 == 81) = false := beq_eq_false_iff_ne.2 h81
  have hx := exp_txt a0 h81
  clear h81
  cases h0 : opB a0
  · cases h1 : kwB a0
    all_goals
      rw [h0, h1] at hx
      have X := Lib.hid hx
      have H0 := Lib.hid h0
      have H1 := Lib.hid h1
      clear h0 h1 hx
      go_enter Tryd.func3, Tryd.ntmps3
      go_wp2_with fail
      refine (implString a0 _ hT).mono ?_
      rintro e w1 ⟨rfl, hb1⟩
      go_wp2_with fail
      refine (implIsExportedAt _ _ X.out _ (hU.below hb1)).mono ?_
      rintro e w2 ⟨rfl, hb2⟩
      go_wp2_with fail
      refine (specIsOperatorAt a0 _ H0.out _).mono ?_
      rintro e w3 ⟨rfl, hb3⟩
      go_wp2_with fail
      refine (specIsKeywordAt a0 _ H1.out _).mono ?_
      rintro e w4 ⟨rfl, hb4⟩
      go_wp2_with fail
      go_ret
      exact ⟨rfl, below_step (below_step (below_step hb1 hb2) hb3) hb4⟩
  · rw [h0] at hx
    have X : Hid (expB (txt a0) = false) := by show _ = _; rw [hx]; rfl
    have H0 := Lib.hid h0
    clear h0 hx
    go_enter Tryd.func3, Tryd.ntmps3
    go_wp2_with fail
    refine (implString a0 _ hT).mono ?_
    rintro e w1 ⟨rfl, hb1⟩
    go_wp2_with fail
    refine (implIsExportedAt _ _ X.out _ (hU.below hb1)).mono ?_
    rintro e w2 ⟨rfl, hb2⟩
    go_wp2_with fail
    refine (specIsOperatorAt a0 _ H0.out _).mono ?_
    rintro e w3 ⟨rfl, hb3⟩
    go_wp2_with fail
    go_ret
    exact ⟨rfl, below_step (below_step hb1 hb2) hb3⟩
set_option maxRecDepth 100000 in
theorem lifted (os : Os) (started : os.Started) (H : Type) (enc : TypeId × Value → H) :
    ReturnsInHanded {} Tryd.checked os 3 .any (fun w args => (Rows.fnExportedTextsSpec.pre enc Tryd.prog Tryd.f3 [] false w args ∧ laidMetH Tryd.prog Rows.fnExportedTextsRow.laid w) ∧ sizedMet enc Tryd.prog Tryd.f3 (OpenSpec.ofChange Rows.fnExportedTextsSpec) false w args)
      (Rows.fnExportedTextsSpec.post enc Tryd.prog Tryd.f3 false true false false) := by
  refine returnsInHanded_of_change_and (C := Tryd.checked) (X := fun w _ => laidMetH Tryd.prog Rows.fnExportedTextsRow.laid w) (fun _ _ _ hh h => h.of_heap hh) own started (by kernel_rfl) Tryd.func3
    (ChangeSpec.witness_shaped (enc := enc) (C := Tryd.checked) (os := os) (X := fun w _ => laidMetH Tryd.prog Rows.fnExportedTextsRow.laid w) false (World.laidAll Tryd.prog os Rows.fnExportedTextsRow.laid) #[.int .i64 0] 8 (World.laidAll_os _ _ _) (World.shaped_of_ZipB (by kernel_rfl) (by kernel_rfl)) (by kernel_rfl) (by kernel_rfl) (by kernel_rfl) (by rw [MakeChecks.laidMetH_plain _ _ _ (by kernel_rfl)]; exact laidMet_laidAll _ (by kernel_rfl) (by kernel_rfl))) ?_
  intro W base args ds gs before hval0 hW _ hsz hL _
  have hval : ∀ (j : Nat) t v, Tryd.f3.params[j]? = some t → args[j]? = some v → Value.okWide Tryd.prog W .any base t v := hval0
  have hW1 := hW
  obtain ⟨p, q, hA0, hV, rfl, hfz, hnd⟩ := hW
  have hA : DataW.TrodAll enc Tryd.prog W 0 (fun _ => true) true Tryd.f3.params.toList args.toList ds p := hA0
  rw [Tryd.params3] at hA hval
  obtain ⟨v0, vs0, d0, ds0, p0, q0, hargs, rfl, rfl, h0, r0⟩ := trodAll_cons hA
  obtain ⟨rfl, rfl, rfl⟩ := trodAll_nil r0
  obtain rfl : args = #[v0] := by cases args; simp_all
  obtain ⟨rfl, rfl⟩ := trodVars_none hV
  obtain ⟨a0, rfl, rfl, rfl, w0⟩ := open_int Tryd.underlying3 (hval 0 3 v0 rfl rfl) h0
  clear hA0 hval0
  simp only [List.append_nil] at hW1
  refine (walk a0 w0 W (tabs hL)).mono fun e W1 ⟨he, hg⟩ => ?_
  subst he
  exact ⟨_, rfl, _, _, _, [], [], [], hW1, (trodAll_cons_mk (shut_bool Tryd.underlying4 _) trodAll_mk0), (trodAll_cons_mk (shut_int Tryd.underlying3 w0) trodAll_mk0), rfl, hg.frame _, fun h => by cases h⟩
theorem said : Rows.FnExportedTextsSaid :=
  OpenClaim.holds_of_wide 3 Tryd.f3 rfl rfl rfl rfl rfl rfl rfl ⟨rfl, rfl, rfl, rfl, rfl⟩ rfl rfl rfl rfl rfl (by kernel_rfl) Tryd.func3 (by kernel_rfl)
    (of_decide_eq_true (by kernel_rfl)) (by unfold Func.isWrapper; first | (rw [if_pos (by decide +kernel)]; kernel_rfl) | (rw [if_neg (by decide +kernel)]; exact ⟨rfl, rfl⟩))
    (fun os started H enc _ => lifted os started H enc)
/-- What the card asks besides: no parameter wants a stand-in. -/
theorem plain (f : FuncId) (fn : Func) (hf : Tryd.pinned.checked.prog.funcNamed "loop.example/lib-g03114/laws.FnExportedTexts" = some f) (hfn : Tryd.pinned.checked.prog.funcs[f]? = some fn) :
    false = Tryd.pinned.checked.prog.looks [] ∧ ∀ (j : Nat) t, fn.params[j]? = some t → Tryd.pinned.checked.prog.wantsStandIn t = false := by
  obtain rfl : f = 3 := Option.some.inj ((show Tryd.prog.funcNamed "loop.example/lib-g03114/laws.FnExportedTexts" = some 3 by kernel_rfl).symm.trans hf) |>.symm
  obtain rfl : fn = Tryd.f3 := (Option.some.inj (Tryd.func3.symm.trans hfn)).symm
  refine ⟨by kernel_rfl, fun j t ht => ?_⟩
  rw [Tryd.params3] at ht
  have hm : t ∈ [3] := by
    have := Array.mem_of_getElem? ht
    simp at this ⊢
    omega
  have hall : ([3].all fun u => !Tryd.prog.wantsStandIn u) = true := by kernel_rfl
  exact (show Tryd.prog.wantsStandIn t = false by simpa using List.all_eq_true.1 hall t hm)
theorem card : Rows.FnExportedTextsCardSaid :=
  Claim7.holds_tied_plain_at .later [] _ _ _ _ said (fun _ h => by cases h) (by kernel_rfl) (fun _ h => by cases h) fnExportedTexts_row_tie rfl ⟨rfl, rfl⟩ (by kernel_rfl) rfl plain (by kernel_rfl)
#print axioms card
end Go.Proofs.YtggldaepncnnfaaDoor.fnExportedTexts
