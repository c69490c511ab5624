/- laws.FnLongestSign returns true at every input, where the library's tables hold what their initialisers lay (the card ties that to the program's text). -/
import Derived.Test.YtabjfjcaackelaaDoorTab
import Derived.Test.YtabjfjcaackelaaDoorMatch
namespace Go.Proofs.YtabjfjcaackelaaDoor.fnLongestSign
open Go.ChangeShapes Go.WideShapes Go.ChangeAt Go.RowKit

def NoTilde (s : ByteArray) (j : Nat) : Prop := ∀ (x : Nat) (hx : x < s.size), x < j → s[x].toNat ≠ 126
theorem no_tilde (s : ByteArray) (h : NoTilde s s.size) : (126 : UInt8) ∉ s.toList := by
  intro hm
  rw [ByteArray.toList_eq] at hm
  obtain ⟨x, hx, he⟩ := List.mem_iff_getElem.1 hm
  have hx' : x < s.size := by simpa using hx
  refine h x hx' hx' ?_
  have : s[x] = 126 := by
    rw [← he]
    rfl
  rw [this]
  rfl

set_option maxHeartbeats 4000000 in
theorem walk (a0 : ByteArray) (w0 : a0.size ≤ maxLen) (w : World) (hT : TokTab w) :
    Calls Tryd.prog 5 #[.string a0] w fun e w' => e = .returned (.bool true) ∧ Below w.heap.size w w' := by
  unfold maxLen at w0
  go_enter Tryd.func5, Tryd.ntmps5
  go_wp2_with fail
  go_loopw [3, 6] (fun b i wr => ∃ j : Nat, j ≤ 81 ∧ i = .int .i64 (j : Int) ∧ b = .int .i64 (matchTo a0 j) ∧ Below w.heap.size w wr) (fun _ i _ => 81 - (intOf i).toNat)
  case atStart => exact ⟨0, by omega, rfl, rfl, Below.refl _ _⟩
  case round =>
    obtain ⟨j, hj, rfl, rfl, hb⟩ := hrel
    have hTr := hT.below hb
    by_cases hlt : j < 81
    · have hrg := matchTo_range a0 j
      have hsz := txt_size (j : Int)
      have hic : iopB (j : Int) = candB (j : Int) := by
        unfold iopB candB opB
        rw [Bool.eq_iff_iff]
        simp
      cases hcand : candB (j : Int)
      · have M := Lib.hid (matchTo_keep a0 j (by simp [hcand]))
        have I : Hid (iopB (j : Int) = false) := hic.trans hcand
        clear hic hcand
        go_wp2_with fail
        refine (implIsOperatorAt _ _ I.out _).mono ?_
        rintro e w1 ⟨rfl, hb1⟩
        go_wp2_with fail
        go_roundw
        case rel => exact ⟨j + 1, by omega, by go_num, by rw [M.out], below_step hb hb1⟩
        case measure => simp [intOf]; omega
      · have I : Hid (iopB (j : Int) = true) := hic.trans hcand
        cases hhit : hitB a0 (j : Int)
        · have M := Lib.hid (matchTo_keep a0 j (by simp [hhit]))
          have H : Hid (preB a0 (txt (j : Int)) = false) := hhit
          clear hic hcand hhit
          go_wp2_with fail
          refine (implIsOperatorAt _ _ I.out _).mono ?_
          rintro e w1 ⟨rfl, hb1⟩
          go_wp2_with fail
          refine (implString _ _ (hTr.below hb1)).mono ?_
          rintro e w2 ⟨rfl, hb2⟩
          go_wp2_with fail
          refine (lawsBeginsAt _ _ _ H.out _).mono ?_
          rintro e w3 ⟨rfl, rfl⟩
          go_wp2_with fail
          go_roundw
          case rel => exact ⟨j + 1, by omega, by go_num, by rw [M.out], below_step (below_step hb hb1) hb2⟩
          case measure => simp [intOf]; omega
        · have H : Hid (preB a0 (txt (j : Int)) = true) := hhit
          by_cases hneg : matchTo a0 j < 0
          · have M := Lib.hid (matchTo_take a0 j (by rw [hcand, hhit]; simp [betterB, hneg]))
            clear hic hcand hhit
            go_wp2_with fail
            refine (implIsOperatorAt _ _ I.out _).mono ?_
            rintro e w1 ⟨rfl, hb1⟩
            go_wp2_with fail
            refine (implString _ _ (hTr.below hb1)).mono ?_
            rintro e w2 ⟨rfl, hb2⟩
            go_wp2_with fail
            refine (lawsBeginsAt _ _ _ H.out _).mono ?_
            rintro e w3 ⟨rfl, rfl⟩
            go_wp2_with fail
            go_roundw
            case rel => exact ⟨j + 1, by omega, by go_num, by rw [M.out], below_step (below_step hb hb1) hb2⟩
            case measure => simp [intOf]; omega
          · have hsb := txt_size (matchTo a0 j)
            have MM : Hid (matchTo a0 (j + 1) = if (txt (matchTo a0 j)).size < (txt (j : Int)).size then (j : Int) else matchTo a0 j) := by
              show matchTo a0 (j + 1) = _
              split
              · rename_i hlong
                exact matchTo_take a0 j (by rw [hcand, hhit]; simp [betterB, hlong])
              · rename_i hlong
                exact matchTo_keep a0 j (by simp [betterB, hlong]; omega)
            clear hic hcand hhit
            by_cases hlong : (txt (matchTo a0 j)).size < (txt (j : Int)).size
            · have M : Hid (matchTo a0 (j + 1) = (j : Int)) := by show _ = _; rw [MM.out, if_pos hlong]
              go_wp2_with fail
              refine (implIsOperatorAt _ _ I.out _).mono ?_
              rintro e w1 ⟨rfl, hb1⟩
              go_wp2_with fail
              refine (implString _ _ (hTr.below hb1)).mono ?_
              rintro e w2 ⟨rfl, hb2⟩
              go_wp2_with fail
              refine (lawsBeginsAt _ _ _ H.out _).mono ?_
              rintro e w3 ⟨rfl, rfl⟩
              go_wp2_with fail
              refine (implString _ _ ((hTr.below hb1).below hb2)).mono ?_
              rintro e w3 ⟨rfl, hb3⟩
              go_wp2_with fail
              refine (implString _ _ (((hTr.below hb1).below hb2).below hb3)).mono ?_
              rintro e w4 ⟨rfl, hb4⟩
              go_wp2_with fail
              go_roundw
              case rel => exact ⟨j + 1, by omega, by go_num, by rw [M.out], below_step (below_step (below_step (below_step hb hb1) hb2) hb3) hb4⟩
              case measure => simp [intOf]; omega
            · have M : Hid (matchTo a0 (j + 1) = matchTo a0 j) := by show _ = _; rw [MM.out, if_neg hlong]
              go_wp2_with fail
              refine (implIsOperatorAt _ _ I.out _).mono ?_
              rintro e w1 ⟨rfl, hb1⟩
              go_wp2_with fail
              refine (implString _ _ (hTr.below hb1)).mono ?_
              rintro e w2 ⟨rfl, hb2⟩
              go_wp2_with fail
              refine (lawsBeginsAt _ _ _ H.out _).mono ?_
              rintro e w3 ⟨rfl, rfl⟩
              go_wp2_with fail
              refine (implString _ _ ((hTr.below hb1).below hb2)).mono ?_
              rintro e w3 ⟨rfl, hb3⟩
              go_wp2_with fail
              refine (implString _ _ (((hTr.below hb1).below hb2).below hb3)).mono ?_
              rintro e w4 ⟨rfl, hb4⟩
              go_wp2_with fail
              go_roundw
              case rel => exact ⟨j + 1, by omega, by go_num, by rw [M.out], below_step (below_step (below_step (below_step hb hb1) hb2) hb3) hb4⟩
              case measure => simp [intOf]; omega
    · obtain rfl : j = 81 := by omega
      have hrg := matchTo_range a0 81
      go_wp2_with fail
      obtain ⟨wo, rfl⟩ : ∃ wo : World, wo = wr := ⟨_, rfl⟩
      go_loop [34] (fun i => ∃ x : Nat, x ≤ a0.size ∧ i = .int .i64 (x : Int) ∧ NoTilde a0 x) (fun i => a0.size - (intOf i).toNat)
      case atStart => exact ⟨0, by omega, rfl, (fun x hx h => by omega)⟩
      case round =>
        obtain ⟨x, hx, rfl, hno⟩ := hrel
        by_cases hlt2 : x < a0.size
        · by_cases heq : a0[x].toNat = 126
          · have hq : ((a0[x].toNat : Int) == 126) = true := by rw [heq]; rfl
            clear heq
            go_wp2_with fail
            go_ret
            exact ⟨rfl, hb⟩
          · have hq : ((a0[x].toNat : Int) == 126) = false := by rw [beq_eq_false_iff_ne]; omega
            have R : NoTilde a0 (x + 1) := fun y hy hyx => by
              by_cases hyx2 : y = x
              · subst hyx2; exact heq
              · exact hno y hy (by omega)
            clear heq
            go_wp2_with fail
            go_round
            case rel => exact ⟨x + 1, by omega, by go_num, R⟩
            case measure => simp [intOf]; omega
        · obtain rfl : x = a0.size := by omega
          have M := Lib.hid (match_none a0 (no_tilde a0 hno))
          go_wp2_with fail
          refine (specMatch a0 _).mono ?_
          rintro e w2 ⟨rfl, hb2⟩
          rw [M.out]
          go_wp2_with fail
          go_ret
          exact ⟨ret_bool (by simp), below_step hb hb2⟩
set_option maxRecDepth 100000 in
theorem lifted (os : Os) (started : os.Started) (H : Type) (enc : TypeId × Value → H) :
    ReturnsInHanded {} Tryd.checked os 5 .any (fun w args => (Rows.fnLongestSignSpec.pre enc Tryd.prog Tryd.f5 [] false w args ∧ laidMetH Tryd.prog Rows.fnLongestSignRow.laid w) ∧ sizedMet enc Tryd.prog Tryd.f5 (OpenSpec.ofChange Rows.fnLongestSignSpec) false w args)
      (Rows.fnLongestSignSpec.post enc Tryd.prog Tryd.f5 false true false false) := by
  refine returnsInHanded_of_change_and (C := Tryd.checked) (X := fun w _ => laidMetH Tryd.prog Rows.fnLongestSignRow.laid w) (fun _ _ _ hh h => h.of_heap hh) own started (by kernel_rfl) Tryd.func5
    (ChangeSpec.witness_shaped (enc := enc) (C := Tryd.checked) (os := os) (X := fun w _ => laidMetH Tryd.prog Rows.fnLongestSignRow.laid w) false (World.doorLaid Tryd.prog 29 os) #[.string ByteArray.empty] 8 rfl (World.shaped_of_RefB (by kernel_rfl) (by kernel_rfl)) (by kernel_rfl) (by kernel_rfl) (by kernel_rfl) (door_met os _)) ?_
  intro W base args ds gs before hval0 hW _ hsz hL _
  have hval : ∀ (j : Nat) t v, Tryd.f5.params[j]? = some t → args[j]? = some v → Value.okWide Tryd.prog W .any base t v := hval0
  have hW1 := hW
  obtain ⟨p, q, hA0, hV, rfl, hfz, hnd⟩ := hW
  have hA : DataW.TrodAll enc Tryd.prog W 0 (fun _ => true) true Tryd.f5.params.toList args.toList ds p := hA0
  rw [Tryd.params5] at hA hval
  obtain ⟨v0, vs0, d0, ds0, p0, q0, hargs, rfl, rfl, h0, r0⟩ := trodAll_cons hA
  obtain ⟨rfl, rfl, rfl⟩ := trodAll_nil r0
  obtain rfl : args = #[v0] := by cases args; simp_all
  obtain ⟨rfl, rfl⟩ := trodVars_none hV
  obtain ⟨a0, rfl, rfl, rfl, w0⟩ := Go.ChangeMaps.open_string Tryd.underlying9 (hval 0 9 v0 rfl rfl) h0
  clear hA0 hval0
  simp only [List.append_nil] at hW1
  refine (walk a0 w0 W (tokTab hL)).mono fun e W1 ⟨he, hg⟩ => ?_
  subst he
  exact ⟨_, rfl, _, _, _, [], [], [], hW1, (trodAll_cons_mk (shut_bool Tryd.underlying4 _) trodAll_mk0), (trodAll_cons_mk (Go.ChangeMaps.shut_string Tryd.underlying9 w0) trodAll_mk0), rfl, hg.frame _, fun h => by cases h⟩
theorem said : Rows.FnLongestSignSaid :=
  OpenClaim.holds_of_wide 5 Tryd.f5 rfl rfl rfl rfl rfl rfl rfl ⟨rfl, rfl, rfl, rfl, rfl⟩ rfl rfl rfl rfl rfl (by kernel_rfl) Tryd.func5 (by kernel_rfl)
    (of_decide_eq_true (by kernel_rfl)) (by unfold Func.isWrapper; first | (rw [if_pos (by decide +kernel)]; kernel_rfl) | (rw [if_neg (by decide +kernel)]; exact ⟨rfl, rfl⟩))
    (fun os started H enc _ => lifted os started H enc)
/-- What the card asks besides: no parameter wants a stand-in. -/
theorem plain (f : FuncId) (fn : Func) (hf : Tryd.pinned.checked.prog.funcNamed "loop.example/lib-g03114/laws.FnLongestSign" = some f) (hfn : Tryd.pinned.checked.prog.funcs[f]? = some fn) :
    false = Tryd.pinned.checked.prog.looks [] ∧ ∀ (j : Nat) t, fn.params[j]? = some t → Tryd.pinned.checked.prog.wantsStandIn t = false := by
  obtain rfl : f = 5 := Option.some.inj ((show Tryd.prog.funcNamed "loop.example/lib-g03114/laws.FnLongestSign" = some 5 by kernel_rfl).symm.trans hf) |>.symm
  obtain rfl : fn = Tryd.f5 := (Option.some.inj (Tryd.func5.symm.trans hfn)).symm
  refine ⟨by kernel_rfl, fun j t ht => ?_⟩
  rw [Tryd.params5] at ht
  have hm : t ∈ [9] := by
    have := Array.mem_of_getElem? ht
    simp at this ⊢
    omega
  have hall : ([9].all fun u => !Tryd.prog.wantsStandIn u) = true := by kernel_rfl
  exact (show Tryd.prog.wantsStandIn t = false by simpa using List.all_eq_true.1 hall t hm)
theorem card : Rows.FnLongestSignCardSaid :=
  Claim7.holds_tied_plain_at .later [] _ _ _ _ said (fun _ h => by cases h) (by kernel_rfl) (fun _ h => by cases h) fnLongestSign_row_tie rfl ⟨rfl, rfl⟩ (by kernel_rfl) rfl plain (by kernel_rfl)
#print axioms card
end Go.Proofs.YtabjfjcaackelaaDoor.fnLongestSign
