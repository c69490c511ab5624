/- laws.FnBrackets returns true at every input, where the library's tables hold what their initialisers lay (the card ties that to the program's text). -/
import Derived.Test.YtabjfjcaackelaaDoorTab
import Derived.Test.YtabjfjcaackelaaDoorIntsFrame
import Derived.Test.YtabjfjcaackelaaDoorBrk
import Derived.Test.YtabjfjcaackelaaDoorKinds
import Derived.Deep.QuietTactic
import Derived.BigQuiet
import Derived.IntWalk
namespace Go.Proofs.YtabjfjcaackelaaDoor.fnBrackets
open Go.ChangeShapes Go.WideShapes Go.ChangeAt Go.RowKit

theorem info8 : (Tryd.prog.info? 5).map (fun i => (i.zero, i.size, i.bytes)) = some (some (.int .u8 0), 1, 1) := by kernel_rfl

set_option maxRecDepth 100000 in
set_option maxHeartbeats 4000000 in
theorem walk {w : World} (A : Option Addr) (cap : Nat) (zs : List Int) (hn : zs.length ≤ 17592186044416) (hI : IntsAt w A zs) (_hx : ∀ x ∈ zs, (Lit.int .i64 x).wf = true) (_hc : zs.length ≤ cap) (_hm : cap ≤ 17592186044416) (hT : TokTab w) :
    Calls Tryd.prog 6 #[.slice A zs.length cap] w fun e w' => e = .returned (.bool true) ∧ Below w.heap.size w w' := by
  generalize hnn : zs.length = n
  have HN := Lib.hid hnn
  have hn' : n ≤ 17592186044416 := by omega
  clear hnn hn
  go_enter Tryd.func6, Tryd.ntmps6
  go_wp2_with fail
  go_loopw [3, 11] (fun t i wr => ∃ j : Nat, j ≤ n ∧ i = .int .i64 (j : Int) ∧ t = .string (brk zs j 0) ∧ Below w.heap.size w wr) (fun _ i _ => n - (intOf i).toNat)
  case atStart => exact ⟨0, by omega, rfl, rfl, Below.refl _ _⟩
  case round =>
    obtain ⟨j, hj, rfl, rfl, hb⟩ := hrel
    have hTr := hT.below hb
    have hIr := hI.below hb
    have hsz : (brk zs j 0).size ≤ n := by
      have := HN.out
      rw [brk_size zs j 0 (by omega) (Nat.zero_le _)]
      omega
    by_cases hlt : j < n
    · obtain ⟨b, off, rfl, hbk, hc⟩ := hIr.at (i := j) (by have := HN.out; omega)
      have B := Lib.hid (brk_open zs j (by have := HN.out; omega))
      generalize zs.getD j 0 = x at hc B
      have ht := tmod3 x
      have hm := m3_range x
      have hs2 := txt_size (46 + m3 x)
      go_wp2_with fail
      refine (implString (46 + m3 x) _ hTr).mono ?_
      rintro e w1 ⟨rfl, hb1⟩
      go_wp2_with fail
      go_roundw
      case rel => exact ⟨j + 1, by omega, by go_num, by rw [B.out], below_step hb hb1⟩
      case measure => simp [intOf]; omega
    · obtain rfl : j = n := by omega
      clear hlt hj
      go_wp2_with fail
      obtain ⟨w1, rfl⟩ : ∃ w1 : World, w1 = wr := ⟨_, rfl⟩
      go_loopw [3, 6] (fun t i wr => ∃ d : Nat, d ≤ j ∧ i = .int .i64 ((j : Int) - 1 - (d : Int)) ∧ t = .string (brk zs j d) ∧ Below w.heap.size w wr) (fun _ i _ => (intOf i + 1).toNat)
      case atStart => exact ⟨0, by omega, by simp, rfl, hb⟩
      case round =>
        obtain ⟨d, hd, rfl, rfl, hb2⟩ := hrel
        have hTr2 := hT.below hb2
        have hIr2 := hI.below hb2
        have hsz2 : (brk zs j d).size ≤ 2 * j := by
          have := HN.out
          rw [brk_size zs j d (by omega) (by omega)]
          omega
        by_cases hlt : d < j
        · obtain ⟨b, off, rfl, hbk, hc⟩ := hIr2.at (i := j - 1 - d) (by have := HN.out; omega)
          have B : Hid (brk zs j (d + 1) = brk zs j d ++ txt (51 + m3 (zs.getD (j - 1 - d) 0))) := by
            have := HN.out
            subst this
            exact brk_shut zs d hlt
          generalize zs.getD (j - 1 - d) 0 = x at hc B
          have ht := tmod3 x
          have hm := m3_range x
          have hs2 := txt_size (51 + m3 x)
          have hidx : ((j : Int) - 1 - (d : Int)).toNat = j - 1 - d := by omega
          go_wp2_with fail
          refine (implString (51 + m3 x) _ hTr2).mono ?_
          rintro e w3 ⟨rfl, hb3⟩
          go_wp2_with fail
          go_roundw
          case rel => exact ⟨d + 1, by omega, congrArg (Value.int .i64) (by omega), by rw [B.out], below_step hb2 hb3⟩
          case measure => simp [intOf]; omega
        · obtain rfl : d = j := by omega
          clear hlt hd hsz hb hTr hIr
          have hsz3 : (brk zs d d).size = 2 * d := by
            have := HN.out
            rw [brk_size zs d d (by omega) (by omega)]
            omega
          clear hsz2
          have hdd : decide ((d : Int) ≤ (d : Int) - 1) = false := decide_eq_false (by omega)
          have hO : Open w.heap.size 5 zs 0 (.slice (some ⟨wr.heap.size, 0, none⟩) 0 0) (wr.alloc (.cells #[] 5)) :=
            ⟨⟨rfl, Or.inr ⟨wr.heap.size, 0, #[], rfl, hb2.size, heap_alloc_new wr _, Nat.le_refl _, by decide, rfl, rfl⟩⟩, fun hq => by cases hq⟩
          have hb3 : Below w.heap.size w (wr.alloc (.cells #[] 5)) := below_step hb2 (below_new _ _)
          obtain ⟨i0, hi, hz0, hz1, hz2⟩ := info_parts info8
          go_wp2_with fail
          obtain ⟨w2, hw2⟩ : ∃ w2 : World, w2 = wr := ⟨_, rfl⟩
          go_loopw [7, 45] (fun v p wr => ∃ i : Nat, i ≤ 2 * d ∧ p = .int .i64 (i : Int) ∧ Open w.heap.size 5 zs (high d i) v wr ∧ Below w.heap.size w wr) (fun _ p _ => 2 * d - (intOf p).toNat)
          case atStart => exact ⟨0, by omega, rfl, hO, hb3⟩
          case round =>
            clear hO hb3 hw2 hb2 hTr2 hIr2
            obtain ⟨i, hi2, rfl, ho, hb4⟩ := hrel
            by_cases hlt1 : i < d
            · have hh : high d i = i := by unfold high; rw [if_pos (by omega)]
              have hh2 : high d (i + 1) = i + 1 := by unfold high; rw [if_pos (by omega)]
              rw [hh] at ho
              have HH2 := Lib.hid hh2
              have HP := Lib.hid (stack_push zs i (by have := HN.out; omega))
              have hby : ∀ h, (brk zs d d)[i]'h = ob (zs.getD i 0) := by
                have := HN.out
                subst this
                exact fun h => brk_at_open zs i hlt1 h
              generalize zs.getD i 0 = x at hby HP
              clear hh hh2
              have hlt' : i < (brk zs d d).size := by omega
              have hbi := hby hlt'
              clear hby
              obtain ⟨hown, hne⟩ := ho
              rcases ob_cases x with ⟨e1, e2⟩ | ⟨e1, e2⟩ | ⟨e1, e2⟩
              · rw [e1] at hbi
                rw [e2] at HP
                have hq : ((brk zs d d)[i].toNat : Int) = 40 := by rw [hbi]; rfl
                clear hbi e1 e2
                go_wp2_with (at_builtin; refine wpList_append_own _ rfl _ _ 29 rfl w.heap.size 5 i0 (.int .u8 0) 1 1 Tryd.underlying29 hi hz0 hz1 hz2 rfl (by decide) _ _ _ rfl (hown.alloc _) ⟨wr.heap.size, 0, none⟩ 1 1 [.int .u8 41] rfl rfl (cell_one_new _ _ _) (by simp [Value.oneCell']) (by unfold maxLen; omega) (by omega) (by have := hb4.size; simp; omega) ?_; intro v1 w5 hown1 hgrow hne1)
                have R1 : Open w.heap.size 5 zs (high d (i + 1)) v1 w5 := ⟨by rw [HH2.out, HP.out]; exact hown1, fun hq0 => by cases (hne1.1 hq0).2⟩
                have R2 : Below w.heap.size w w5 := (below_step hb4 (below_new _ _)).grown hgrow (by have := hb4.size; simp; omega) (fun k hk => (hown.lt k hk).1)
                clear hown hown1 hgrow hne1 hne
                go_wp2_with fail
                go_roundw
                case rel => exact ⟨i + 1, by omega, by go_num, R1, R2⟩
                case measure => simp [intOf]; omega
              · rw [e1] at hbi
                rw [e2] at HP
                have hq : ((brk zs d d)[i].toNat : Int) = 91 := by rw [hbi]; rfl
                clear hbi e1 e2
                go_wp2_with (at_builtin; refine wpList_append_own _ rfl _ _ 29 rfl w.heap.size 5 i0 (.int .u8 0) 1 1 Tryd.underlying29 hi hz0 hz1 hz2 rfl (by decide) _ _ _ rfl (hown.alloc _) ⟨wr.heap.size, 0, none⟩ 1 1 [.int .u8 93] rfl rfl (cell_one_new _ _ _) (by simp [Value.oneCell']) (by unfold maxLen; omega) (by omega) (by have := hb4.size; simp; omega) ?_; intro v1 w5 hown1 hgrow hne1)
                have R1 : Open w.heap.size 5 zs (high d (i + 1)) v1 w5 := ⟨by rw [HH2.out, HP.out]; exact hown1, fun hq0 => by cases (hne1.1 hq0).2⟩
                have R2 : Below w.heap.size w w5 := (below_step hb4 (below_new _ _)).grown hgrow (by have := hb4.size; simp; omega) (fun k hk => (hown.lt k hk).1)
                clear hown hown1 hgrow hne1 hne
                go_wp2_with fail
                go_roundw
                case rel => exact ⟨i + 1, by omega, by go_num, R1, R2⟩
                case measure => simp [intOf]; omega
              · rw [e1] at hbi
                rw [e2] at HP
                have hq : ((brk zs d d)[i].toNat : Int) = 123 := by rw [hbi]; rfl
                clear hbi e1 e2
                go_wp2_with (at_builtin; refine wpList_append_own _ rfl _ _ 29 rfl w.heap.size 5 i0 (.int .u8 0) 1 1 Tryd.underlying29 hi hz0 hz1 hz2 rfl (by decide) _ _ _ rfl (hown.alloc _) ⟨wr.heap.size, 0, none⟩ 1 1 [.int .u8 125] rfl rfl (cell_one_new _ _ _) (by simp [Value.oneCell']) (by unfold maxLen; omega) (by omega) (by have := hb4.size; simp; omega) ?_; intro v1 w5 hown1 hgrow hne1)
                have R1 : Open w.heap.size 5 zs (high d (i + 1)) v1 w5 := ⟨by rw [HH2.out, HP.out]; exact hown1, fun hq0 => by cases (hne1.1 hq0).2⟩
                have R2 : Below w.heap.size w w5 := (below_step hb4 (below_new _ _)).grown hgrow (by have := hb4.size; simp; omega) (fun k hk => (hown.lt k hk).1)
                clear hown hown1 hgrow hne1 hne
                go_wp2_with fail
                go_roundw
                case rel => exact ⟨i + 1, by omega, by go_num, R1, R2⟩
                case measure => simp [intOf]; omega
            · by_cases hlt2 : i < 2 * d
              · have hh : high d i = 2 * d - i := by unfold high; split <;> omega
                have hh2 : high d (i + 1) = 2 * d - i - 1 := by unfold high; split <;> omega
                obtain ⟨h, hhi⟩ : ∃ h, 2 * d - i = h + 1 := ⟨2 * d - i - 1, by omega⟩
                rw [hh, hhi] at ho
                rw [hhi] at hh2
                simp only [Nat.add_sub_cancel] at hh2
                have HH2 := Lib.hid hh2
                have hcb := stack_at zs h (by have := HN.out; omega)
                have hby : ∀ hx, (brk zs d d)[i]'hx = cb (zs.getD h 0) := by
                  have hz := HN.out
                  have e : i = zs.length + (i - d) := by omega
                  have e3 : h = zs.length - 1 - (i - d) := by omega
                  intro hx
                  have := brk_at_shut zs (i - d) (by omega)
                  subst hz
                  rw [← e, ← e3] at this
                  exact this hx
                obtain ⟨g, c2, hv, hcap, hcm⟩ := ho.form
                subst hv
                have hcell := ho.1.cellAt h (by omega)
                rw [hcb] at hcell
                generalize zs.getD h 0 = x at hby hcell
                have hlt' : i < (brk zs d d).size := by omega
                have hbi := hby hlt'
                have R := ho.pop (by have := HN.out; omega)
                have hmx : h + 1 ≤ 9223372036854775807 := by omega
                clear hh hh2 hby hcb ho
                rcases ob_cases x with ⟨e1, e2⟩ | ⟨e1, e2⟩ | ⟨e1, e2⟩
                · rw [e2] at hbi hcell
                  have hq : ((brk zs d d)[i].toNat : Int) = 41 := by rw [hbi]; rfl
                  clear hbi e1 e2
                  have g1 : IntKind.i64.wrap (h : Int) = (h : Int) := IntWalk.i64_in _ (by omega)
                  have g2 : (0 : Int) ≤ (h : Int) := by omega
                  have g3 : (h : Int) < (h : Int) + 1 := by omega
                  have g4 : (((h : Int) + 1) == 0) = false := by rw [beq_eq_false_iff_ne]; omega
                  have g5 : (0 : Int) ≤ (i : Int) := by omega
                  have g6 : (i : Int) < 2 * (d : Int) := by omega
                  go_wp2_with fail
                  go_quiet (fail)
                  clear g1 g2 g3 g4 g5 g6
                  go_wp2_with fail
                  go_roundw
                  case rel => exact ⟨i + 1, by omega, by go_num, by rw [HH2.out]; exact R, below_drewN hb4 _⟩
                  case measure => simp [intOf]; omega
                · rw [e2] at hbi hcell
                  have hq : ((brk zs d d)[i].toNat : Int) = 93 := by rw [hbi]; rfl
                  clear hbi e1 e2
                  have g1 : IntKind.i64.wrap (h : Int) = (h : Int) := IntWalk.i64_in _ (by omega)
                  have g2 : (0 : Int) ≤ (h : Int) := by omega
                  have g3 : (h : Int) < (h : Int) + 1 := by omega
                  have g4 : (((h : Int) + 1) == 0) = false := by rw [beq_eq_false_iff_ne]; omega
                  have g5 : (0 : Int) ≤ (i : Int) := by omega
                  have g6 : (i : Int) < 2 * (d : Int) := by omega
                  go_wp2_with fail
                  go_quiet (fail)
                  clear g1 g2 g3 g4 g5 g6
                  go_wp2_with fail
                  go_roundw
                  case rel => exact ⟨i + 1, by omega, by go_num, by rw [HH2.out]; exact R, below_drewN hb4 _⟩
                  case measure => simp [intOf]; omega
                · rw [e2] at hbi hcell
                  have hq : ((brk zs d d)[i].toNat : Int) = 125 := by rw [hbi]; rfl
                  clear hbi e1 e2
                  have g1 : IntKind.i64.wrap (h : Int) = (h : Int) := IntWalk.i64_in _ (by omega)
                  have g2 : (0 : Int) ≤ (h : Int) := by omega
                  have g3 : (h : Int) < (h : Int) + 1 := by omega
                  have g4 : (((h : Int) + 1) == 0) = false := by rw [beq_eq_false_iff_ne]; omega
                  have g5 : (0 : Int) ≤ (i : Int) := by omega
                  have g6 : (i : Int) < 2 * (d : Int) := by omega
                  go_wp2_with fail
                  go_quiet (fail)
                  clear g1 g2 g3 g4 g5 g6
                  go_wp2_with fail
                  go_roundw
                  case rel => exact ⟨i + 1, by omega, by go_num, by rw [HH2.out]; exact R, below_drewN hb4 _⟩
                  case measure => simp [intOf]; omega
              · obtain rfl : i = 2 * d := by omega
                have hh : high d (2 * d) = 0 := by unfold high; split <;> omega
                rw [hh] at ho
                obtain ⟨g, c2, hv, hcap, hcm⟩ := ho.form
                subst hv
                clear hh ho
                go_wp2_with fail
                go_ret
                exact ⟨rfl, hb4⟩
set_option maxRecDepth 100000 in
theorem lifted (os : Os) (started : os.Started) (H : Type) (enc : TypeId × Value → H) :
    ReturnsInHanded {} Tryd.checked os 6 .any (fun w args => (Rows.fnBracketsSpec.pre enc Tryd.prog Tryd.f6 [] false w args ∧ laidMetH Tryd.prog Rows.fnBracketsRow.laid w) ∧ sizedMet enc Tryd.prog Tryd.f6 (OpenSpec.ofChange Rows.fnBracketsSpec) false w args)
      (Rows.fnBracketsSpec.post enc Tryd.prog Tryd.f6 false true false false) := by
  refine returnsInHanded_of_change_and (C := Tryd.checked) (X := fun w _ => laidMetH Tryd.prog Rows.fnBracketsRow.laid w) (fun _ _ _ hh h => h.of_heap hh) own started (by kernel_rfl) Tryd.func6
    (ChangeSpec.witness_shaped (enc := enc) (C := Tryd.checked) (os := os) (X := fun w _ => laidMetH Tryd.prog Rows.fnBracketsRow.laid w) false (World.doorLaid Tryd.prog 29 os) #[.slice none 0 0] 8 rfl (World.shaped_of_RefB (by kernel_rfl) (by kernel_rfl)) (by kernel_rfl) (by kernel_rfl) (by kernel_rfl) (door_met os _)) ?_
  intro W base args ds gs before hval0 hW _ hsz hL _
  have hval : ∀ (j : Nat) t v, Tryd.f6.params[j]? = some t → args[j]? = some v → Value.okWide Tryd.prog W .any base t v := hval0
  have hsz1 : (DataW.weightsEach Tryd.prog (Tryd.f6.params.toList ++ Rows.fnBracketsSpec.plain.varTypes Tryd.prog) (ds ++ gs)).all (· ≤ reachBytes) = true := hsz
  have hW1 := hW
  obtain ⟨p, q, hA0, hV, rfl, hfz, hnd⟩ := hW
  have hA : DataW.TrodAll enc Tryd.prog W 0 (fun _ => true) true Tryd.f6.params.toList args.toList ds p := hA0
  rw [Tryd.params6] at hA hval hsz1
  have hAA := hA
  obtain ⟨v0, vs0, d0, ds0, p0, q0, hargs, rfl, rfl, h0, r0⟩ := trodAll_cons hA
  obtain ⟨rfl, rfl, rfl⟩ := trodAll_nil r0
  obtain rfl : args = #[v0] := by cases args; simp_all
  obtain ⟨rfl, rfl⟩ := trodVars_none hV
  obtain ⟨A0, zs0, cap0, rfl, hn0, hI0, hx0, hc0, hm0⟩ := ints_open (j := 0) (okWide_slice Tryd.underlying28 (hval 0 28 v0 rfl rfl)) h0 hsz1 rfl rfl
  have hlt : ∀ x ∈ (p0 ++ []), x.block < W.heap.size := fun x hx => hW1.lt x (by simpa using hx)
  clear hA0 hval0
  simp only [List.append_nil] at hW1
  refine (walk A0 cap0 zs0 hn0 hI0 hx0 hc0 hm0 (tokTab hL)).mono fun e W1 ⟨he, hg⟩ => ?_
  subst he
  exact ⟨_, rfl, _, _, _, [], (p0 ++ []), [], hW1, (trodAll_cons_mk (shut_bool Tryd.underlying4 _) trodAll_mk0), trodAll_below laidOut hg (all_readable (by kernel_rfl)) hAA hlt, rfl, hg.frame _, fun h => by cases h⟩
theorem said : Rows.FnBracketsSaid :=
  OpenClaim.holds_of_wide 6 Tryd.f6 rfl rfl rfl rfl rfl rfl rfl ⟨rfl, rfl, rfl, rfl, rfl⟩ rfl rfl rfl rfl rfl (by kernel_rfl) Tryd.func6 (by kernel_rfl)
    (of_decide_eq_true (by kernel_rfl)) (by unfold Func.isWrapper; first | (rw [if_pos (by decide +kernel)]; kernel_rfl) | (rw [if_neg (by decide +kernel)]; exact ⟨rfl, rfl⟩))
    (fun os started H enc _ => lifted os started H enc)
/-- What the card asks besides: no parameter wants a stand-in. -/
theorem plain (f : FuncId) (fn : Func) (hf : Tryd.pinned.checked.prog.funcNamed "loop.example/lib-g03114/laws.FnBrackets" = some f) (hfn : Tryd.pinned.checked.prog.funcs[f]? = some fn) :
    false = Tryd.pinned.checked.prog.looks [] ∧ ∀ (j : Nat) t, fn.params[j]? = some t → Tryd.pinned.checked.prog.wantsStandIn t = false := by
  obtain rfl : f = 6 := Option.some.inj ((show Tryd.prog.funcNamed "loop.example/lib-g03114/laws.FnBrackets" = some 6 by kernel_rfl).symm.trans hf) |>.symm
  obtain rfl : fn = Tryd.f6 := (Option.some.inj (Tryd.func6.symm.trans hfn)).symm
  refine ⟨by kernel_rfl, fun j t ht => ?_⟩
  rw [Tryd.params6] at ht
  have hm : t ∈ [28] := by
    have := Array.mem_of_getElem? ht
    simp at this ⊢
    omega
  have hall : ([28].all fun u => !Tryd.prog.wantsStandIn u) = true := by kernel_rfl
  exact (show Tryd.prog.wantsStandIn t = false by simpa using List.all_eq_true.1 hall t hm)
theorem card : Rows.FnBracketsCardSaid :=
  Claim7.holds_tied_plain_at .later [] _ _ _ _ said (fun _ h => by cases h) (by kernel_rfl) (fun _ h => by cases h) fnBrackets_row_tie rfl ⟨rfl, rfl⟩ (by kernel_rfl) rfl plain (by kernel_rfl)
#print axioms card
end Go.Proofs.YtabjfjcaackelaaDoor.fnBrackets
