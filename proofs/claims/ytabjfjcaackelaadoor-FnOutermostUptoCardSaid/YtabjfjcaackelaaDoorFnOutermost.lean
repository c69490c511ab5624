/- laws.FnOutermost returns true where its arguments hold together at most 1048576 values and letters, and where the library's tables hold what their initialisers lay (the card ties that to the program's text). -/
import Derived.Test.YtabjfjcaackelaaDoorTab
import Derived.Test.YtabjfjcaackelaaDoorIntsFrame
import Derived.Test.YtabjfjcaackelaaDoorOut
import Derived.Test.YtabjfjcaackelaaDoorUpto
import Derived.Deep.DeepWitnessRowRef
namespace Go.Proofs.YtabjfjcaackelaaDoor.fnOutermost
open Go.ChangeShapes Go.WideShapes Go.ChangeAt Go.RowKit

theorem binary_one (k : Int) (w : World) :
    Calls Tryd.prog 14 #[.slice (some ⟨w.heap.size, 0, none⟩) 1 1] (w.alloc (.cells #[.int .i64 k] 3)) fun e w' => e = .returned (.bool (binB [k])) ∧ Below w.heap.size w w' := by
  have hI : IntsAt (w.alloc (.cells #[.int .i64 k] 3)) (some ⟨w.heap.size, 0, none⟩) [k] := fun _ => ⟨w.heap.size, 0, rfl, by simp, fun i hi => by
    simp at hi
    subst hi
    exact (Row.new w #[.int .i64 k] 3 [.int .i64 k] rfl).at 0 _ rfl⟩
  refine (lawsBinary (some ⟨w.heap.size, 0, none⟩) 1 [k] (by simp) hI).mono ?_
  rintro e w1 ⟨rfl, hb⟩
  exact ⟨rfl, below_step (below_new _ _) hb⟩
theorem getD_mem {zs : List Int} {x : Int} (h : x ∈ zs) : ∃ i, i < zs.length ∧ zs.getD i 0 = x := by
  obtain ⟨i, hi, rfl⟩ := List.mem_iff_getElem.1 h
  exact ⟨i, hi, by rw [List.getD_eq_getElem?_getD, List.getElem?_eq_getElem hi, Option.getD_some]⟩

set_option maxRecDepth 100000 in
set_option maxHeartbeats 4000000 in
theorem walk {w : World} (A : Option Addr) (cap : Nat) (zs : List Int) (hn : zs.length ≤ 17592186044416) (hI : IntsAt w A zs) (_hx : ∀ x ∈ zs, (Lit.int .i64 x).wf = true) (hc : zs.length ≤ cap) (hm : cap ≤ 17592186044416)
    (k : Int) (_hk : (Lit.int .i64 k).wf = true)
    (A2 : Option Addr) (cap2 : Nat) (ys : List Int) (hn2 : ys.length ≤ 17592186044416) (hI2 : IntsAt w A2 ys) (_hx2 : ∀ x ∈ ys, (Lit.int .i64 x).wf = true) (_hc2 : ys.length ≤ cap2) (_hm2 : cap2 ≤ 17592186044416)
    (hT : TokTab w) (hbulk : zs.length + ys.length ≤ 1048576) :
    Calls Tryd.prog 8 #[.slice A zs.length cap, .int .i64 k, .slice A2 ys.length cap2] w fun e w' => e = .returned (.bool true) ∧ Below w.heap.size w w' := by
  have C1 := Lib.hid (fun W (hW : Below w.heap.size w W) => lawsBinary A cap zs hn (hI.below hW))
  have C2 := Lib.hid (fun W (hW : Below w.heap.size w W) => lawsBinary A2 cap2 ys hn2 (hI2.below hW))
  have C3 := Lib.hid (binary_one k)
  have C4 := Lib.hid (fun W (hW : Below w.heap.size w W) => specGroupedW A cap zs hn hc (by omega) (hI.below hW))
  have C5 := Lib.hid (fun W (hW : Below w.heap.size w W) => implString k W (hT.below hW))
  have HBK := Lib.hid hbulk
  generalize hz : zs.length = n at C1 C4
  generalize hy : ys.length = m at C2
  have HZ := Lib.hid hz
  have HY := Lib.hid hy
  have hn' : n ≤ 1048576 := by omega
  have hm' : m ≤ 1048576 := by omega
  clear hz hy hn hn2 hc hm _hx _hx2 _hc2 _hm2 hT hbulk _hk
  obtain ⟨ii, hii, ii0, ii1, ii2⟩ := info_parts info_int
  have HII := Lib.hid (And.intro hii (And.intro ii0 (And.intro ii1 ii2)))
  clear hii ii0 ii1 ii2
  go_enter Tryd.func8, Tryd.ntmps8
  go_wp2_with fail
  refine (C1.out _ (Below.refl _ _)).mono ?_
  rintro e w1 ⟨rfl, hb1⟩
  cases hB1 : binB zs
  · go_wp2_with fail
    go_ret
    exact ⟨rfl, hb1⟩
  · go_wp2_with fail
    refine (C2.out _ hb1).mono ?_
    rintro e w2 ⟨rfl, hb2⟩
    have hb := below_step hb1 hb2
    clear hb1 hb2
    cases hB2 : binB ys
    · go_wp2_with fail
      go_ret
      exact ⟨rfl, hb⟩
    · go_wp2_with fail
      refine (C3.out _).mono ?_
      rintro e w3 ⟨rfl, hb3⟩
      have hb := below_step hb hb3
      cases hB3 : binB [k]
      · go_wp2_with fail
        go_ret
        exact ⟨rfl, hb⟩
      · clear C1 C2 C3 hb3 hB1 hB2 hB3
        obtain ⟨wq, hwq⟩ : ∃ wq : World, wq = w3 := ⟨_, rfl⟩
        go_wp2_with fail
        go_loopw [28] (fun i wr => ∃ j : Nat, j ≤ n ∧ i = .int .i64 (j : Int) ∧ Hid (∀ x, x < j → prec k ≤ prec (zs.getD x 0)) ∧ Below w.heap.size w wr) (fun i _ => n - (intOf i).toNat)
        case atStart => exact ⟨0, by omega, rfl, (fun x hx => by omega), hb⟩
        case round =>
          clear hb hwq
          obtain ⟨j, hj, rfl, HA, hb⟩ := hrel
          by_cases hlt : j < n
          · obtain ⟨b, off, rfl, hbk, hc⟩ := (hI.below hb).at (i := j) (by have := HZ.out; omega)
            by_cases hp : prec (zs.getD j 0) < prec k
            · have hd := decide_eq_true hp
              clear hp
              generalize zs.getD j 0 = x at hc hd
              go_wp2_with fail
              refine (implPrecedence x _).mono ?_
              rintro e w4 ⟨rfl, hb4⟩
              go_wp2_with fail
              refine (implPrecedence k _).mono ?_
              rintro e w5 ⟨rfl, hb5⟩
              go_wp2_with fail
              go_ret
              exact ⟨rfl, below_step (below_step hb hb4) hb5⟩
            · have hd := decide_eq_false hp
              have HA2 : Hid (∀ x, x < j + 1 → prec k ≤ prec (zs.getD x 0)) := fun x hx => by
                by_cases hxj : x = j
                · subst hxj; omega
                · exact HA.out x (by omega)
              clear hp HA
              generalize zs.getD j 0 = x at hc hd
              go_wp2_with fail
              refine (implPrecedence x _).mono ?_
              rintro e w4 ⟨rfl, hb4⟩
              go_wp2_with fail
              refine (implPrecedence k _).mono ?_
              rintro e w5 ⟨rfl, hb5⟩
              go_wp2_with fail
              go_roundw
              case rel => exact ⟨j + 1, by omega, by go_num, HA2, below_step (below_step hb hb4) hb5⟩
              case measure => simp [intOf]; omega
          · obtain rfl : j = n := by omega
            have HZ1 : Hid (∀ x ∈ zs, prec k ≤ prec x) := fun x hx => by
              obtain ⟨i, hi, rfl⟩ := getD_mem hx
              exact HA.out i (by have := HZ.out; omega)
            clear hlt hj HA
            obtain ⟨wq, hwq⟩ : ∃ wq : World, wq = wr := ⟨_, rfl⟩
            go_wp2_with fail
            go_loopw [40] (fun i wr => ∃ l : Nat, l ≤ m ∧ i = .int .i64 (l : Int) ∧ Hid (∀ x, x < l → prec k < prec (ys.getD x 0)) ∧ Below w.heap.size w wr) (fun i _ => m - (intOf i).toNat)
            case atStart => exact ⟨0, by omega, rfl, (fun x hx => by omega), hb⟩
            case round =>
              clear hb hwq
              obtain ⟨l, hl, rfl, HA, hb⟩ := hrel
              by_cases hlt : l < m
              · obtain ⟨b, off, rfl, hbk, hc⟩ := (hI2.below hb).at (i := l) (by have := HY.out; omega)
                by_cases hp : prec (ys.getD l 0) ≤ prec k
                · have hd := decide_eq_true hp
                  clear hp
                  generalize ys.getD l 0 = x at hc hd
                  go_wp2_with fail
                  refine (implPrecedence x _).mono ?_
                  rintro e w4 ⟨rfl, hb4⟩
                  go_wp2_with fail
                  refine (implPrecedence k _).mono ?_
                  rintro e w5 ⟨rfl, hb5⟩
                  go_wp2_with fail
                  go_ret
                  exact ⟨rfl, below_step (below_step hb hb4) hb5⟩
                · have hd := decide_eq_false hp
                  have HA2 : Hid (∀ x, x < l + 1 → prec k < prec (ys.getD x 0)) := fun x hx => by
                    by_cases hxj : x = l
                    · subst hxj; omega
                    · exact HA.out x (by omega)
                  clear hp HA
                  generalize ys.getD l 0 = x at hc hd
                  go_wp2_with fail
                  refine (implPrecedence x _).mono ?_
                  rintro e w4 ⟨rfl, hb4⟩
                  go_wp2_with fail
                  refine (implPrecedence k _).mono ?_
                  rintro e w5 ⟨rfl, hb5⟩
                  go_wp2_with fail
                  go_roundw
                  case rel => exact ⟨l + 1, by omega, by go_num, HA2, below_step (below_step hb hb4) hb5⟩
                  case measure => simp [intOf]; omega
              · obtain rfl : l = m := by omega
                have HY1 : Hid (∀ x ∈ ys, prec k < prec x) := fun x hx => by
                  obtain ⟨i, hi, rfl⟩ := getD_mem hx
                  exact HA.out i (by have := HY.out; omega)
                clear hlt hl HA
                have HB := Lib.hid hb
                have hbs := hb.size
                have HIz := Lib.hid hI
                have HIy := Lib.hid hI2
                clear hb hI hI2
                have H0 := Lib.hid (World.ownsRow_made (base := w.heap.size) (e := 3) (size := 1) wr #[] 0 hbs (by decide) rfl)
                go_wp2_with (at_builtin; first | (refine wpList_append_ints _ rfl _ _ 28 rfl w.heap.size 3 ii (.int .i64 0) 8 Tryd.underlying28 HII.out.1 HII.out.2.1 HII.out.2.2.1 HII.out.2.2.2 rfl _ _ _ rfl (fun hq => by cases hq) H0.out A cap zs j HZ.out rfl (HIz.out.below (below_step HB.out (below_new _ _))) (by unfold maxLen; omega) (by omega) (by simp; omega) ?_; intro v1 w4 hown1 hne1 hgrow1; have HB4 : Hid (Below w.heap.size w w4) := (below_step HB.out (below_new _ _)).grown hgrow1 (by simp; omega) fun k hk => (H0.out.lt k hk).1; have hs4 : w.heap.size ≤ w4.heap.size := HB4.out.size; have H1 := Lib.hid hown1; clear hown1 hne1 hgrow1) | (refine wpList_append_own _ rfl _ _ 28 rfl w.heap.size 3 ii (.int .i64 0) 1 8 Tryd.underlying28 HII.out.1 HII.out.2.1 HII.out.2.2.1 HII.out.2.2.2 rfl (by decide) _ _ _ rfl (H1.out.alloc _) ⟨w4.heap.size, 0, none⟩ 1 1 [.int .i64 k] rfl rfl (cell_one_new _ _ _) (by simp [Value.oneCell']) (by unfold maxLen; omega) (by omega) (by simp; omega) ?_; intro v2 w5 hown2 hgrow2 hne2; have HB5 : Hid (Below w.heap.size w w5) := (below_step HB4.out (below_new _ _)).grown hgrow2 (by simp; omega) fun k hk => (H1.out.lt k hk).1; have hs5 : w.heap.size ≤ w5.heap.size := HB5.out.size; have H2 := Lib.hid hown2; have HE2 : Hid (v2 ≠ .slice none 0 0) := (fun hq => by cases (hne2.1 hq).2); clear hown2 hgrow2 hne2) | (refine wpList_append_ints _ rfl _ _ 28 rfl w.heap.size 3 ii (.int .i64 0) 8 Tryd.underlying28 HII.out.1 HII.out.2.1 HII.out.2.2.1 HII.out.2.2.2 rfl _ _ _ rfl HE2.out H2.out A2 cap2 ys l HY.out rfl (HIy.out.below HB5.out) (by unfold maxLen; omega) (by omega) hs5 ?_; intro v3 w6 hown3 hne3 hgrow3; obtain ⟨A3, cap3, rfl, hc3, hm3, hI3⟩ := ints_of_own (zs := zs ++ [k] ++ ys) hown3 (by have h1 := HZ.out; have h2 := HY.out; simp; omega) (by simp [intL]) hne3; have HB6 : Hid (Below w.heap.size w w6) := HB5.out.grown hgrow3 hs5 (fun k hk => (H2.out.lt k hk).1); have HI3 := Lib.hid hI3; have HC3 := Lib.hid (And.intro hc3 hm3); clear hown3 hne3 hgrow3 hI3 hc3 hm3))
                have C6 := specGroupedW A3 cap3 (zs ++ [k] ++ ys) (by have h1 := HZ.out; have h2 := HY.out; simp; omega) HC3.out.1 HC3.out.2 HI3.out
                rw [show (zs ++ [k] ++ ys).length = zs.length + (ys.length + 1) by simp] at C6
                have HO := Lib.hid (outermost zs k ys HZ1.out HY1.out)
                generalize grpS (zs ++ [k] ++ ys) 0 = G at C6 HO
                refine C6.mono ?_
                clear C6
                rintro e w7 ⟨rfl, hb7⟩
                have HB7 := Lib.hid (below_step HB6.out hb7)
                clear hb7
                have s1 : (grpS zs 0).size ≤ 475000000000000 := by
                  have h := HZ.out
                  have := grpS_size zs 0 (by omega)
                  omega
                have s2 := txt_size k
                have e40 : (⟨#[40]⟩ : ByteArray).size = 1 := rfl
                have c1 := cat_ok (⟨#[40]⟩ : ByteArray) (grpS zs 0) (by omega)
                have c2 := cat_ok ((⟨#[40]⟩ : ByteArray) ++ grpS zs 0) (txt k) (by rw [ByteArray.size_append]; omega)
                clear e40
                go_wp2_with fail
                refine (C4.out _ HB7.out).mono ?_
                rintro e w8 ⟨rfl, hb8⟩
                have HB8 := Lib.hid (below_step HB7.out hb8)
                clear hb8
                go_wp2_with fail
                refine (C5.out _ HB8.out).mono ?_
                rintro e w9 ⟨rfl, hb9⟩
                have HB9 := Lib.hid (below_step HB8.out hb9)
                clear hb9
                go_wp2_with fail
                refine (lawsBeginsAt G ((⟨#[40]⟩ : ByteArray) ++ grpS zs 0 ++ txt k) true HO.out _).mono ?_
                rintro e w10 ⟨rfl, rfl⟩
                go_wp2_with fail
                go_ret
                exact ⟨rfl, HB9.out⟩
theorem reads (os : Os) {H : Type} (enc : TypeId × Value → H) : ∃ places, DataW.whole enc Tryd.prog ((World.doorLaid Tryd.prog 29 os).forCall (fun _ _ => 0) ⟨#[], #[.slice none 0 0, .int .i64 0, .slice none 0 0], []⟩).memory Tryd.f8.params.toList Rows.fnOutermostSpec.vars false (#[.slice none 0 0, .int .i64 0, .slice none 0 0] : Array Value).toList 8 = some ([.nil, .lit (.int .i64 0), .nil], [], places) :=
  ⟨[], by kernel_rfl⟩
set_option maxRecDepth 100000 in
theorem lifted (os : Os) (started : os.Started) (H : Type) (enc : TypeId × Value → H) (F : Stop.Interp) :
    ReturnsInHanded {} Tryd.checked os 8 .any ((Rows.OpenSpec.upto Rows.fnOutermostSpec).preRow enc Tryd.prog Tryd.f8 Rows.fnOutermostUptoRow.domain false Rows.fnOutermostUptoRow.laid) (((Rows.OpenSpec.upto Rows.fnOutermostSpec).at F).post enc Tryd.prog Tryd.f8 false true false false) := by
  obtain ⟨places, hx⟩ := reads os enc
  refine returnsInHanded_of_row (C := Tryd.checked) (s := Rows.OpenSpec.upto Rows.fnOutermostSpec) own started (by kernel_rfl) Tryd.func8
    (witness_row_atRef (enc := enc) (C := Tryd.checked) false (World.doorLaid Tryd.prog 29 os) #[.slice none 0 0, .int .i64 0, .slice none 0 0] rfl (by kernel_rfl) (by kernel_rfl) (by kernel_rfl)
      (OpenSpec.preRow_of_cond 8 hx (by kernel_rfl) (fun k hk => by cases hk; kernel_rfl) (by kernel_rfl) (door_met os _))) ?_
  intro W base args ds gs before hval0 hW _ hcond hsz hL _ _
  have hval : ∀ (j : Nat) t v, Tryd.f8.params[j]? = some t → args[j]? = some v → Value.okWide Tryd.prog W .any base t v := hval0
  have hsz1 : (DataW.weightsEach Tryd.prog (Tryd.f8.params.toList ++ Rows.fnOutermostSpec.plain.varTypes Tryd.prog) (ds ++ gs)).all (· ≤ reachBytes) = true := hsz
  have hW1 := hW
  obtain ⟨p, q, hA0, hV, rfl, hfz, hnd⟩ := hW
  have hA : DataW.TrodAll enc Tryd.prog W 0 (fun _ => true) true Tryd.f8.params.toList args.toList ds p := hA0
  rw [Tryd.params8] at hA hval hsz1
  have hAA := hA
  obtain ⟨v0, vs0, d0, ds0, p0, q0, hargs, rfl, rfl, h0, r0⟩ := trodAll_cons hA
  obtain ⟨v1, vs1, d1, ds1, p1, q1, rfl, rfl, rfl, h1, r1⟩ := trodAll_cons r0
  obtain ⟨v2, vs2, d2, ds2, p2, q2, rfl, rfl, rfl, h2, r2⟩ := trodAll_cons r1
  obtain ⟨rfl, rfl, rfl⟩ := trodAll_nil r2
  obtain rfl : args = #[v0, v1, v2] := by cases args; simp_all
  obtain ⟨rfl, rfl⟩ := trodVars_none hV
  obtain ⟨A0, zs0, cap0, rfl, hn0, hI0, hx0, hc0, hm0, hU0⟩ := ints_openU (j := 0) (okWide_slice Tryd.underlying28 (hval 0 28 v0 rfl rfl)) h0 hsz1 rfl rfl
  obtain ⟨a1, rfl, rfl, rfl, w1⟩ := open_int Tryd.underlying3 (hval 1 3 v1 rfl rfl) h1
  obtain ⟨A2, zs2, cap2, rfl, hn2, hI2, hx2, hc2, hm2, hU2⟩ := ints_openU (j := 2) (okWide_slice Tryd.underlying28 (hval 2 28 v2 rfl rfl)) h2 hsz1 rfl rfl
  have hlt : ∀ x ∈ (p0 ++ ([] ++ (p2 ++ []))), x.block < W.heap.size := fun x hx => hW1.lt x (by simpa using hx)
  have hbk : zs0.length + zs2.length ≤ 1048576 := by
    have hk := of_decide_eq_true (hcond _ rfl)
    simp only [List.cons_append, List.nil_append, Rows.uptoBulkAll] at hk
    omega
  clear hA0 hval0
  simp only [List.append_nil] at hW1
  refine (walk A0 cap0 zs0 hn0 hI0 hx0 hc0 hm0 a1 w1 A2 cap2 zs2 hn2 hI2 hx2 hc2 hm2 (tokTab hL) hbk).mono fun e W1 ⟨he, hg⟩ => ?_
  subst he
  exact ⟨_, rfl, _, _, _, [], (p0 ++ ([] ++ (p2 ++ []))), [], hW1, (trodAll_cons_mk (shut_bool Tryd.underlying4 _) trodAll_mk0), trodAll_below laidOut hg (all_readable (by kernel_rfl)) hAA hlt, rfl, hg.frame _, fun h => by cases h⟩
theorem said : Rows.FnOutermostUptoSaid :=
  OpenClaim.holds_of_cond 8 Tryd.f8 rfl rfl rfl rfl rfl rfl rfl ⟨rfl, rfl, rfl, rfl, rfl⟩ rfl rfl rfl rfl rfl (by kernel_rfl) Tryd.func8 (by kernel_rfl)
    (of_decide_eq_true (by kernel_rfl)) (by unfold Func.isWrapper; first | (rw [if_pos (by decide +kernel)]; kernel_rfl) | (rw [if_neg (by decide +kernel)]; exact ⟨rfl, rfl⟩))
    (fun os started H enc _ F => by rw [OpenClaim.pre_eq_preRow]; exact lifted os started H enc F)
/-- What the card asks besides: no parameter wants a stand-in. -/
theorem plain (f : FuncId) (fn : Func) (hf : Tryd.pinned.checked.prog.funcNamed "loop.example/lib-g03114/laws.FnOutermost" = some f) (hfn : Tryd.pinned.checked.prog.funcs[f]? = some fn) :
    false = Tryd.pinned.checked.prog.looks [] ∧ ∀ (j : Nat) t, fn.params[j]? = some t → Tryd.pinned.checked.prog.wantsStandIn t = false := by
  obtain rfl : f = 8 := Option.some.inj ((show Tryd.prog.funcNamed "loop.example/lib-g03114/laws.FnOutermost" = some 8 by kernel_rfl).symm.trans hf) |>.symm
  obtain rfl : fn = Tryd.f8 := (Option.some.inj (Tryd.func8.symm.trans hfn)).symm
  refine ⟨by kernel_rfl, fun j t ht => ?_⟩
  rw [Tryd.params8] at ht
  have hm : t ∈ [28, 3] := by
    have := Array.mem_of_getElem? ht
    simp at this ⊢
    rcases this with h | h | h <;> simp [h]
  have hall : ([28, 3].all fun u => !Tryd.prog.wantsStandIn u) = true := by kernel_rfl
  exact (show Tryd.prog.wantsStandIn t = false by simpa using List.all_eq_true.1 hall t hm)
theorem card : Rows.FnOutermostUptoCardSaid :=
  Claim7.holds_tied_plain_at .later [] _ _ _ _ said (fun _ h => by cases h) (by kernel_rfl) (fun _ h => by cases h) fnOutermostUpto_row_tie rfl ⟨rfl, rfl⟩ (by kernel_rfl) rfl plain (by kernel_rfl)
#print axioms card
end Go.Proofs.YtabjfjcaackelaaDoor.fnOutermost
