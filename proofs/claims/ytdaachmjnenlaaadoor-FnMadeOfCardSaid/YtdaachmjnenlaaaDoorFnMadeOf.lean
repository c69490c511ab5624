/- laws.FnMadeOf returns true at every input, where the library's tables hold what their initialisers lay (the card ties that to the program's text). -/
import Derived.Test.YtdaachmjnenlaaaDoorTab
import Derived.Test.YtdaachmjnenlaaaDoorParts
namespace Go.Proofs.YtdaachmjnenlaaaDoor.fnMadeOf
open Go.ChangeShapes Go.WideShapes Go.ChangeAt Go.RowKit

/-- The first texts of a list of places, one behind the other. -/
def catS (l : List Int) : Nat → ByteArray
  | 0 => ⟨#[]⟩
  | m + 1 => catS l m ++ txt (l.getD m 0)
def catB (l : List Int) : Nat → List UInt8
  | 0 => []
  | m + 1 => catB l m ++ txtB (l.getD m 0)
theorem catS_toList (l : List Int) : ∀ m, (catS l m).toList = catB l m
  | 0 => by simp [catS, catB, ByteArray.toList_eq]
  | m + 1 => by
    show (catS l m ++ txt (l.getD m 0)).toList = _
    rw [byteList_append, catS_toList l m, txt_toList]
    rfl
theorem catS_size (l : List Int) : ∀ m, (catS l m).size ≤ 11 * m
  | 0 => Nat.le_refl 0
  | m + 1 => by
    have h1 := catS_size l m
    have h2 := txt_size (l.getD m 0)
    show (catS l m ++ txt (l.getD m 0)).size ≤ _
    rw [ByteArray.size_append]
    omega
theorem parts_all : ∀ i : Fin 14, txtB (partAt i.val).1 = catB (partAt i.val).2 (partAt i.val).2.length ∧ (partAt i.val).2.length ≤ 3 ∧ (catB (partAt i.val).2 (partAt i.val).2.length).isEmpty = false := by decide +kernel

set_option maxHeartbeats 2000000 in
theorem walk (a0 : Int) (_w0 : (Lit.int .i64 a0).wf = true) (w : World) (hT : TokTab w) :
    Calls Tryd.prog 6 #[.int .i64 a0] w fun e w' => e = .returned (.bool true) ∧ Below w.heap.size w w' := by
  by_cases hneg : a0 < 0
  · go_enter Tryd.func6, Tryd.ntmps6
    go_wp2_with fail
    refine (lawsParts _).mono ?_
    rintro e w1 ⟨B, pb, rfl, hb1, hp1⟩
    go_wp2_with fail
    go_ret
    exact ⟨rfl, hb1⟩
  by_cases hbig : 14 ≤ a0
  · go_enter Tryd.func6, Tryd.ntmps6
    go_wp2_with fail
    refine (lawsParts _).mono ?_
    rintro e w1 ⟨B, pb, rfl, hb1, hp1⟩
    go_wp2_with fail
    go_ret
    exact ⟨rfl, hb1⟩
  obtain ⟨i, rfl⟩ := Int.eq_ofNat_of_zero_le (Int.not_lt.1 hneg)
  have hi : i < 14 := by omega
  obtain ⟨e1, e2, e3⟩ := parts_all ⟨i, hi⟩
  simp only at e1 e2 e3
  have E1 := Lib.hid e1
  have E3 := Lib.hid e3
  clear e1 e3
  have d1 : decide ((i : Int) < 0) = false := by simp
  have d2 : decide (14 ≤ (i : Int)) = false := by simp; omega
  go_enter Tryd.func6, Tryd.ntmps6
  go_wp2_with fail
  refine (lawsParts _).mono ?_
  rintro e w1 ⟨B, pb, rfl, hb1, hp1⟩
  obtain ⟨c1, c2, hrow⟩ := hp1.2 i hi
  generalize hl : (partAt i).2 = l at *
  generalize hw : (partAt i).1 = whole at *
  generalize hn : l.length = n at c2 e2
  generalize hbk : pb i = bk at c2 hrow
  have HN := Lib.hid hn
  clear hl hw hn hbk
  have hT1 := hT.below hb1
  go_wp2_with fail
  go_loopw [4, 22] (fun t p wr => ∃ m : Nat, m ≤ n ∧ p = .int .i64 (m : Int) ∧ t = .string (catS l m) ∧ Below w1.heap.size w1 wr) (fun _ p _ => n - (intOf p).toNat)
  case atStart => exact ⟨0, by omega, rfl, rfl, Below.refl _ _⟩
  case round =>
    obtain ⟨m, hm, rfl, rfl, hbr⟩ := hrel
    have hTr := hT1.below hbr
    have hsz := catS_size l m
    by_cases hlt : m < n
    · have hg : (ints64 l)[m]? = some (.int .i64 (l.getD m 0)) := by
        have hnl := HN.out
        unfold ints64
        rw [List.getElem?_map, List.getD_eq_getElem?_getD, List.getElem?_eq_getElem (by omega)]
        rfl
      have hc := (hrow.below hbr).at _ _ hg
      have C : Hid (catS l (m + 1) = catS l m ++ txt (l.getD m 0)) := rfl
      clear hg
      generalize l.getD m 0 = x at hc C
      have hsx := txt_size x
      go_wp2_with fail
      refine (implString x _ hTr).mono ?_
      rintro e w2 ⟨rfl, hb2⟩
      go_wp2_with fail
      go_roundw
      case rel => exact ⟨m + 1, by omega, by go_num, by rw [C.out], below_step hbr hb2⟩
      case measure => simp [intOf]; omega
    · obtain rfl : m = n := by omega
      have c1r := (hbr.cell (p := ⟨B, i * 2, none⟩) hp1.1).trans c1
      have t1 : (txtB whole == (catS l m).toList) = true := by
        rw [catS_toList]
        have := HN.out
        subst this
        rw [E1.out]
        simp
      have t2 : (catS l m).toList.isEmpty = false := by
        rw [catS_toList]
        have := HN.out
        subst this
        exact E3.out
      have t3 : ((catS l m).toList == []) = false := by
        cases hq : (catS l m).toList with
        | nil => rw [hq] at t2; cases t2
        | cons a b => rfl
      go_wp2_with fail
      refine (implString whole _ hTr).mono ?_
      rintro e w2 ⟨rfl, hb2⟩
      go_wp2_with fail
      go_ret
      exact ⟨rfl, below_step (below_step hb1 hbr) hb2⟩
set_option maxRecDepth 100000 in
theorem lifted (os : Os) (started : os.Started) (H : Type) (enc : TypeId × Value → H) :
    ReturnsInHanded {} Tryd.checked os 6 .any (fun w args => (Rows.fnMadeOfSpec.pre enc Tryd.prog Tryd.f6 [] false w args ∧ laidMetH Tryd.prog Rows.fnMadeOfRow.laid w) ∧ sizedMet enc Tryd.prog Tryd.f6 (OpenSpec.ofChange Rows.fnMadeOfSpec) false w args)
      (Rows.fnMadeOfSpec.post enc Tryd.prog Tryd.f6 false true false false) := by
  refine returnsInHanded_of_change_and (C := Tryd.checked) (X := fun w _ => laidMetH Tryd.prog Rows.fnMadeOfRow.laid w) (fun _ _ _ hh h => h.of_heap hh) own started (by kernel_rfl) Tryd.func6
    (ChangeSpec.witness_shaped (enc := enc) (C := Tryd.checked) (os := os) (X := fun w _ => laidMetH Tryd.prog Rows.fnMadeOfRow.laid w) false (World.doorLaid Tryd.prog 29 os) #[.int .i64 0] 8 rfl (World.shaped_of_RefB (by kernel_rfl) (by kernel_rfl)) (by kernel_rfl) (by kernel_rfl) (by kernel_rfl) (door_met os _)) ?_
  intro W base args ds gs before hval0 hW _ hsz hL _
  have hval : ∀ (j : Nat) t v, Tryd.f6.params[j]? = some t → args[j]? = some v → Value.okWide Tryd.prog W .any base t v := hval0
  have hW1 := hW
  obtain ⟨p, q, hA0, hV, rfl, hfz, hnd⟩ := hW
  have hA : DataW.TrodAll enc Tryd.prog W 0 (fun _ => true) true Tryd.f6.params.toList args.toList ds p := hA0
  rw [Tryd.params6] at hA hval
  obtain ⟨v0, vs0, d0, ds0, p0, q0, hargs, rfl, rfl, h0, r0⟩ := trodAll_cons hA
  obtain ⟨rfl, rfl, rfl⟩ := trodAll_nil r0
  obtain rfl : args = #[v0] := by cases args; simp_all
  obtain ⟨rfl, rfl⟩ := trodVars_none hV
  obtain ⟨a0, rfl, rfl, rfl, w0⟩ := open_int Tryd.underlying3 (hval 0 3 v0 rfl rfl) h0
  clear hA0 hval0
  simp only [List.append_nil] at hW1
  refine (walk a0 w0 W (tokTab hL)).mono fun e W1 ⟨he, hg⟩ => ?_
  subst he
  exact ⟨_, rfl, _, _, _, [], [], [], hW1, (trodAll_cons_mk (shut_bool Tryd.underlying4 _) trodAll_mk0), (trodAll_cons_mk (shut_int Tryd.underlying3 w0) trodAll_mk0), rfl, hg.frame _, fun h => by cases h⟩
theorem said : Rows.FnMadeOfSaid :=
  OpenClaim.holds_of_wide 6 Tryd.f6 rfl rfl rfl rfl rfl rfl rfl ⟨rfl, rfl, rfl, rfl, rfl⟩ rfl rfl rfl rfl rfl (by kernel_rfl) Tryd.func6 (by kernel_rfl)
    (of_decide_eq_true (by kernel_rfl)) (by unfold Func.isWrapper; first | (rw [if_pos (by decide +kernel)]; kernel_rfl) | (rw [if_neg (by decide +kernel)]; exact ⟨rfl, rfl⟩))
    (fun os started H enc _ => lifted os started H enc)
/-- What the card asks besides: no parameter wants a stand-in. -/
theorem plain (f : FuncId) (fn : Func) (hf : Tryd.pinned.checked.prog.funcNamed "loop.example/lib-g03114/laws.FnMadeOf" = some f) (hfn : Tryd.pinned.checked.prog.funcs[f]? = some fn) :
    false = Tryd.pinned.checked.prog.looks [] ∧ ∀ (j : Nat) t, fn.params[j]? = some t → Tryd.pinned.checked.prog.wantsStandIn t = false := by
  obtain rfl : f = 6 := Option.some.inj ((show Tryd.prog.funcNamed "loop.example/lib-g03114/laws.FnMadeOf" = some 6 by kernel_rfl).symm.trans hf) |>.symm
  obtain rfl : fn = Tryd.f6 := (Option.some.inj (Tryd.func6.symm.trans hfn)).symm
  refine ⟨by kernel_rfl, fun j t ht => ?_⟩
  rw [Tryd.params6] at ht
  have hm : t ∈ [3] := by
    have := Array.mem_of_getElem? ht
    simp at this ⊢
    omega
  have hall : ([3].all fun u => !Tryd.prog.wantsStandIn u) = true := by kernel_rfl
  exact (show Tryd.prog.wantsStandIn t = false by simpa using List.all_eq_true.1 hall t hm)
theorem card : Rows.FnMadeOfCardSaid :=
  Claim7.holds_tied_plain_at .later [] _ _ _ _ said (fun _ h => by cases h) (by kernel_rfl) (fun _ h => by cases h) fnMadeOf_row_tie rfl ⟨rfl, rfl⟩ (by kernel_rfl) rfl plain (by kernel_rfl)
#print axioms card
end Go.Proofs.YtdaachmjnenlaaaDoor.fnMadeOf
