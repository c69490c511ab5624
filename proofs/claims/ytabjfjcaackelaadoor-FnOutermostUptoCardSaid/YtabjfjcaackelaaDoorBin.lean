/- Contracts of laws.binary and of the reference's grouped. -/
import Derived.Test.YtabjfjcaackelaaDoorLevels
import Derived.Test.YtabjfjcaackelaaDoorInts
import Derived.Test.YtabjfjcaackelaaDoorNum
import Derived.Deep.QuietTactic
import Derived.BigQuiet
import Derived.Deep.RegionHeld3
import Derived.Deep.RegionWith
import Derived.IntWalk
namespace Go.Proofs.YtabjfjcaackelaaDoor
open Go.RowKit

def binB (zs : List Int) : Bool := zs.all fun x => !(prec x == 0)
theorem binB_at {zs : List Int} {j : Nat} (hj : j < zs.length) (h : prec (zs.getD j 0) = 0) : binB zs = false := by
  unfold binB
  rw [List.all_eq_false]
  refine ⟨zs.getD j 0, ?_, by rw [h]; decide⟩
  rw [List.getD_eq_getElem?_getD, List.getElem?_eq_getElem hj, Option.getD_some]
  exact List.getElem_mem _
theorem binB_all {zs : List Int} (h : ∀ j, j < zs.length → prec (zs.getD j 0) ≠ 0) : binB zs = true := by
  unfold binB
  rw [List.all_eq_true]
  intro x hx
  obtain ⟨j, hj, rfl⟩ := List.mem_iff_getElem.1 hx
  have := h j hj
  rw [List.getD_eq_getElem?_getD, List.getElem?_eq_getElem hj, Option.getD_some] at this
  simpa using this
theorem binB_pos {zs : List Int} (h : binB zs = true) : ∀ x ∈ zs, 0 < prec x := fun x hx => by
  unfold binB at h
  have := List.all_eq_true.1 h x hx
  have h2 := prec_range x
  simp at this
  omega

set_option maxHeartbeats 1000000 in
theorem lawsBinary {w : World} (A : Option Addr) (cap : Nat) (zs : List Int) (hn : zs.length ≤ 17592186044416) (hI : IntsAt w A zs) :
    Calls Tryd.prog 14 #[.slice A zs.length cap] w fun e w' => e = .returned (.bool (binB zs)) ∧ Below w.heap.size w w' := by
  generalize hnn : zs.length = n
  have HN := Lib.hid hnn
  have hn' : n ≤ 17592186044416 := by omega
  clear hnn hn
  go_enter Tryd.func14, Tryd.ntmps14
  go_wp2_with fail
  go_loopw [7] (fun p wr => ∃ j : Nat, j ≤ n ∧ p = .int .i64 (j : Int) ∧ (∀ i, i < j → prec (zs.getD i 0) ≠ 0) ∧ Below w.heap.size w wr) (fun p _ => n - (intOf p).toNat)
  case atStart => exact ⟨0, by omega, rfl, (fun i hi => by omega), Below.refl _ _⟩
  case round =>
    obtain ⟨j, hj, rfl, hall, hb⟩ := hrel
    have HA := Lib.hid hall
    clear hall
    have hIr := hI.below hb
    by_cases hlt : j < n
    · obtain ⟨b, off, rfl, hbk, hc⟩ := hIr.at (i := j) (by have := HN.out; omega)
      by_cases hp : prec (zs.getD j 0) = 0
      · have R := Lib.hid (binB_at (zs := zs) (j := j) (by have := HN.out; omega) hp)
        have HP := Lib.hid hp
        clear hp
        generalize zs.getD j 0 = x at hc HP
        go_wp2_with fail
        refine (specPrecedenceAt x 0 HP.out _).mono ?_
        rintro e w1 ⟨rfl, hb1⟩
        go_wp2_with fail
        go_ret
        exact ⟨ret_bool R.out.symm, below_step hb hb1⟩
      · have HA2 : Hid (∀ i, i < j + 1 → prec (zs.getD i 0) ≠ 0) := fun i hi => by
          by_cases hij : i = j
          · subst hij; exact hp
          · exact HA.out i (by omega)
        have hq : (prec (zs.getD j 0) == 0) = false := beq_eq_false_iff_ne.2 hp
        clear hp
        generalize zs.getD j 0 = x at hc hq
        go_wp2_with fail
        refine (specPrecedence x _).mono ?_
        rintro e w1 ⟨rfl, hb1⟩
        go_wp2_with fail
        go_roundw
        case rel => exact ⟨j + 1, by omega, by go_num, HA2.out, below_step hb hb1⟩
        case measure => simp [intOf]; omega
    · obtain rfl : j = n := by omega
      have R := Lib.hid (binB_all (zs := zs) (fun i hi => HA.out i (by have := HN.out; omega)))
      go_wp2_with fail
      go_ret
      exact ⟨ret_bool R.out.symm, hb⟩

def grpS (zs : List Int) (first : Nat) : ByteArray := ⟨(grp zs first).toArray⟩
theorem grpS_size (zs : List Int) (first : Nat) (h : first + zs.length < 100000000000000) : (grpS zs first).size ≤ 27 * zs.length + 14 := by
  show (grpS zs first).data.size ≤ _
  unfold grpS
  have := grp_len (zs.length + 1) zs first (by omega) h
  simpa [grp] using this
theorem grpS_nil (first : Nat) : grpS [] first = decS (first : Int) := rfl
theorem grpS_cons (zs : List Int) (first : Nat) (h : 0 < zs.length) : grpS zs first = (⟨#[40]⟩ : ByteArray) ++ grpS (zs.take (lastMin zs zs.length)) first ++ txt (zs.getD (lastMin zs zs.length) 0) ++ grpS (zs.drop (lastMin zs zs.length + 1)) (first + lastMin zs zs.length + 1) ++ ⟨#[41]⟩ := by
  apply WideShapes.bytes_inj
  rw [ByteArray.data_append, ByteArray.data_append, ByteArray.data_append, ByteArray.data_append]
  unfold grpS txt
  rw [grp_cons zs first h]
  simp
theorem IntsAt.take {w : World} {A : Option Addr} {zs : List Int} (h : IntsAt w A zs) (k : Nat) : IntsAt w A (zs.take k) := fun h0 => by
  simp at h0
  obtain ⟨b, off, ha, hlt, hc⟩ := h (by omega)
  refine ⟨b, off, ha, hlt, fun i hi => ?_⟩
  simp at hi
  rw [hc i (by omega), List.getD_eq_getElem?_getD, List.getD_eq_getElem?_getD, List.getElem?_take_of_lt (by omega)]
theorem IntsAt.drop {w : World} {b off : Nat} {zs : List Int} (h : IntsAt w (some ⟨b, off, none⟩) zs) (k : Nat) : IntsAt w (some ⟨b, off + k, none⟩) (zs.drop k) := fun h0 => by
  simp at h0
  obtain ⟨b', off', ha, hlt, hc⟩ := h (by omega)
  simp only [Option.some.injEq, Addr.mk.injEq, and_true] at ha
  obtain ⟨rfl, rfl⟩ := ha
  refine ⟨b, off + k, rfl, hlt, fun i hi => ?_⟩
  simp at hi
  rw [show off + k + i = off + (k + i) by omega, hc (k + i) (by omega), List.getD_eq_getElem?_getD, List.getD_eq_getElem?_getD, List.getElem?_drop]

theorem cat_ok (a b : ByteArray) (h : a.size + b.size ≤ 1000000000000000) : Op.stringOp .add a b = pure (.string (a ++ b)) := by
  have : ¬ ((a.size + b.size : Nat) : Int) > IntKind.i64.max := by
    have : IntKind.i64.max = 9223372036854775807 := by decide
    omega
  simp only [Op.stringOp]
  rw [if_neg this]
set_option maxRecDepth 100000 in
set_option maxHeartbeats 4000000 in
theorem specGroupedF (fuel : Nat) : ∀ (zs : List Int) (A : Option Addr) (cap first : Nat) (w : World), zs.length < fuel → zs.length ≤ cap → cap ≤ 9223372036854775807 → first + zs.length ≤ 17592186044416 → IntsAt w A zs →
    Calls Tryd.prog 28 #[.slice A zs.length cap, .int .i64 (first : Int)] w fun e w' => e = .returned (.string (grpS zs first)) ∧ Below w.heap.size w w' := by
  induction fuel with
  | zero => intro zs A cap first w h; omega
  | succ fuel ih =>
    intro zs A cap first w hf hcap hcm hfirst hI
    by_cases h0 : zs.length = 0
    · have hz : zs = [] := List.eq_nil_of_length_eq_zero h0
      subst hz
      clear ih
      have D := Lib.hid (grpS_nil first)
      go_enter Tryd.func28, Tryd.ntmps28
      go_wp2_with fail
      refine (specDigitsAt (first : Int) _ (by omega) (by omega)).mono ?_
      rintro e w1 ⟨rfl, hb1⟩
      go_wp2_with fail
      go_ret
      exact ⟨by rw [D.out]; rfl, hb1⟩
    · have IH := Lib.hid ih
      clear ih
      obtain ⟨b, off, rfl, hbk, hcells⟩ := hI (by omega)
      have HC := Lib.hid hcells
      have D := Lib.hid (grpS_cons zs first (by omega))
      generalize hnn : zs.length = n at *
      have HN := Lib.hid hnn
      have hzn : ((n : Int) == 0) = false := by rw [beq_eq_false_iff_ne]; omega
      clear hnn hcells
      go_enter Tryd.func28, Tryd.ntmps28
      go_wp2_with fail
      go_loopw [5, 14] (fun q p wr => ∃ j : Nat, j ≤ n ∧ p = .int .i64 (j : Int) ∧ q = .int .i64 ((lastMin zs j : Nat) : Int) ∧ Below w.heap.size w wr) (fun _ p _ => n - (intOf p).toNat)
      case atStart => exact ⟨0, by omega, rfl, rfl, Below.refl _ _⟩
      case round =>
        obtain ⟨j, hj, rfl, rfl, hb⟩ := hrel
        by_cases hlt : j < n
        · have hm : lastMin zs j < n := by
            by_cases h : 0 < j
            · have := lastMin_lt zs j h; omega
            · have : j = 0 := by omega
              subst this
              simp [lastMin]
              omega
          have L : Hid (lastMin zs (j + 1) = if prec (zs.getD j 0) ≤ prec (zs.getD (lastMin zs j) 0) then j else lastMin zs j) := rfl
          have hcx : wr.cell? ⟨b, off + j, none⟩ = some (.int .i64 (zs.getD j 0)) := (hb.cell (p := ⟨b, off + j, none⟩) hbk).trans (HC.out j (by have := HN.out; omega))
          have hcy : wr.cell? ⟨b, off + lastMin zs j, none⟩ = some (.int .i64 (zs.getD (lastMin zs j) 0)) := (hb.cell (p := ⟨b, off + lastMin zs j, none⟩) hbk).trans (HC.out _ (by have := HN.out; omega))
          generalize lastMin zs j = m at *
          generalize zs.getD j 0 = x at *
          generalize zs.getD m 0 = y at *
          have hbr : b < wr.heap.size := Nat.lt_of_lt_of_le hbk hb.size
          have K : ∀ w', Below wr.heap.size wr w' → w'.cell? ⟨b, off + j, none⟩ = some (.int .i64 x) ∧ w'.cell? ⟨b, off + m, none⟩ = some (.int .i64 y) := fun w' h => ⟨(h.cell (p := ⟨b, off + j, none⟩) hbr).trans hcx, (h.cell (p := ⟨b, off + m, none⟩) hbr).trans hcy⟩
          have KH := Lib.hid K
          clear K
          have g1 : (0 : Int) ≤ (j : Int) := by omega
          have g2 : (j : Int) < (n : Int) := by omega
          have g3 : (0 : Int) ≤ (m : Int) := by omega
          have g4 : (m : Int) < (n : Int) := by omega
          by_cases hxy : prec x ≤ prec y
          · have L2 : Hid (lastMin zs (j + 1) = j) := by show _ = _; rw [L.out, if_pos hxy]
            have hd : decide (prec x ≤ prec y) = true := decide_eq_true hxy
            clear L hcx hcy
            go_wp2_with fail
            go_region_held3 (fun w' => w'.cell? ⟨b, off + j, none⟩ = some (.int .i64 x) ∧ w'.cell? ⟨b, off + m, none⟩ = some (.int .i64 y)) (first | exact KH.out _ (Below.refl _ _) | exact KH.out _ (Below.refl _ _).drew | exact KH.out _ (below_step (Below.refl _ _).drew hb1) | exact KH.out _ (below_step (below_step (Below.refl _ _).drew hb1) hb2)) (first | (go_at_call_of 25 (Value.int IntKind.i64 x); refine (specPrecedence x _).mono ?_; rintro e w1 ⟨rfl, hb1⟩) | (go_at_call_of 25 (Value.int IntKind.i64 y); refine (specPrecedence y _).mono ?_; rintro e w2 ⟨rfl, hb2⟩))
            go_wp2_with fail
            go_roundw
            case rel => exact ⟨j + 1, by omega, by go_num, by rw [L2.out], below_step (below_step hb.drew hb1) hb2⟩
            case measure => simp [intOf]; omega
          · have L2 : Hid (lastMin zs (j + 1) = m) := by show _ = _; rw [L.out, if_neg hxy]
            have hd : decide (prec x ≤ prec y) = false := decide_eq_false hxy
            clear L hcx hcy
            go_wp2_with fail
            go_region_held3 (fun w' => w'.cell? ⟨b, off + j, none⟩ = some (.int .i64 x) ∧ w'.cell? ⟨b, off + m, none⟩ = some (.int .i64 y)) (first | exact KH.out _ (Below.refl _ _) | exact KH.out _ (Below.refl _ _).drew | exact KH.out _ (below_step (Below.refl _ _).drew hb1) | exact KH.out _ (below_step (below_step (Below.refl _ _).drew hb1) hb2)) (first | (go_at_call_of 25 (Value.int IntKind.i64 x); refine (specPrecedence x _).mono ?_; rintro e w1 ⟨rfl, hb1⟩) | (go_at_call_of 25 (Value.int IntKind.i64 y); refine (specPrecedence y _).mono ?_; rintro e w2 ⟨rfl, hb2⟩))
            go_wp2_with fail
            go_roundw
            case rel => exact ⟨j + 1, by omega, by go_num, by rw [L2.out], below_step (below_step hb.drew hb1) hb2⟩
            case measure => simp [intOf]; omega
        · obtain rfl : j = n := by omega
          clear hlt hj
          have hm : lastMin zs j < j := lastMin_lt zs j (by omega)
          have D2 : Hid (grpS zs first = (⟨#[40]⟩ : ByteArray) ++ grpS (zs.take (lastMin zs j)) first ++ txt (zs.getD (lastMin zs j) 0) ++ grpS (zs.drop (lastMin zs j + 1)) (first + lastMin zs j + 1) ++ ⟨#[41]⟩) := D
          have hcx : wr.cell? ⟨b, off + lastMin zs j, none⟩ = some (.int .i64 (zs.getD (lastMin zs j) 0)) := (hb.cell (p := ⟨b, off + lastMin zs j, none⟩) hbk).trans (HC.out _ (by have := HN.out; omega))
          generalize lastMin zs j = m at *
          generalize zs.getD m 0 = x at *
          have hbr : b < wr.heap.size := Nat.lt_of_lt_of_le hbk hb.size
          have K : ∀ w', Below wr.heap.size wr w' → w'.cell? ⟨b, off + m, none⟩ = some (.int .i64 x) := fun w' h => (h.cell (p := ⟨b, off + m, none⟩) hbr).trans hcx
          have KH := Lib.hid K
          have hIr := hI.below hb
          have C1 : Hid (∀ W, Below wr.heap.size wr W → Calls Tryd.prog 28 #[.slice (some ⟨b, off, none⟩) m cap, .int .i64 (first : Int)] W fun e w' => e = .returned (.string (grpS (zs.take m) first)) ∧ Below W.heap.size W w') := fun W hW => by
            have e : (zs.take m).length = m := by have := HN.out; simp; omega
            have := IH.out (zs.take m) (some ⟨b, off, none⟩) cap first W (by omega) (by omega) hcm (by omega) ((hIr.below hW).take m)
            rwa [e] at this
          have z1 : (grpS (zs.take m) first).size ≤ 475000000000000 := by
            have := grpS_size (zs.take m) first (by simp; omega)
            simp at this
            omega
          have z2 : (grpS (zs.drop (m + 1)) (first + m + 1)).size ≤ 475000000000000 := by
            have h := HN.out
            have := grpS_size (zs.drop (m + 1)) (first + m + 1) (by simp; omega)
            simp at this
            omega
          have z3 := txt_size x
          have c1 := cat_ok (⟨#[40]⟩ : ByteArray) (grpS (zs.take m) first) (by have : (⟨#[40]⟩ : ByteArray).size = 1 := rfl; omega)
          have c2 := cat_ok ((⟨#[40]⟩ : ByteArray) ++ grpS (zs.take m) first) (txt x) (by have : (⟨#[40]⟩ : ByteArray).size = 1 := rfl; rw [ByteArray.size_append]; omega)
          have c3 := cat_ok ((⟨#[40]⟩ : ByteArray) ++ grpS (zs.take m) first ++ txt x) (grpS (zs.drop (m + 1)) (first + m + 1)) (by have : (⟨#[40]⟩ : ByteArray).size = 1 := rfl; rw [ByteArray.size_append, ByteArray.size_append]; omega)
          have c4 := cat_ok ((⟨#[40]⟩ : ByteArray) ++ grpS (zs.take m) first ++ txt x ++ grpS (zs.drop (m + 1)) (first + m + 1)) (⟨#[41]⟩ : ByteArray) (by have : (⟨#[40]⟩ : ByteArray).size = 1 := rfl; have : (⟨#[41]⟩ : ByteArray).size = 1 := rfl; rw [ByteArray.size_append, ByteArray.size_append, ByteArray.size_append]; omega)
          have g7 : (m : Int) + 1 ≤ (j : Int) := by omega
          have g8 : (0 : Int) ≤ (m : Int) + 1 := by omega
          have g9 : (j : Int) ≤ (cap : Int) := by omega
          have g10 : (m : Int) ≤ (cap : Int) := by omega
          have g11 : (m : Int) ≤ (j : Int) := by omega
          have g1 : (0 : Int) ≤ (m : Int) := by omega
          have g2 : (m : Int) < (j : Int) := by omega
          have g3 : IntKind.i64.wrap ((m : Int) + 1) = (m : Int) + 1 := IntWalk.i64_in _ (by omega)
          have g4 : ((m : Int) + 1).toNat = m + 1 := by omega
          have g5 : IntKind.i64.wrap ((first : Int) + (m : Int)) = (first : Int) + (m : Int) := IntWalk.i64_in _ (by omega)
          have g6 : IntKind.i64.wrap ((first : Int) + (m : Int) + 1) = (first : Int) + (m : Int) + 1 := IntWalk.i64_in _ (by omega)
          by_cases hcp : cap = m + 1
          · have hend : zs.drop (m + 1) = [] := by
              have := HN.out
              exact List.drop_eq_nil_of_le (by omega)
            have k1 : j - (m + 1) = 0 := by omega
            have k2 : cap - (m + 1) = 0 := by omega
            have C3 : Hid (∀ W, Below wr.heap.size wr W → Calls Tryd.prog 28 #[.slice (some ⟨b, off, none⟩) 0 0, .int .i64 ((first : Int) + (m : Int) + 1)] W fun e w' => e = .returned (.string (grpS (zs.drop (m + 1)) (first + m + 1))) ∧ Below W.heap.size W w') := fun W hW => by
              rw [hend]
              have := IH.out [] (some ⟨b, off, none⟩) 0 (first + m + 1) W (by simp; omega) (by simp) (by omega) (by simp; omega) (fun h => by simp at h)
              rw [show ((first + m + 1 : Nat) : Int) = (first : Int) + (m : Int) + 1 by omega] at this
              exact this
            have HB := Lib.hid hb
            clear K hcx hIr hb z1 z2 z3 hcm hcap hf hfirst hend hcp
            go_wp2_with fail
            go_region_held3 (fun w' => w'.cell? ⟨b, off + m, none⟩ = some (.int .i64 x)) (first | exact KH.out _ (Below.refl _ _) | exact KH.out _ (Below.refl _ _).drew | exact KH.out _ (below_step (Below.refl _ _).drew hb1) | exact KH.out _ (below_step (below_step (Below.refl _ _).drew hb1) hb2) | exact KH.out _ (below_step (below_step (below_step (Below.refl _ _).drew hb1) hb2) hb3)) (first | (go_at_call 23; refine (specString x _).mono ?_; rintro e w2 ⟨rfl, hb2⟩) | (go_at_call_of 28 (Value.int IntKind.i64 (first : Int)); refine (C1.out _ ?_).mono ?_; (first | exact (Below.refl _ _).drew); rintro e w1 ⟨rfl, hb1⟩) | (go_at_call 28; refine (C3.out _ ?_).mono ?_; (first | exact below_step (below_step (Below.refl _ _).drew hb1) hb2); rintro e w3 ⟨rfl, hb3⟩))
            go_wp2_with fail
            go_ret
            exact ⟨by rw [D2.out]; rfl, below_step (below_step (below_step HB.out.drew hb1) hb2) hb3⟩
          · have C3 : Hid (∀ W, Below wr.heap.size wr W → Calls Tryd.prog 28 #[.slice (some ⟨b, off + (m + 1), none⟩) (j - (m + 1)) (cap - (m + 1)), .int .i64 ((first : Int) + (m : Int) + 1)] W fun e w' => e = .returned (.string (grpS (zs.drop (m + 1)) (first + m + 1))) ∧ Below W.heap.size W w') := fun W hW => by
              have h := HN.out
              have e : (zs.drop (m + 1)).length = j - (m + 1) := by simp; omega
              have := IH.out (zs.drop (m + 1)) (some ⟨b, off + (m + 1), none⟩) (cap - (m + 1)) (first + m + 1) W (by omega) (by omega) (by omega) (by omega) ((hIr.below hW).drop (m + 1))
              rw [e, show ((first + m + 1 : Nat) : Int) = (first : Int) + (m : Int) + 1 by omega] at this
              exact this
            have hcp2 : cap - (m + 1) ≠ 0 := by omega
            have HB := Lib.hid hb
            clear K hcx hIr hb z1 z2 z3 hcm hcap hf hfirst
            go_wp2_with fail
            go_region_held3 (fun w' => w'.cell? ⟨b, off + m, none⟩ = some (.int .i64 x)) (first | exact KH.out _ (Below.refl _ _) | exact KH.out _ (Below.refl _ _).drew | exact KH.out _ (below_step (Below.refl _ _).drew hb1) | exact KH.out _ (below_step (below_step (Below.refl _ _).drew hb1) hb2) | exact KH.out _ (below_step (below_step (below_step (Below.refl _ _).drew hb1) hb2) hb3)) (first | (go_at_call 23; refine (specString x _).mono ?_; rintro e w2 ⟨rfl, hb2⟩) | (go_at_call_of 28 (Value.int IntKind.i64 (first : Int)); refine (C1.out _ ?_).mono ?_; (first | exact (Below.refl _ _).drew); rintro e w1 ⟨rfl, hb1⟩) | (go_at_call 28; refine (C3.out _ ?_).mono ?_; (first | exact below_step (below_step (Below.refl _ _).drew hb1) hb2); rintro e w3 ⟨rfl, hb3⟩))
            go_wp2_with fail
            go_ret
            exact ⟨by rw [D2.out]; rfl, below_step (below_step (below_step HB.out.drew hb1) hb2) hb3⟩
theorem specGroupedW {w : World} (A : Option Addr) (cap : Nat) (zs : List Int) (hn : zs.length ≤ 17592186044416) (hc : zs.length ≤ cap) (hm : cap ≤ 9223372036854775807) (hI : IntsAt w A zs) :
    Calls Tryd.prog 16 #[.slice A zs.length cap] w fun e w' => e = .returned (.string (grpS zs 0)) ∧ Below w.heap.size w w' := by
  have C := Lib.hid (specGroupedF (zs.length + 1) zs A cap 0 w (by omega) hc hm (by omega) hI)
  clear hI hn hc hm
  go_enter Tryd.func16, Tryd.ntmps16
  go_wp2_with fail
  refine C.out.mono ?_
  rintro e w1 ⟨rfl, hb1⟩
  go_wp2_with fail
  go_ret
  exact ⟨rfl, hb1⟩
theorem specGrouped {w : World} (A : Option Addr) (cap : Nat) (zs : List Int) (hc : zs.length ≤ cap) (hm : cap ≤ 17592186044416) (hI : IntsAt w A zs) :
    Calls Tryd.prog 16 #[.slice A zs.length cap] w fun e w' => e = .returned (.string (grpS zs 0)) ∧ Below w.heap.size w w' :=
  specGroupedW A cap zs (by omega) hc (by omega) hI
end Go.Proofs.YtabjfjcaackelaaDoor
