/- Contract of the reference's Decode: the first size whose bytes are those of a character. No condition. -/
import Derived.Test.YtggldaepncnnfaaDoorEncode
import Derived.Deep.QuietTactic
import Derived.BigQuiet
import Derived.Deep.RegionHeld3
import Derived.PlainAid
namespace Go.Proofs.YtggldaepncnnfaaDoor
open Go.RowKit Go.Lib

theorem below_drewN {B : Nat} {a w : World} (h : Below B a w) (n : Nat) : Below B a (w.drewN n) := ⟨h.os, h.tape, h.output, h.size, h.block⟩
/-- A byte as a number. -/
def bt8 (s : ByteArray) (i : Nat) : Int := ((s.get! i).toNat : Int)
theorem bt8_range (s : ByteArray) (i : Nat) : 0 ≤ bt8 s i ∧ bt8 s i ≤ 255 := by
  unfold bt8
  have := UInt8.toNat_lt (s.get! i)
  omega
theorem bt8_at (s : ByteArray) (i : Nat) (h : i < s.size) : (s[i].toNat : Int) = bt8 s i := by
  unfold bt8
  show _ = ((s.data[i]!).toNat : Int)
  rw [getElem!_pos s.data i h]
  rfl
def cand (s : ByteArray) (k : Nat) : Int :=
  if k = 1 then bt8 s 0 else if k = 2 then (bt8 s 0 - 192) * 64 + bt8 s 1 - 128
  else if k = 3 then ((bt8 s 0 - 224) * 64 + bt8 s 1 - 128) * 64 + bt8 s 2 - 128
  else (((bt8 s 0 - 240) * 64 + bt8 s 1 - 128) * 64 + bt8 s 2 - 128) * 64 + bt8 s 3 - 128
def okAt (s : ByteArray) (k : Nat) : Prop := k ≤ s.size ∧ 0 ≤ cand s k ∧ cand s k ≤ 1114111 ∧ encB (cand s k) = (s.extract 0 k).toList
def NoOk (s : ByteArray) (z : Nat) : Prop := ∀ k, 1 ≤ k → k < z → ¬ okAt s k
theorem NoOk.step {s : ByteArray} {z : Nat} (h : NoOk s z) (hz : ¬ okAt s z) : NoOk s (z + 1) := fun k h1 h2 => by
  by_cases hk : k = z
  · subst hk; exact hz
  · exact h k h1 (by omega)
/-- What is handed back: a size at which it fits, the first one; or nothing. -/
def DecPost (s : ByteArray) (w : World) (e : Ending) (w' : World) : Prop :=
  Below w.heap.size w w' ∧ ((∃ k, 1 ≤ k ∧ k ≤ 4 ∧ okAt s k ∧ e = .returned (.tuple #[.int .i64 (cand s k), .int .i64 (k : Int)])) ∨
    ((∀ k, 1 ≤ k → k ≤ 4 → ¬ okAt s k) ∧ e = .returned (.tuple #[.int .i64 0, .int .i64 0])))

set_option maxRecDepth 100000 in
set_option maxHeartbeats 8000000 in
theorem specDecode (s : ByteArray) (hs : s.size ≤ 140737488351232) (w : World) : Calls Tryd.prog 12 #[.string s] w (DecPost s w) := by
  go_enter Tryd.func12, Tryd.ntmps12
  go_wp2_with fail
  go_loopw [4] (fun p wr => ∃ z : Int, 1 ≤ z ∧ z ≤ 5 ∧ z ≤ s.size + 1 ∧ p = .int .i64 z ∧ NoOk s z.toNat ∧ Below w.heap.size w wr) (fun p _ => 5 - (intOf p).toNat)
  case atStart => exact ⟨1, by omega, by omega, by omega, rfl, (fun k h1 h2 => by omega), Below.refl _ _⟩
  case round =>
    obtain ⟨z, h1, h5, hz, rfl, hno, hb⟩ := hrel
    by_cases hin : z ≤ 4 ∧ z ≤ s.size
    · obtain ⟨hz4, hzs⟩ := hin
      rcases (show z = 1 ∨ z = 2 ∨ z = 3 ∨ z = 4 by omega) with rfl | rfl | rfl | rfl
      · have b0 := bt8_at s 0 (by omega)
        have r0 := bt8_range s 0
        have hc : cand s 1 = bt8 s 0 := rfl
        have HCC := Lib.hid hc
        clear hc
        have d3 : decide ((1 : Int) ≤ (s.size : Int)) = true := by simp; omega
        have hg : 0 ≤ bt8 s 0 ∧ bt8 s 0 ≤ 1114111 := by omega
        have HC := Lib.hid (fun w => specEncode (bt8 s 0) hg.1 hg.2 w)
        by_cases he : encB (bt8 s 0) = (s.extract 0 1).toList
        · have OK : okAt s 1 := ⟨by omega, by rw [HCC.out]; exact hg.1, by rw [HCC.out]; exact hg.2, by rw [HCC.out]; exact he⟩
          have HE := Lib.hid he
          clear he
          go_wp2_with fail
          generalize bt8 s 0 = r at *
          have d1 : decide (0 ≤ r) = true := decide_eq_true hg.1
          have d2 : decide (r ≤ 1114111) = true := decide_eq_true hg.2
          have hq : (encB r == (s.extract 0 1).toList) = true := by simp [HE.out]
          go_region_held3 (fun w' => Below w.heap.size w w') (first | exact hb | exact hb.drew | exact below_step hb.drew hb1) (first | (go_at_call 21; refine (HC.out _).mono ?_; rintro e w1 ⟨rfl, hb1⟩))
          go_wp2_with fail
          go_ret2
          exact ⟨below_step hb.drew hb1, Or.inl ⟨1, by omega, by omega, OK, by rw [HCC.out]; rfl⟩⟩
        · have NO : NoOk s (2 : Int).toNat := NoOk.step hno fun ok => he (by have := ok.2.2.2; rw [HCC.out] at this; exact this)
          have HE := Lib.hid he
          clear he
          go_wp2_with fail
          generalize bt8 s 0 = r at *
          have d1 : decide (0 ≤ r) = true := decide_eq_true hg.1
          have d2 : decide (r ≤ 1114111) = true := decide_eq_true hg.2
          have hq : (encB r == (s.extract 0 1).toList) = false := by simp [HE.out]
          go_region_held3 (fun w' => Below w.heap.size w w') (first | exact hb | exact hb.drew | exact below_step hb.drew hb1) (first | (go_at_call 21; refine (HC.out _).mono ?_; rintro e w1 ⟨rfl, hb1⟩))
          go_wp2_with fail
          go_roundw
          case rel => exact ⟨2, by omega, by omega, by omega, rfl, NO, below_step hb.drew hb1⟩
          case measure => simp [intOf]
      · have b0 := bt8_at s 0 (by omega)
        have r0 := bt8_range s 0
        have b1 := bt8_at s 1 (by omega)
        have r1 := bt8_range s 1
        have hc : cand s 2 = (bt8 s 0 - 192) * 64 + bt8 s 1 - 128 := rfl
        have HCC := Lib.hid hc
        clear hc
        have d3 : decide ((2 : Int) ≤ (s.size : Int)) = true := by simp; omega
        by_cases hg : 0 ≤ (bt8 s 0 - 192) * 64 + bt8 s 1 - 128 ∧ (bt8 s 0 - 192) * 64 + bt8 s 1 - 128 ≤ 1114111
        · have HC := Lib.hid (fun w => specEncode ((bt8 s 0 - 192) * 64 + bt8 s 1 - 128) hg.1 hg.2 w)
          by_cases he : encB ((bt8 s 0 - 192) * 64 + bt8 s 1 - 128) = (s.extract 0 2).toList
          · have OK : okAt s 2 := ⟨by omega, by rw [HCC.out]; exact hg.1, by rw [HCC.out]; exact hg.2, by rw [HCC.out]; exact he⟩
            have HE := Lib.hid he
            clear he
            go_wp2_with (refine wpList_newRow rfl (some 23) rfl 5 #[.int .i64 0, .int .i64 0, .int .i64 192, .int .i64 224, .int .i64 240] 3 ?_ ?_; kernel_rfl; intro wn hbn hrn; have hcn := hrn.at 2 (.int .i64 192) rfl)
            go_rounds 2
            generalize (bt8 s 0 - 192) * 64 + bt8 s 1 - 128 = r at *
            have d1 : decide (0 ≤ r) = true := decide_eq_true hg.1
            have d2 : decide (r ≤ 1114111) = true := decide_eq_true hg.2
            have hq : (encB r == (s.extract 0 2).toList) = true := by simp [HE.out]
            go_region_held3 (fun w' => Below w.heap.size w w') (first | exact (below_step hb hbn) | exact (below_step hb hbn).drew | exact below_step (below_step hb hbn).drew hb1) (first | (go_at_call 21; refine (HC.out _).mono ?_; rintro e w1 ⟨rfl, hb1⟩))
            go_wp2_with fail
            go_ret2
            exact ⟨below_step (below_step hb hbn).drew hb1, Or.inl ⟨2, by omega, by omega, OK, by rw [HCC.out]; rfl⟩⟩
          · have NO : NoOk s (3 : Int).toNat := NoOk.step hno fun ok => he (by have := ok.2.2.2; rw [HCC.out] at this; exact this)
            have HE := Lib.hid he
            clear he
            go_wp2_with (refine wpList_newRow rfl (some 23) rfl 5 #[.int .i64 0, .int .i64 0, .int .i64 192, .int .i64 224, .int .i64 240] 3 ?_ ?_; kernel_rfl; intro wn hbn hrn; have hcn := hrn.at 2 (.int .i64 192) rfl)
            go_rounds 2
            generalize (bt8 s 0 - 192) * 64 + bt8 s 1 - 128 = r at *
            have d1 : decide (0 ≤ r) = true := decide_eq_true hg.1
            have d2 : decide (r ≤ 1114111) = true := decide_eq_true hg.2
            have hq : (encB r == (s.extract 0 2).toList) = false := by simp [HE.out]
            go_region_held3 (fun w' => Below w.heap.size w w') (first | exact (below_step hb hbn) | exact (below_step hb hbn).drew | exact below_step (below_step hb hbn).drew hb1) (first | (go_at_call 21; refine (HC.out _).mono ?_; rintro e w1 ⟨rfl, hb1⟩))
            go_wp2_with fail
            go_roundw
            case rel => exact ⟨3, by omega, by omega, by omega, rfl, NO, below_step (below_step hb hbn).drew hb1⟩
            case measure => simp [intOf]
        · have NO : NoOk s (3 : Int).toNat := NoOk.step hno fun ok => hg (by have h2 := ok.2.1; have h3 := ok.2.2.1; rw [HCC.out] at h2 h3; exact ⟨h2, h3⟩)
          by_cases hg0 : 0 ≤ (bt8 s 0 - 192) * 64 + bt8 s 1 - 128
          · exfalso
            omega
          · clear hg
            go_wp2_with (refine wpList_newRow rfl (some 23) rfl 5 #[.int .i64 0, .int .i64 0, .int .i64 192, .int .i64 224, .int .i64 240] 3 ?_ ?_; kernel_rfl; intro wn hbn hrn; have hcn := hrn.at 2 (.int .i64 192) rfl)
            go_rounds 2
            generalize (bt8 s 0 - 192) * 64 + bt8 s 1 - 128 = r at *
            have d1 : decide (0 ≤ r) = false := decide_eq_false (by omega)
            go_quiet (fail)
            go_wp2_with fail
            go_roundw
            case rel => exact ⟨3, by omega, by omega, by omega, rfl, NO, below_drewN (below_step hb hbn) _⟩
            case measure => simp [intOf]
      · have b0 := bt8_at s 0 (by omega)
        have r0 := bt8_range s 0
        have b1 := bt8_at s 1 (by omega)
        have r1 := bt8_range s 1
        have b2 := bt8_at s 2 (by omega)
        have r2 := bt8_range s 2
        have hc : cand s 3 = ((bt8 s 0 - 224) * 64 + bt8 s 1 - 128) * 64 + bt8 s 2 - 128 := rfl
        have HCC := Lib.hid hc
        clear hc
        have d3 : decide ((3 : Int) ≤ (s.size : Int)) = true := by simp; omega
        by_cases hg : 0 ≤ ((bt8 s 0 - 224) * 64 + bt8 s 1 - 128) * 64 + bt8 s 2 - 128 ∧ ((bt8 s 0 - 224) * 64 + bt8 s 1 - 128) * 64 + bt8 s 2 - 128 ≤ 1114111
        · have HC := Lib.hid (fun w => specEncode (((bt8 s 0 - 224) * 64 + bt8 s 1 - 128) * 64 + bt8 s 2 - 128) hg.1 hg.2 w)
          by_cases he : encB (((bt8 s 0 - 224) * 64 + bt8 s 1 - 128) * 64 + bt8 s 2 - 128) = (s.extract 0 3).toList
          · have OK : okAt s 3 := ⟨by omega, by rw [HCC.out]; exact hg.1, by rw [HCC.out]; exact hg.2, by rw [HCC.out]; exact he⟩
            have HE := Lib.hid he
            clear he
            go_wp2_with (refine wpList_newRow rfl (some 23) rfl 5 #[.int .i64 0, .int .i64 0, .int .i64 192, .int .i64 224, .int .i64 240] 3 ?_ ?_; kernel_rfl; intro wn hbn hrn; have hcn := hrn.at 3 (.int .i64 224) rfl)
            go_rounds 3
            generalize ((bt8 s 0 - 224) * 64 + bt8 s 1 - 128) * 64 + bt8 s 2 - 128 = r at *
            have d1 : decide (0 ≤ r) = true := decide_eq_true hg.1
            have d2 : decide (r ≤ 1114111) = true := decide_eq_true hg.2
            have hq : (encB r == (s.extract 0 3).toList) = true := by simp [HE.out]
            go_region_held3 (fun w' => Below w.heap.size w w') (first | exact (below_step hb hbn) | exact (below_step hb hbn).drew | exact below_step (below_step hb hbn).drew hb1) (first | (go_at_call 21; refine (HC.out _).mono ?_; rintro e w1 ⟨rfl, hb1⟩))
            go_wp2_with fail
            go_ret2
            exact ⟨below_step (below_step hb hbn).drew hb1, Or.inl ⟨3, by omega, by omega, OK, by rw [HCC.out]; rfl⟩⟩
          · have NO : NoOk s (4 : Int).toNat := NoOk.step hno fun ok => he (by have := ok.2.2.2; rw [HCC.out] at this; exact this)
            have HE := Lib.hid he
            clear he
            go_wp2_with (refine wpList_newRow rfl (some 23) rfl 5 #[.int .i64 0, .int .i64 0, .int .i64 192, .int .i64 224, .int .i64 240] 3 ?_ ?_; kernel_rfl; intro wn hbn hrn; have hcn := hrn.at 3 (.int .i64 224) rfl)
            go_rounds 3
            generalize ((bt8 s 0 - 224) * 64 + bt8 s 1 - 128) * 64 + bt8 s 2 - 128 = r at *
            have d1 : decide (0 ≤ r) = true := decide_eq_true hg.1
            have d2 : decide (r ≤ 1114111) = true := decide_eq_true hg.2
            have hq : (encB r == (s.extract 0 3).toList) = false := by simp [HE.out]
            go_region_held3 (fun w' => Below w.heap.size w w') (first | exact (below_step hb hbn) | exact (below_step hb hbn).drew | exact below_step (below_step hb hbn).drew hb1) (first | (go_at_call 21; refine (HC.out _).mono ?_; rintro e w1 ⟨rfl, hb1⟩))
            go_wp2_with fail
            go_roundw
            case rel => exact ⟨4, by omega, by omega, by omega, rfl, NO, below_step (below_step hb hbn).drew hb1⟩
            case measure => simp [intOf]
        · have NO : NoOk s (4 : Int).toNat := NoOk.step hno fun ok => hg (by have h2 := ok.2.1; have h3 := ok.2.2.1; rw [HCC.out] at h2 h3; exact ⟨h2, h3⟩)
          by_cases hg0 : 0 ≤ ((bt8 s 0 - 224) * 64 + bt8 s 1 - 128) * 64 + bt8 s 2 - 128
          · exfalso
            omega
          · clear hg
            go_wp2_with (refine wpList_newRow rfl (some 23) rfl 5 #[.int .i64 0, .int .i64 0, .int .i64 192, .int .i64 224, .int .i64 240] 3 ?_ ?_; kernel_rfl; intro wn hbn hrn; have hcn := hrn.at 3 (.int .i64 224) rfl)
            go_rounds 3
            generalize ((bt8 s 0 - 224) * 64 + bt8 s 1 - 128) * 64 + bt8 s 2 - 128 = r at *
            have d1 : decide (0 ≤ r) = false := decide_eq_false (by omega)
            go_quiet (fail)
            go_wp2_with fail
            go_roundw
            case rel => exact ⟨4, by omega, by omega, by omega, rfl, NO, below_drewN (below_step hb hbn) _⟩
            case measure => simp [intOf]
      · have b0 := bt8_at s 0 (by omega)
        have r0 := bt8_range s 0
        have b1 := bt8_at s 1 (by omega)
        have r1 := bt8_range s 1
        have b2 := bt8_at s 2 (by omega)
        have r2 := bt8_range s 2
        have b3 := bt8_at s 3 (by omega)
        have r3 := bt8_range s 3
        have hc : cand s 4 = (((bt8 s 0 - 240) * 64 + bt8 s 1 - 128) * 64 + bt8 s 2 - 128) * 64 + bt8 s 3 - 128 := rfl
        have HCC := Lib.hid hc
        clear hc
        have d3 : decide ((4 : Int) ≤ (s.size : Int)) = true := by simp; omega
        by_cases hg : 0 ≤ (((bt8 s 0 - 240) * 64 + bt8 s 1 - 128) * 64 + bt8 s 2 - 128) * 64 + bt8 s 3 - 128 ∧ (((bt8 s 0 - 240) * 64 + bt8 s 1 - 128) * 64 + bt8 s 2 - 128) * 64 + bt8 s 3 - 128 ≤ 1114111
        · have HC := Lib.hid (fun w => specEncode ((((bt8 s 0 - 240) * 64 + bt8 s 1 - 128) * 64 + bt8 s 2 - 128) * 64 + bt8 s 3 - 128) hg.1 hg.2 w)
          by_cases he : encB ((((bt8 s 0 - 240) * 64 + bt8 s 1 - 128) * 64 + bt8 s 2 - 128) * 64 + bt8 s 3 - 128) = (s.extract 0 4).toList
          · have OK : okAt s 4 := ⟨by omega, by rw [HCC.out]; exact hg.1, by rw [HCC.out]; exact hg.2, by rw [HCC.out]; exact he⟩
            have HE := Lib.hid he
            clear he
            go_wp2_with (refine wpList_newRow rfl (some 23) rfl 5 #[.int .i64 0, .int .i64 0, .int .i64 192, .int .i64 224, .int .i64 240] 3 ?_ ?_; kernel_rfl; intro wn hbn hrn; have hcn := hrn.at 4 (.int .i64 240) rfl)
            go_rounds 4
            generalize (((bt8 s 0 - 240) * 64 + bt8 s 1 - 128) * 64 + bt8 s 2 - 128) * 64 + bt8 s 3 - 128 = r at *
            have d1 : decide (0 ≤ r) = true := decide_eq_true hg.1
            have d2 : decide (r ≤ 1114111) = true := decide_eq_true hg.2
            have hq : (encB r == (s.extract 0 4).toList) = true := by simp [HE.out]
            go_region_held3 (fun w' => Below w.heap.size w w') (first | exact (below_step hb hbn) | exact (below_step hb hbn).drew | exact below_step (below_step hb hbn).drew hb1) (first | (go_at_call 21; refine (HC.out _).mono ?_; rintro e w1 ⟨rfl, hb1⟩))
            go_wp2_with fail
            go_ret2
            exact ⟨below_step (below_step hb hbn).drew hb1, Or.inl ⟨4, by omega, by omega, OK, by rw [HCC.out]; rfl⟩⟩
          · have NO : NoOk s (5 : Int).toNat := NoOk.step hno fun ok => he (by have := ok.2.2.2; rw [HCC.out] at this; exact this)
            have HE := Lib.hid he
            clear he
            go_wp2_with (refine wpList_newRow rfl (some 23) rfl 5 #[.int .i64 0, .int .i64 0, .int .i64 192, .int .i64 224, .int .i64 240] 3 ?_ ?_; kernel_rfl; intro wn hbn hrn; have hcn := hrn.at 4 (.int .i64 240) rfl)
            go_rounds 4
            generalize (((bt8 s 0 - 240) * 64 + bt8 s 1 - 128) * 64 + bt8 s 2 - 128) * 64 + bt8 s 3 - 128 = r at *
            have d1 : decide (0 ≤ r) = true := decide_eq_true hg.1
            have d2 : decide (r ≤ 1114111) = true := decide_eq_true hg.2
            have hq : (encB r == (s.extract 0 4).toList) = false := by simp [HE.out]
            go_region_held3 (fun w' => Below w.heap.size w w') (first | exact (below_step hb hbn) | exact (below_step hb hbn).drew | exact below_step (below_step hb hbn).drew hb1) (first | (go_at_call 21; refine (HC.out _).mono ?_; rintro e w1 ⟨rfl, hb1⟩))
            go_wp2_with fail
            go_roundw
            case rel => exact ⟨5, by omega, by omega, by omega, rfl, NO, below_step (below_step hb hbn).drew hb1⟩
            case measure => simp [intOf]
        · have NO : NoOk s (5 : Int).toNat := NoOk.step hno fun ok => hg (by have h2 := ok.2.1; have h3 := ok.2.2.1; rw [HCC.out] at h2 h3; exact ⟨h2, h3⟩)
          by_cases hg0 : 0 ≤ (((bt8 s 0 - 240) * 64 + bt8 s 1 - 128) * 64 + bt8 s 2 - 128) * 64 + bt8 s 3 - 128
          · have HG := Lib.hid hg
            clear hg
            go_wp2_with (refine wpList_newRow rfl (some 23) rfl 5 #[.int .i64 0, .int .i64 0, .int .i64 192, .int .i64 224, .int .i64 240] 3 ?_ ?_; kernel_rfl; intro wn hbn hrn; have hcn := hrn.at 4 (.int .i64 240) rfl)
            go_rounds 4
            generalize (((bt8 s 0 - 240) * 64 + bt8 s 1 - 128) * 64 + bt8 s 2 - 128) * 64 + bt8 s 3 - 128 = r at *
            have d1 : decide (0 ≤ r) = true := decide_eq_true (by omega)
            have d2 : decide (r ≤ 1114111) = false := decide_eq_false (fun h => HG.out ⟨by omega, h⟩)
            go_quiet (fail)
            go_wp2_with fail
            go_roundw
            case rel => exact ⟨5, by omega, by omega, by omega, rfl, NO, below_drewN (below_step hb hbn) _⟩
            case measure => simp [intOf]
          · clear hg
            go_wp2_with (refine wpList_newRow rfl (some 23) rfl 5 #[.int .i64 0, .int .i64 0, .int .i64 192, .int .i64 224, .int .i64 240] 3 ?_ ?_; kernel_rfl; intro wn hbn hrn; have hcn := hrn.at 4 (.int .i64 240) rfl)
            go_rounds 4
            generalize (((bt8 s 0 - 240) * 64 + bt8 s 1 - 128) * 64 + bt8 s 2 - 128) * 64 + bt8 s 3 - 128 = r at *
            have d1 : decide (0 ≤ r) = false := decide_eq_false (by omega)
            go_quiet (fail)
            go_wp2_with fail
            go_roundw
            case rel => exact ⟨5, by omega, by omega, by omega, rfl, NO, below_drewN (below_step hb hbn) _⟩
            case measure => simp [intOf]
    · have NO : ∀ k, 1 ≤ k → k ≤ 4 → ¬ okAt s k := fun k k1 k4 ok => by
        by_cases hk : k < z.toNat
        · exact hno k k1 hk ok
        · have := ok.1
          omega
      by_cases hz4 : z ≤ 4
      · have d1 : decide (z ≤ 4) = true := decide_eq_true hz4
        have d2 : decide (z ≤ (s.size : Int)) = false := decide_eq_false (fun h => hin ⟨hz4, h⟩)
        clear hin
        go_wp2_with fail
        go_ret2
        exact ⟨hb, Or.inr ⟨NO, rfl⟩⟩
      · have d1 : decide (z ≤ 4) = false := decide_eq_false hz4
        clear hin
        go_wp2_with fail
        go_ret2
        exact ⟨hb, Or.inr ⟨NO, rfl⟩⟩
end Go.Proofs.YtggldaepncnnfaaDoor
