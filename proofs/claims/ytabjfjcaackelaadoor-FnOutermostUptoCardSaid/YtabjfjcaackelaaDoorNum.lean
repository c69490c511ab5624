/- Contracts of the decimal numerals: spec.digits and laws.number. For numbers below 10^14. -/
import Derived.Test.YtabjfjcaackelaaDoorGrp
import Derived.Test.YtabjfjcaackelaaDoorRows
import Derived.Laws.IdiomStrings
namespace Go.Proofs.YtabjfjcaackelaaDoor
open Go.RowKit

/-- The text of a slice of bytes that lies in a block. -/
theorem conv_row {w : World} {b cap : Nat} (l : List UInt8) (h : Row w b (l.map fun c => Value.int .u8 (c.toNat : Int))) :
    (convert 29 9 (.slice (some ⟨b, 0, none⟩) l.length cap)).run Tryd.prog w = .ok (.string ⟨l.toArray⟩) w :=
  run_convert_bytes_back w 29 9 5 ⟨b, 0, none⟩ cap l Tryd.underlying29 Tryd.underlying5 Tryd.underlying9 (fun j hj => by
    have := h.at j (.int .u8 (l[j].toNat : Int)) (by simp [hj])
    have e : (⟨b, 0, none⟩ : Addr).add j = ⟨b, j, none⟩ := by unfold Addr.add; split <;> simp_all
    rw [e]
    exact this)
theorem conv_one {w : World} {b : Nat} (c : UInt8) (h : Row w b [Value.int .u8 (c.toNat : Int)]) :
    (convert 29 9 (.slice (some ⟨b, 0, none⟩) 1 1)).run Tryd.prog w = .ok (.string ⟨#[c]⟩) w := conv_row [c] h

def decS (x : Int) : ByteArray := ⟨(dec x.toNat).toArray⟩
theorem digit_val (n : Nat) (h : n < 10) : ((UInt8.ofNat (48 + n)).toNat : Int) = 48 + (n : Int) := by simp; omega
theorem decS_small (x : Int) (h0 : 0 ≤ x) (h : x < 10) : decS x = ⟨#[UInt8.ofNat (48 + x.toNat)]⟩ := by
  unfold decS
  rw [dec_small _ (by omega)]
theorem decS_big (x : Int) (h : 10 ≤ x) : decS x = decS (x / 10) ++ decS (x % 10) := by
  apply WideShapes.bytes_inj
  rw [ByteArray.data_append]
  unfold decS
  have e1 : (x / 10).toNat = x.toNat / 10 := by omega
  have e2 : (x % 10).toNat = x.toNat % 10 := by omega
  rw [dec_big _ (by omega), e1, e2, dec_small (x.toNat % 10) (by omega)]
  simp
theorem conv_digit (x : Int) (h0 : 0 ≤ x) (h : x < 10) (w : World) :
    (convert 29 9 (.slice (some ⟨w.heap.size, 0, none⟩) 1 1)).run Tryd.prog (w.alloc (.cells #[.int .u8 (48 + x)] 5)) = .ok (.string (decS x)) (w.alloc (.cells #[.int .u8 (48 + x)] 5)) := by
  rw [decS_small x h0 h]
  exact conv_one (UInt8.ofNat (48 + x.toNat)) (Row.new _ _ _ _ (by rw [digit_val x.toNat (by omega), Int.toNat_of_nonneg h0]))
theorem decS_size (x : Int) (h : x < 100000000000000) : (decS x).size ≤ 14 := by
  show (decS x).data.size ≤ 14
  unfold decS
  have := dec_len 13 x.toNat (by omega)
  simpa using this

set_option maxHeartbeats 1000000 in
theorem specDigits (k : Nat) : ∀ (x : Int) (w : World), 0 ≤ x → x < 100000000000000 → x < k →
    Calls Tryd.prog 33 #[.int .i64 x] w fun e w' => e = .returned (.string (decS x)) ∧ Below w.heap.size w w' := by
  induction k with
  | zero => intro x w h0 _ hk; omega
  | succ k ih =>
    intro x w h0 h1 hk
    by_cases h : x < 10
    · have hconv := conv_digit x h0 h w
      clear ih
      go_enter Tryd.func33, Tryd.ntmps33
      go_wp2_with fail
      go_ret
      exact ⟨rfl, below_new _ _⟩
    · have D := Lib.hid (decS_big x (by omega))
      have s1 := decS_size (x / 10) (by omega)
      have s2 := decS_size (x % 10) (by omega)
      have IH := Lib.hid ih
      clear ih
      go_enter Tryd.func33, Tryd.ntmps33
      go_wp2_with fail
      refine (IH.out (x / 10) _ (by omega) (by omega) (by omega)).mono ?_
      rintro e w1 ⟨rfl, hb1⟩
      go_wp2_with fail
      refine (IH.out (x % 10) _ (by omega) (by omega) (by omega)).mono ?_
      rintro e w2 ⟨rfl, hb2⟩
      go_wp2_with fail
      go_ret
      exact ⟨by rw [D.out]; rfl, below_step hb1 hb2⟩
theorem specDigitsAt (x : Int) (w : World) (h0 : 0 ≤ x) (h1 : x < 100000000000000) :
    Calls Tryd.prog 33 #[.int .i64 x] w fun e w' => e = .returned (.string (decS x)) ∧ Below w.heap.size w w' := specDigits (x.toNat + 1) x w h0 h1 (by omega)

set_option maxHeartbeats 1000000 in
theorem lawsNumber (x : Int) (w : World) (h0 : 0 ≤ x) (h1 : x < 100000000000000) :
    Calls Tryd.prog 26 #[.int .i64 x] w fun e w' => e = .returned (.string (decS x)) ∧ Below w.heap.size w w' := by
  have hsx := decS_size x h1
  go_enter Tryd.func26, Tryd.ntmps26
  go_wp2_with fail
  go_loopw [0, 3] (fun p t wr => ∃ (y : Int) (o : ByteArray), 0 ≤ y ∧ y < 100000000000000 ∧ p = .int .i64 y ∧ t = .string o ∧ Hid (decS x = decS y ++ o) ∧ Below w.heap.size w wr) (fun p _ _ => (intOf p).toNat)
  case atStart => exact ⟨x, ⟨#[]⟩, h0, h1, rfl, rfl, (by apply WideShapes.bytes_inj; rw [ByteArray.data_append]; simp), Below.refl _ _⟩
  case round =>
    obtain ⟨y, o, hy0, hy1, rfl, rfl, E, hb⟩ := hrel
    have ho : o.size ≤ 14 := by
      have := E.out
      rw [this, ByteArray.size_append] at hsx
      omega
    have hconv := conv_digit (y % 10) (by omega) (by omega) wr
    have s1 := decS_size (y % 10) (by omega)
    by_cases h : y < 10
    · have hq : (y / 10 == 0) = true := by rw [beq_iff_eq]; omega
      have R : Hid (decS x = decS (y % 10) ++ o) := by
        show _ = _
        rw [E.out, show y % 10 = y by omega]
      go_wp2_with fail
      go_ret
      exact ⟨by rw [R.out]; rfl, below_step hb (below_new _ _)⟩
    · have hq : (y / 10 == 0) = false := by rw [beq_eq_false_iff_ne]; omega
      have R : Hid (decS x = decS (y / 10) ++ (decS (y % 10) ++ o)) := by
        show _ = _
        rw [E.out, decS_big y (by omega), ByteArray.append_assoc]
      go_wp2_with fail
      go_roundw
      case rel => exact ⟨y / 10, decS (y % 10) ++ o, by omega, by omega, rfl, rfl, R, below_step hb (below_new _ _)⟩
      case measure => simp [intOf]; omega
end Go.Proofs.YtabjfjcaackelaaDoor
