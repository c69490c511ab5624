/- Contracts of the reference's Encode. No condition. -/
import Derived.Test.YtggldaepncnnfaaDoorUni
import Derived.Handy
namespace Go.Proofs.YtggldaepncnnfaaDoor
open Go.RowKit Go.Lib

set_option maxHeartbeats 400000 in
theorem specIsCodePoint (r : Int) (w : World) (h0 : 0 ≤ r) (h1 : r ≤ 1114111) :
    Calls Tryd.prog 25 #[.int .i64 r] w fun e w' => e = .returned (.bool (decide (r < 55296 ∨ 57343 < r))) ∧ w = w' := by
  by_cases h2 : r < 55296
  · go_enter Tryd.func25, Tryd.ntmps25
    go_wp2
    go_ret
    exact ⟨ret_bool (by first | (rw [Bool.eq_iff_iff]; done) | (rw [Bool.eq_iff_iff]; simp; omega) | (rw [Bool.eq_iff_iff]; simp; done)), rfl⟩
  · by_cases h3 : 57343 < r
    all_goals
      go_enter Tryd.func25, Tryd.ntmps25
      go_wp2
      go_ret
      exact ⟨ret_bool (by first | (rw [Bool.eq_iff_iff]; done) | (rw [Bool.eq_iff_iff]; simp; omega) | (rw [Bool.eq_iff_iff]; simp; done)), rfl⟩
theorem specIsCodePointAt (r : Int) (b : Bool) (w : World) (h0 : 0 ≤ r) (h1 : r ≤ 1114111) (hb : decide (r < 55296 ∨ 57343 < r) = b) :
    Calls Tryd.prog 25 #[.int .i64 r] w fun e w' => e = .returned (.bool b) ∧ w = w' := hb ▸ specIsCodePoint r w h0 h1
def most (s : Int) : Int := if s = 1 then 127 else if s = 2 then 2047 else if s = 3 then 65535 else 1114111
def least (s : Int) : Int := if s = 1 then 0 else if s = 2 then 128 else if s = 3 then 2048 else 65536
set_option maxHeartbeats 400000 in
theorem specRanges (s : Int) (w : World) :
    Calls Tryd.prog 26 #[.int .i64 s] w fun e w' => e = .returned (.tuple #[.int .i64 (least s), .int .i64 (most s)]) ∧ w = w' := by
  go_enter Tryd.func26, Tryd.ntmps26
  go_wp2
  all_goals
    go_ret2
    exact ⟨by simp_all [most, least], rfl⟩

/-- A number as a byte. -/
def byteOf (n : Int) : UInt8 := UInt8.ofNat n.toNat
theorem byteOf_val (n : Int) (h0 : 0 ≤ n) (h1 : n ≤ 255) : ((byteOf n).toNat : Int) = n := by
  unfold byteOf
  simp
  omega
def five : Array Value := #[.int .i64 0, .int .i64 0, .int .i64 192, .int .i64 224, .int .i64 240]
theorem hmk2 (w : World) : (Instr.makeSlice 25 (.int .i64 2) (.int .i64 2)).run Tryd.prog w = .ok (.slice (some ⟨w.heap.size, 0, none⟩) 2 2) (w.alloc (.cells #[.int .u8 0, .int .u8 0] 5)) := by kernel_rfl
theorem conv2 (r : Int) (h0 : 128 ≤ r) (h1 : r ≤ 2047) (w : World) :
    (convert 25 9 (.slice (some ⟨w.heap.size, 0, none⟩) 2 2)).run Tryd.prog ((w.alloc (.cells #[.int .u8 (192 + r / 64), .int .u8 (128 + r % 64)] 5)).alloc (.cells #[.int .i64 0, .int .i64 0, .int .i64 192, .int .i64 224, .int .i64 240] 3)) = .ok (.string ⟨#[byteOf (192 + r / 64), byteOf (128 + r % 64)]⟩) ((w.alloc (.cells #[.int .u8 (192 + r / 64), .int .u8 (128 + r % 64)] 5)).alloc (.cells #[.int .i64 0, .int .i64 0, .int .i64 192, .int .i64 224, .int .i64 240] 3)) :=
  conv_row [byteOf (192 + r / 64), byteOf (128 + r % 64)] ((Row.new w #[.int .u8 (192 + r / 64), .int .u8 (128 + r % 64)] 5 _ (by simp only [List.map_cons, List.map_nil, byteOf_val (192 + r / 64) (by omega) (by omega), byteOf_val (128 + r % 64) (by omega) (by omega)])).below (below_new _ _))
set_option maxHeartbeats 2000000 in
theorem encode2 (r : Int) (h0 : 128 ≤ r) (h1 : r ≤ 2047) (w : World) :
    Calls Tryd.prog 21 #[.int .i64 r] w fun e w' => e = .returned (.string ⟨#[byteOf (192 + r / 64), byteOf (128 + r % 64)]⟩) ∧ Below w.heap.size w w' := by
  have hcp : Hid (decide (r < 55296 ∨ 57343 < r) = true) := by show _ = _; simp; omega
  have hmk := hmk2
  have hconv := conv2 r h0 h1 w
  go_enter Tryd.func21, Tryd.ntmps21
  go_wp2_with fail
  refine (specIsCodePointAt r true _ (by omega) (by omega) hcp.out).mono ?_
  rintro e w1 ⟨rfl, rfl⟩
  go_wp2_with fail
  go_rounds 3
  go_rounds 2
  go_ret
  exact ⟨rfl, below_step (below_new _ _) (below_new _ _)⟩
theorem hmk3 (w : World) : (Instr.makeSlice 25 (.int .i64 3) (.int .i64 3)).run Tryd.prog w = .ok (.slice (some ⟨w.heap.size, 0, none⟩) 3 3) (w.alloc (.cells #[.int .u8 0, .int .u8 0, .int .u8 0] 5)) := by kernel_rfl
theorem conv3 (r : Int) (h0 : 2048 ≤ r) (h1 : r ≤ 65535) (w : World) :
    (convert 25 9 (.slice (some ⟨w.heap.size, 0, none⟩) 3 3)).run Tryd.prog ((w.alloc (.cells #[.int .u8 (224 + r / 64 / 64), .int .u8 (128 + r / 64 % 64), .int .u8 (128 + r % 64)] 5)).alloc (.cells #[.int .i64 0, .int .i64 0, .int .i64 192, .int .i64 224, .int .i64 240] 3)) = .ok (.string ⟨#[byteOf (224 + r / 64 / 64), byteOf (128 + r / 64 % 64), byteOf (128 + r % 64)]⟩) ((w.alloc (.cells #[.int .u8 (224 + r / 64 / 64), .int .u8 (128 + r / 64 % 64), .int .u8 (128 + r % 64)] 5)).alloc (.cells #[.int .i64 0, .int .i64 0, .int .i64 192, .int .i64 224, .int .i64 240] 3)) :=
  conv_row [byteOf (224 + r / 64 / 64), byteOf (128 + r / 64 % 64), byteOf (128 + r % 64)] ((Row.new w #[.int .u8 (224 + r / 64 / 64), .int .u8 (128 + r / 64 % 64), .int .u8 (128 + r % 64)] 5 _ (by simp only [List.map_cons, List.map_nil, byteOf_val (224 + r / 64 / 64) (by omega) (by omega), byteOf_val (128 + r / 64 % 64) (by omega) (by omega), byteOf_val (128 + r % 64) (by omega) (by omega)])).below (below_new _ _))
set_option maxHeartbeats 2000000 in
theorem encode3 (r : Int) (h0 : 2048 ≤ r) (h1 : r ≤ 65535) (hs : r < 55296 ∨ 57343 < r) (w : World) :
    Calls Tryd.prog 21 #[.int .i64 r] w fun e w' => e = .returned (.string ⟨#[byteOf (224 + r / 64 / 64), byteOf (128 + r / 64 % 64), byteOf (128 + r % 64)]⟩) ∧ Below w.heap.size w w' := by
  have hcp : Hid (decide (r < 55296 ∨ 57343 < r) = true) := by show _ = _; simp; omega
  have hmk := hmk3
  have hconv := conv3 r h0 h1 w
  go_enter Tryd.func21, Tryd.ntmps21
  go_wp2_with fail
  refine (specIsCodePointAt r true _ (by omega) (by omega) hcp.out).mono ?_
  rintro e w1 ⟨rfl, rfl⟩
  go_wp2_with fail
  go_rounds 4
  go_rounds 3
  go_ret
  exact ⟨rfl, below_step (below_new _ _) (below_new _ _)⟩
theorem hmk4 (w : World) : (Instr.makeSlice 25 (.int .i64 4) (.int .i64 4)).run Tryd.prog w = .ok (.slice (some ⟨w.heap.size, 0, none⟩) 4 4) (w.alloc (.cells #[.int .u8 0, .int .u8 0, .int .u8 0, .int .u8 0] 5)) := by kernel_rfl
theorem conv4 (r : Int) (h0 : 65536 ≤ r) (h1 : r ≤ 1114111) (w : World) :
    (convert 25 9 (.slice (some ⟨w.heap.size, 0, none⟩) 4 4)).run Tryd.prog ((w.alloc (.cells #[.int .u8 (240 + r / 64 / 64 / 64), .int .u8 (128 + r / 64 / 64 % 64), .int .u8 (128 + r / 64 % 64), .int .u8 (128 + r % 64)] 5)).alloc (.cells #[.int .i64 0, .int .i64 0, .int .i64 192, .int .i64 224, .int .i64 240] 3)) = .ok (.string ⟨#[byteOf (240 + r / 64 / 64 / 64), byteOf (128 + r / 64 / 64 % 64), byteOf (128 + r / 64 % 64), byteOf (128 + r % 64)]⟩) ((w.alloc (.cells #[.int .u8 (240 + r / 64 / 64 / 64), .int .u8 (128 + r / 64 / 64 % 64), .int .u8 (128 + r / 64 % 64), .int .u8 (128 + r % 64)] 5)).alloc (.cells #[.int .i64 0, .int .i64 0, .int .i64 192, .int .i64 224, .int .i64 240] 3)) :=
  conv_row [byteOf (240 + r / 64 / 64 / 64), byteOf (128 + r / 64 / 64 % 64), byteOf (128 + r / 64 % 64), byteOf (128 + r % 64)] ((Row.new w #[.int .u8 (240 + r / 64 / 64 / 64), .int .u8 (128 + r / 64 / 64 % 64), .int .u8 (128 + r / 64 % 64), .int .u8 (128 + r % 64)] 5 _ (by simp only [List.map_cons, List.map_nil, byteOf_val (240 + r / 64 / 64 / 64) (by omega) (by omega), byteOf_val (128 + r / 64 / 64 % 64) (by omega) (by omega), byteOf_val (128 + r / 64 % 64) (by omega) (by omega), byteOf_val (128 + r % 64) (by omega) (by omega)])).below (below_new _ _))
set_option maxHeartbeats 2000000 in
theorem encode4 (r : Int) (h0 : 65536 ≤ r) (h1 : r ≤ 1114111) (w : World) :
    Calls Tryd.prog 21 #[.int .i64 r] w fun e w' => e = .returned (.string ⟨#[byteOf (240 + r / 64 / 64 / 64), byteOf (128 + r / 64 / 64 % 64), byteOf (128 + r / 64 % 64), byteOf (128 + r % 64)]⟩) ∧ Below w.heap.size w w' := by
  have hcp : Hid (decide (r < 55296 ∨ 57343 < r) = true) := by show _ = _; simp; omega
  have hmk := hmk4
  have hconv := conv4 r h0 h1 w
  go_enter Tryd.func21, Tryd.ntmps21
  go_wp2_with fail
  refine (specIsCodePointAt r true _ (by omega) (by omega) hcp.out).mono ?_
  rintro e w1 ⟨rfl, rfl⟩
  go_wp2_with fail
  go_rounds 5
  go_rounds 4
  go_ret
  exact ⟨rfl, below_step (below_new _ _) (below_new _ _)⟩
set_option maxHeartbeats 2000000 in
theorem encode1 (r : Int) (h0 : 0 ≤ r) (h1 : r ≤ 127) (w : World) :
    Calls Tryd.prog 21 #[.int .i64 r] w fun e w' => e = .returned (.string ⟨#[byteOf r]⟩) ∧ Below w.heap.size w w' := by
  have hcp : Hid (decide (r < 55296 ∨ 57343 < r) = true) := by show _ = _; simp; omega
  have hconv := conv_one (w := w.alloc (.cells #[.int .u8 r] 5)) (b := w.heap.size) (byteOf r) (Row.new _ _ _ _ (by simp only [byteOf_val r h0 (by omega)]))
  go_enter Tryd.func21, Tryd.ntmps21
  go_wp2_with fail
  refine (specIsCodePointAt r true _ (by omega) (by omega) hcp.out).mono ?_
  rintro e w1 ⟨rfl, rfl⟩
  go_wp2_with fail
  go_rounds 2
  go_ret
  exact ⟨rfl, below_new _ _⟩
set_option maxHeartbeats 400000 in
theorem encode0 (r : Int) (h0 : 55296 ≤ r) (h1 : r ≤ 57343) (w : World) :
    Calls Tryd.prog 21 #[.int .i64 r] w fun e w' => e = .returned (.string ⟨#[]⟩) ∧ Below w.heap.size w w' := by
  have hcp : Hid (decide (r < 55296 ∨ 57343 < r) = false) := by show _ = _; simp; omega
  go_enter Tryd.func21, Tryd.ntmps21
  go_wp2_with fail
  refine (specIsCodePointAt r false _ (by omega) (by omega) hcp.out).mono ?_
  rintro e w1 ⟨rfl, rfl⟩
  go_wp2_with fail
  go_ret
  exact ⟨rfl, Below.refl _ _⟩
/-- The bytes of a character; none for a half of a pair. -/
def encB (r : Int) : List UInt8 :=
  if r ≤ 127 then [byteOf r] else if r ≤ 2047 then [byteOf (192 + r / 64), byteOf (128 + r % 64)]
  else if r ≤ 65535 then (if r < 55296 ∨ 57343 < r then [byteOf (224 + r / 64 / 64), byteOf (128 + r / 64 % 64), byteOf (128 + r % 64)] else [])
  else [byteOf (240 + r / 64 / 64 / 64), byteOf (128 + r / 64 / 64 % 64), byteOf (128 + r / 64 % 64), byteOf (128 + r % 64)]
theorem specEncode (r : Int) (h0 : 0 ≤ r) (h1 : r ≤ 1114111) (w : World) :
    Calls Tryd.prog 21 #[.int .i64 r] w fun e w' => e = .returned (.string ⟨(encB r).toArray⟩) ∧ Below w.heap.size w w' := by
  by_cases c1 : r ≤ 127
  · rw [show encB r = _ from if_pos c1]; exact encode1 r h0 c1 w
  by_cases c2 : r ≤ 2047
  · rw [show encB r = _ from (if_neg c1).trans (if_pos c2)]; exact encode2 r (by omega) c2 w
  by_cases c3 : r ≤ 65535
  · by_cases c4 : r < 55296 ∨ 57343 < r
    · rw [show encB r = _ from (if_neg c1).trans ((if_neg c2).trans ((if_pos c3).trans (if_pos c4)))]; exact encode3 r (by omega) c3 c4 w
    · rw [show encB r = _ from (if_neg c1).trans ((if_neg c2).trans ((if_pos c3).trans (if_neg c4)))]; exact encode0 r (by omega) (by omega) w
  · rw [show encB r = _ from (if_neg c1).trans ((if_neg c2).trans (if_neg c3))]; exact encode4 r (by omega) h1 w
end Go.Proofs.YtggldaepncnnfaaDoor
