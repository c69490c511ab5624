/- Brackets: the text that laws.FnBrackets makes, and what its stack holds. Plain. -/
import Derived.Test.YtabjfjcaackelaaDoorTxt
import Derived.Test.YtabjfjcaackelaaDoorString
import Derived.WalkSmall
namespace Go.Proofs.YtabjfjcaackelaaDoor
open Go.RowKit

/-- Which of the three kinds. -/
def m3 (x : Int) : Int := x.tmod 3 % 3
theorem m3_range (x : Int) : 0 ≤ m3 x ∧ m3 x ≤ 2 := by unfold m3; omega
theorem tmod3 (x : Int) : -2 ≤ x.tmod 3 ∧ x.tmod 3 ≤ 2 := by
  have h1 := Int.tmod_lt_of_pos x (show (0 : Int) < 3 by decide)
  have h2 := Int.lt_tmod_of_pos x (show (0 : Int) < 3 by decide)
  omega
def ob (x : Int) : UInt8 := if m3 x = 0 then 40 else if m3 x = 1 then 91 else 123
def cb (x : Int) : UInt8 := if m3 x = 0 then 41 else if m3 x = 1 then 93 else 125
theorem txt_ob (x : Int) : txt (46 + m3 x) = ⟨#[ob x]⟩ := by
  have h := m3_range x
  have e0 : txtB 46 = [40] := by decide +kernel
  have e1 : txtB 47 = [91] := by decide +kernel
  have e2 : txtB 48 = [123] := by decide +kernel
  rcases (show m3 x = 0 ∨ m3 x = 1 ∨ m3 x = 2 by omega) with hm | hm | hm
  all_goals
    unfold txt ob
    rw [hm]
  · show (⟨(txtB 46).toArray⟩ : ByteArray) = _; rw [e0]; rfl
  · show (⟨(txtB 47).toArray⟩ : ByteArray) = _; rw [e1]; rfl
  · show (⟨(txtB 48).toArray⟩ : ByteArray) = _; rw [e2]; rfl
theorem txt_cb (x : Int) : txt (51 + m3 x) = ⟨#[cb x]⟩ := by
  have h := m3_range x
  have e0 : txtB 51 = [41] := by decide +kernel
  have e1 : txtB 52 = [93] := by decide +kernel
  have e2 : txtB 53 = [125] := by decide +kernel
  rcases (show m3 x = 0 ∨ m3 x = 1 ∨ m3 x = 2 by omega) with hm | hm | hm
  all_goals
    unfold txt cb
    rw [hm]
  · show (⟨(txtB 51).toArray⟩ : ByteArray) = _; rw [e0]; rfl
  · show (⟨(txtB 52).toArray⟩ : ByteArray) = _; rw [e1]; rfl
  · show (⟨(txtB 53).toArray⟩ : ByteArray) = _; rw [e2]; rfl

/-- The text behind j rounds of the first loop and d of the second. -/
def brk (zs : List Int) (j d : Nat) : ByteArray := ⟨((zs.take j).map ob ++ (zs.reverse.take d).map cb).toArray⟩
theorem brk_size (zs : List Int) (j d : Nat) (hj : j ≤ zs.length) (hd : d ≤ zs.length) : (brk zs j d).size = j + d := by
  show (brk zs j d).data.size = _
  unfold brk
  simp
  omega
theorem brk_open (zs : List Int) (j : Nat) (hj : j < zs.length) : brk zs (j + 1) 0 = brk zs j 0 ++ txt (46 + m3 (zs.getD j 0)) := by
  rw [txt_ob]
  apply WideShapes.bytes_inj
  have e : zs.take (j + 1) = zs.take j ++ [zs.getD j 0] := by
    rw [List.take_succ_eq_append_getElem hj, List.getD_eq_getElem?_getD, List.getElem?_eq_getElem hj]
    rfl
  rw [ByteArray.data_append]
  unfold brk
  rw [e]
  simp
theorem brk_shut (zs : List Int) (d : Nat) (hd : d < zs.length) : brk zs zs.length (d + 1) = brk zs zs.length d ++ txt (51 + m3 (zs.getD (zs.length - 1 - d) 0)) := by
  rw [txt_cb]
  apply WideShapes.bytes_inj
  have e : zs.reverse.take (d + 1) = zs.reverse.take d ++ [zs.getD (zs.length - 1 - d) 0] := by
    rw [List.take_succ_eq_append_getElem (by simpa using hd), List.getElem_reverse, List.getD_eq_getElem?_getD, List.getElem?_eq_getElem (by omega)]
    rfl
  rw [ByteArray.data_append]
  unfold brk
  rw [e]
  simp
theorem brk_at_open (zs : List Int) (i : Nat) (hi : i < zs.length) (h : i < (brk zs zs.length zs.length).size) : (brk zs zs.length zs.length)[i] = ob (zs.getD i 0) := by
  show (brk zs zs.length zs.length).data[i] = _
  unfold brk
  simp [List.getElem_append_left, hi]
theorem brk_at_shut (zs : List Int) (d : Nat) (hd : d < zs.length) (h : zs.length + d < (brk zs zs.length zs.length).size) : (brk zs zs.length zs.length)[zs.length + d] = cb (zs.getD (zs.length - 1 - d) 0) := by
  show (brk zs zs.length zs.length).data[zs.length + d] = _
  unfold brk
  simp [List.getElem_append_right]
  rw [List.getElem?_eq_getElem (by omega)]
  rfl

/-- How high the stack is behind i bytes; what it holds. -/
def high (d i : Nat) : Nat := if i ≤ d then i else 2 * d - i
def stack (zs : List Int) (h : Nat) : List Value := (zs.take h).map fun x => Value.int .u8 ((cb x).toNat : Int)
theorem stack_len (zs : List Int) (h : Nat) (hh : h ≤ zs.length) : (stack zs h).length = h := by unfold stack; simp; omega
theorem stack_push (zs : List Int) (h : Nat) (hh : h < zs.length) : stack zs (h + 1) = stack zs h ++ [Value.int .u8 ((cb (zs.getD h 0)).toNat : Int)] := by
  unfold stack
  rw [List.take_succ_eq_append_getElem hh, List.map_append, List.getD_eq_getElem?_getD, List.getElem?_eq_getElem hh]
  rfl
theorem stack_at (zs : List Int) (h : Nat) (hh : h < zs.length) : (stack zs (h + 1))[h]? = some (Value.int .u8 ((cb (zs.getD h 0)).toNat : Int)) := by
  rw [stack_push zs h hh, List.getElem?_append_right (by rw [stack_len zs h (by omega)]; exact Nat.le_refl _), stack_len zs h (by omega)]
  simp
def Open (base : Nat) (e : TypeId) (zs : List Int) (h : Nat) (v : Value) (w : World) : Prop := w.ownsRow base e 1 v h (stack zs h) ∧ v ≠ .slice none 0 0
theorem Open.form {base : Nat} {e : TypeId} {zs : List Int} {h : Nat} {v : Value} {w : World} (ho : Open base e zs h v w) : ∃ g cap, v = .slice (some ⟨g, 0, none⟩) h cap ∧ h ≤ cap ∧ cap ≤ maxLen := by
  obtain ⟨⟨_, h2⟩, hne⟩ := ho
  rcases h2 with ⟨hv, _⟩ | ⟨g, cap, cur, hv, _, _, hc, hm, _, _⟩
  · exact absurd hv hne
  · exact ⟨g, cap, hv, hc, hm⟩
theorem Open.pop {base : Nat} {e : TypeId} {zs : List Int} {h g cap : Nat} {w : World} (hh : h < zs.length) (ho : Open base e zs (h + 1) (.slice (some ⟨g, 0, none⟩) (h + 1) cap) w) : Open base e zs h (.slice (some ⟨g, 0, none⟩) h cap) w := by
  refine ⟨ownsRow_pop (by rw [stack_len zs h (by omega)]; omega) (by rw [← stack_push zs h hh]; exact ho.1), fun hq => by cases hq⟩
theorem Open.drewN {base : Nat} {e : TypeId} {zs : List Int} {h : Nat} {v : Value} {w : World} (ho : Open base e zs h v w) (k : Nat) : Open base e zs h v (w.drewN k) := ho
theorem ob_cases (x : Int) : (ob x = 40 ∧ cb x = 41) ∨ (ob x = 91 ∧ cb x = 93) ∨ (ob x = 123 ∧ cb x = 125) := by
  unfold ob cb
  have h := m3_range x
  rcases (show m3 x = 0 ∨ m3 x = 1 ∨ m3 x = 2 by omega) with hm | hm | hm <;> simp [hm]
theorem below_drewN {B : Nat} {a w : World} (h : Below B a w) (n : Nat) : Below B a (w.drewN n) := ⟨h.os, h.tape, h.output, h.size, h.block⟩
end Go.Proofs.YtabjfjcaackelaaDoor
