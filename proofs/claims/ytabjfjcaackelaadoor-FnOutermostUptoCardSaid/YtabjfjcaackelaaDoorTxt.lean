/- The texts of the tokens by place: plain lists. No condition. -/
import Derived.Test.YtabjfjcaackelaaDoorLaws
import Derived.KernelRfl
namespace Go.Proofs.YtabjfjcaackelaaDoor
open Go.RowKit

def nameL : List (List UInt8) := [[73, 76, 76, 69, 71, 65, 76], [69, 79, 70], [67, 79, 77, 77, 69, 78, 84], [73, 68, 69, 78, 84], [73, 78, 84], [70, 76, 79, 65, 84], [73, 77, 65, 71], [67, 72, 65, 82], [83, 84, 82, 73, 78, 71]]
def opL : List (List UInt8) := [[43], [45], [42], [47], [37], [38], [124], [94], [60, 60], [62, 62], [38, 94], [43, 61], [45, 61], [42, 61], [47, 61], [37, 61], [38, 61], [124, 61], [94, 61], [60, 60, 61], [62, 62, 61], [38, 94, 61], [38, 38], [124, 124], [60, 45], [43, 43], [45, 45], [61, 61], [60], [62], [61], [33], [33, 61], [60, 61], [62, 61], [58, 61], [46, 46, 46], [40], [91], [123], [44], [46], [41], [93], [125], [59], [58]]
def kwL : List (List UInt8) := [[98, 114, 101, 97, 107], [99, 97, 115, 101], [99, 104, 97, 110], [99, 111, 110, 115, 116], [99, 111, 110, 116, 105, 110, 117, 101], [100, 101, 102, 97, 117, 108, 116], [100, 101, 102, 101, 114], [101, 108, 115, 101], [102, 97, 108, 108, 116, 104, 114, 111, 117, 103, 104], [102, 111, 114], [102, 117, 110, 99], [103, 111], [103, 111, 116, 111], [105, 102], [105, 109, 112, 111, 114, 116], [105, 110, 116, 101, 114, 102, 97, 99, 101], [109, 97, 112], [112, 97, 99, 107, 97, 103, 101], [114, 97, 110, 103, 101], [114, 101, 116, 117, 114, 110], [115, 101, 108, 101, 99, 116], [115, 116, 114, 117, 99, 116], [115, 119, 105, 116, 99, 104], [116, 121, 112, 101], [118, 97, 114]]
def lev1 : List (List UInt8) := [[124, 124]]
def lev2 : List (List UInt8) := [[38, 38]]
def lev3 : List (List UInt8) := [[61, 61], [33, 61], [60], [60, 61], [62], [62, 61]]
def lev4 : List (List UInt8) := [[43], [45], [124], [94]]
def lev5 : List (List UInt8) := [[42], [47], [37], [60, 60], [62, 62], [38], [38, 94]]
def txtL : List (List UInt8) := nameL ++ opL ++ kwL ++ [[126]]

/-- A string's value. -/
def strV (l : List UInt8) : Value := .string ⟨l.toArray⟩
def strVs (l : List (List UInt8)) : List Value := l.map strV

def place (k : Int) : Int := if k < 0 ∨ 82 ≤ k then 0 else k
/-- The text at a place. -/
def txtB (k : Int) : List UInt8 := txtL.getD (place k).toNat []
def txt (k : Int) : ByteArray := ⟨(txtB k).toArray⟩

theorem txt_toList (k : Int) : (txt k).toList = txtB k := by simp [txt]
theorem byteList_append (a b : ByteArray) : (a ++ b).toList = a.toList ++ b.toList := by
  simp [ByteArray.toList_eq]
attribute [go_sem] txt_toList byteList_append

theorem place_cases (k : Int) : (place k = 0 ∧ (k < 0 ∨ 82 ≤ k)) ∨ (place k = k ∧ 0 ≤ k ∧ k < 82) := by
  unfold place; split <;> omega
theorem place_range (k : Int) : 0 ≤ place k ∧ place k ≤ 81 := by have := place_cases k; omega
theorem place_place (k : Int) : place (place k) = place k := by
  have h := place_range k
  rcases place_cases (place k) with h1 | h1 <;> omega
theorem txt_place (k : Int) : txt (place k) = txt k := by unfold txt txtB; rw [place_place]
theorem strVs_get (l : List (List UInt8)) (i : Nat) (h : i < l.length) : (strVs l)[i]? = some (strV (l.getD i [])) := by
  unfold strVs
  rw [List.getElem?_map, List.getElem?_eq_getElem h]
  simp [h]
theorem nameL_len : nameL.length = 9 := by kernel_rfl
theorem opL_len : opL.length = 47 := by kernel_rfl
theorem kwL_len : kwL.length = 25 := by kernel_rfl
theorem txt_name (k : Int) (h : place k < 9) : (strVs nameL)[(place k).toNat]? = some (.string (txt k)) := by
  have := place_range k
  rw [strVs_get _ _ (by rw [nameL_len]; omega)]
  unfold txt txtB txtL strV
  simp only [List.getD_eq_getElem?_getD]
  rw [List.append_assoc, List.append_assoc, List.getElem?_append_left (by rw [nameL_len]; omega)]
theorem txt_op (k : Int) (h : 9 ≤ place k) (h' : place k - 9 < 47) : (strVs opL)[(place k - 9).toNat]? = some (.string (txt k)) := by
  have := place_range k
  rw [strVs_get _ _ (by rw [opL_len]; omega)]
  unfold txt txtB txtL strV
  simp only [List.getD_eq_getElem?_getD]
  rw [List.append_assoc, List.append_assoc, List.getElem?_append_right (by rw [nameL_len]; omega), List.getElem?_append_left (by rw [nameL_len, opL_len]; omega), nameL_len]
  rw [show (place k - 9).toNat = (place k).toNat - 9 by omega]
theorem txt_kw (k : Int) (h : 47 ≤ place k - 9) (h' : place k - 9 - 47 < 25) : (strVs kwL)[(place k - 9 - 47).toNat]? = some (.string (txt k)) := by
  have := place_range k
  rw [strVs_get _ _ (by rw [kwL_len]; omega)]
  unfold txt txtB txtL strV
  simp only [List.getD_eq_getElem?_getD]
  rw [List.append_assoc, List.append_assoc, List.getElem?_append_right (by rw [nameL_len]; omega), List.getElem?_append_right (by rw [nameL_len, opL_len]; omega), nameL_len, opL_len, List.getElem?_append_left (by rw [kwL_len]; omega)]
  rw [show (place k - 9 - 47).toNat = (place k).toNat - 9 - 47 by omega]
theorem txt_last (k : Int) (h : 25 ≤ place k - 9 - 47) : txt k = ⟨#[126]⟩ := by
  have := place_range k
  have e : txtL.getD (81 : Int).toNat [] = [126] := by kernel_rfl
  unfold txt txtB
  rw [show place k = 81 by omega, e]
end Go.Proofs.YtabjfjcaackelaaDoor
