/- Plain facts on exported names: the first byte of ASCII decides. No condition. -/
import Derived.Test.YtggldaepncnnfaaDoorUni
namespace Go.Proofs.YtggldaepncnnfaaDoor
open Go.RowKit Go.Lib

theorem upper_ascii (n : Nat) (h : n < 128) : isUpperU (n : Int) = decide (65 ≤ n ∧ n ≤ 90) := by
  unfold isUpperU latin1
  rw [if_pos (by simp; omega)]
  unfold isUpperL
  rw [decide_eq_decide]
  omega
theorem upper_error : isUpperU 65533 = false := by decide +kernel
/-- A text that begins with a byte of ASCII. -/
theorem exp_of (s : ByteArray) (hs : 0 < s.size) (hc : (s.get! 0).toNat < 128) : expB s = decide (65 ≤ (s.get! 0).toNat ∧ (s.get! 0).toNat ≤ 90) := by
  unfold expB decodeGo
  rw [if_neg (by omega), decode_at]
  unfold decodeN
  rw [if_pos hc]
  exact upper_ascii _ hc
theorem get_first (c : UInt8) (more : ByteArray) : ((⟨#[c]⟩ : ByteArray) ++ more).get! 0 = c := by
  show ((⟨#[c]⟩ : ByteArray) ++ more).data[0]! = c
  rw [ByteArray.data_append, getElem!_pos _ 0 (by simp; omega), Array.getElem_append_left (by simp)]
  rfl
theorem size_first (c : UInt8) (more : ByteArray) : 0 < ((⟨#[c]⟩ : ByteArray) ++ more).size := by
  rw [ByteArray.size_append]
  show 0 < 1 + more.size
  omega
theorem exp_first (c : UInt8) (more : ByteArray) (hc : c.toNat < 128) : expB (⟨#[c]⟩ ++ more) = decide (65 ≤ c.toNat ∧ c.toNat ≤ 90) := by
  rw [exp_of _ (size_first c more) (by rw [get_first]; exact hc), get_first]
theorem exp_empty : expB ⟨#[]⟩ = false := upper_error
end Go.Proofs.YtggldaepncnnfaaDoor
