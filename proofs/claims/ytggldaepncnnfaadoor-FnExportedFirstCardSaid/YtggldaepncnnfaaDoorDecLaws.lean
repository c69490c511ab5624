/- The reference's Decode and the library's decoder find the same character. Plain; no condition. -/
import Derived.Test.YtggldaepncnnfaaDoorDecode
import Derived.Test.YtggldaepncnnfaaDoorExpLaws
namespace Go.Proofs.YtggldaepncnnfaaDoor
open Go.RowKit Go.Lib

theorem byteOf_nat (c : UInt8) : byteOf (c.toNat : Int) = c := by
  unfold byteOf
  simp
theorem byteOf_is (n : Int) (c : UInt8) (h : n = (c.toNat : Int)) : byteOf n = c := by rw [h, byteOf_nat]
theorem byteOf_toNat (n : Int) (h0 : 0 ≤ n) (h1 : n ≤ 255) : (byteOf n).toNat = n.toNat := by
  have := byteOf_val n h0 h1
  omega
theorem size_list (s : ByteArray) : s.size = s.toList.length := by rw [toList_data, size_eq]
theorem get_list (s : ByteArray) (l t : List UInt8) (h : s.toList = l ++ t) (i : Nat) (hi : i < l.length) : s.get! i = l[i] := by
  have hs : i < s.size := by rw [size_list, h, List.length_append]; omega
  show s.data[i]! = _
  rw [getElem!_pos s.data i hs]
  rw [toList_data] at h
  have e : s.data[i] = s.data.toList[i]'(by simpa using hs) := by simp
  rw [e]
  simp only [h]
  exact List.getElem_append_left hi

theorem dN1 (n b0 b1 b2 b3 : Nat) (h : b0 < 128) : decodeN n b0 b1 b2 b3 = (b0, 1) := by unfold decodeN; rw [if_pos h]
theorem dN2 (n b0 b1 b2 b3 : Nat) (h0 : b0 / 32 = 6) (hn : 1 < n) (h1 : b1 / 64 = 2) (h : 128 ≤ b0 % 32 * 64 + b1 % 64) : decodeN n b0 b1 b2 b3 = (b0 % 32 * 64 + b1 % 64, 2) := by
  unfold decodeN
  rw [if_neg (by omega), if_pos ⟨h0, hn, h1⟩, if_pos h]
theorem dN3 (n b0 b1 b2 b3 : Nat) (h0 : b0 / 16 = 14) (hn : 2 < n) (h1 : b1 / 64 = 2) (h2 : b2 / 64 = 2) (h : 2048 ≤ b0 % 16 * 4096 + b1 % 64 * 64 + b2 % 64)
    (hv : b0 % 16 * 4096 + b1 % 64 * 64 + b2 % 64 < 55296 ∨ 57344 ≤ b0 % 16 * 4096 + b1 % 64 * 64 + b2 % 64) : decodeN n b0 b1 b2 b3 = (b0 % 16 * 4096 + b1 % 64 * 64 + b2 % 64, 3) := by
  unfold decodeN
  rw [if_neg (by omega), if_neg (by omega), if_pos ⟨h0, ⟨by omega, h1⟩, hn, h2⟩, if_pos ⟨h, by omega⟩]
theorem dN4 (n b0 b1 b2 b3 : Nat) (h0 : b0 / 8 = 30) (hn : 3 < n) (h1 : b1 / 64 = 2) (h2 : b2 / 64 = 2) (h3 : b3 / 64 = 2) (h : 65536 ≤ b0 % 8 * 262144 + b1 % 64 * 4096 + b2 % 64 * 64 + b3 % 64)
    (hv : b0 % 8 * 262144 + b1 % 64 * 4096 + b2 % 64 * 64 + b3 % 64 ≤ 1114111) : decodeN n b0 b1 b2 b3 = (b0 % 8 * 262144 + b1 % 64 * 4096 + b2 % 64 * 64 + b3 % 64, 4) := by
  unfold decodeN
  rw [if_neg (by omega), if_neg (by omega), if_neg (by omega), if_pos ⟨h0, ⟨by omega, h1⟩, ⟨by omega, h2⟩, hn, h3⟩, if_pos ⟨h, by omega⟩]

/-- A text that begins with the bytes of a character is decoded as it. -/
theorem decode_of_enc (s : ByteArray) (r : Int) (h0 : 0 ≤ r) (h1 : r ≤ 1114111) (hne : encB r ≠ []) (hp : encB r <+: s.toList) : decodeGo s = (r.toNat, (encB r).length) := by
  obtain ⟨t, ht⟩ := hp
  have hsz : s.size = (encB r).length + t.length := by rw [size_list, ← ht, List.length_append]
  have hg := fun i hi => get_list s (encB r) t ht.symm i hi
  have hpos : 0 < (encB r).length := List.length_pos_iff.2 hne
  unfold decodeGo
  rw [if_neg (by omega), decode_at]
  simp only [Nat.zero_add, Nat.sub_zero]
  unfold encB at hg hsz hne hpos ⊢
  by_cases c1 : r ≤ 127
  · simp only [c1, if_true] at hg hsz hne hpos ⊢
    have e0 := hg 0 (by simp)
    simp only [List.getElem_cons_zero] at e0
    rw [e0, byteOf_toNat r h0 (by omega), dN1 _ _ _ _ _ (by omega)]
    rfl
  by_cases c2 : r ≤ 2047
  · simp only [c1, c2, if_false, if_true] at hg hsz hne hpos ⊢
    have e0 := hg 0 (by simp)
    have e1 := hg 1 (by simp)
    simp only [List.getElem_cons_zero, List.getElem_cons_succ] at e0 e1
    simp only [List.length_cons, List.length_nil] at hsz
    rw [e0, e1, byteOf_toNat _ (by omega) (by omega), byteOf_toNat _ (by omega) (by omega), dN2 _ _ _ _ _ (by omega) (by omega) (by omega) (by omega)]
    simp only [List.length_cons, List.length_nil, Prod.mk.injEq, and_true]
    omega
  by_cases c3 : r ≤ 65535
  · by_cases c4 : r < 55296 ∨ 57343 < r
    · simp only [c1, c2, c3, c4, if_false, if_true] at hg hsz hne hpos ⊢
      have e0 := hg 0 (by simp)
      have e1 := hg 1 (by simp)
      have e2 := hg 2 (by simp)
      simp only [List.getElem_cons_zero, List.getElem_cons_succ] at e0 e1 e2
      simp only [List.length_cons, List.length_nil] at hsz
      rw [e0, e1, e2, byteOf_toNat _ (by omega) (by omega), byteOf_toNat _ (by omega) (by omega), byteOf_toNat _ (by omega) (by omega), dN3 _ _ _ _ _ (by omega) (by omega) (by omega) (by omega) (by omega) (by omega)]
      simp only [List.length_cons, List.length_nil, Prod.mk.injEq, and_true]
      omega
    · simp only [c1, c2, c3, c4, if_false, if_true] at hne
      exact absurd rfl hne
  · simp only [c1, c2, c3, if_false] at hg hsz hne hpos ⊢
    have e0 := hg 0 (by simp)
    have e1 := hg 1 (by simp)
    have e2 := hg 2 (by simp)
    have e3 := hg 3 (by simp)
    simp only [List.getElem_cons_zero, List.getElem_cons_succ] at e0 e1 e2 e3
    simp only [List.length_cons, List.length_nil] at hsz
    rw [e0, e1, e2, e3, byteOf_toNat _ (by omega) (by omega), byteOf_toNat _ (by omega) (by omega), byteOf_toNat _ (by omega) (by omega), byteOf_toNat _ (by omega) (by omega), dN4 _ _ _ _ _ (by omega) (by omega) (by omega) (by omega) (by omega) (by omega) (by omega)]
    simp only [List.length_cons, List.length_nil, Prod.mk.injEq, and_true]
    omega

theorem extract_list (s : ByteArray) (k : Nat) (hk : k ≤ s.size) : (s.extract 0 k).toList = (List.range k).map fun i => s.get! i := by
  rw [extract_toList]
  apply List.ext_getElem
  · simp
    omega
  · intro i h1 h2
    simp at h1 h2
    have hi : i < s.size := by omega
    simp
    show _ = s.data[i]!
    rw [getElem!_pos s.data i hi]
theorem ok_prefix (s : ByteArray) (k : Nat) (h : okAt s k) : encB (cand s k) <+: s.toList := by
  rw [h.2.2.2, extract_toList, toList_data]
  simp only [List.drop_zero, Nat.sub_zero]
  exact List.take_prefix _ _
theorem ok_length (s : ByteArray) (k : Nat) (h : okAt s k) : (encB (cand s k)).length = k := by
  rw [h.2.2.2, extract_list s k h.1]
  simp
theorem ok_decode (s : ByteArray) (k : Nat) (hk : 1 ≤ k) (h : okAt s k) : decodeGo s = ((cand s k).toNat, k) := by
  have hl := ok_length s k h
  rw [decode_of_enc s (cand s k) h.2.1 h.2.2.1 (fun e => by rw [e] at hl; simp at hl; omega) (ok_prefix s k h), hl]
theorem valid_ok (s : ByteArray) (hs : 0 < s.size) (hv : (decodeGo s).1 ≠ 65533 ∨ (decodeGo s).2 ≠ 1) : ∃ k, 1 ≤ k ∧ k ≤ 4 ∧ okAt s k := by
  have l0 := UInt8.toNat_lt (s.get! 0)
  unfold decodeGo at hv
  rw [if_neg (by omega), decode_at] at hv
  simp only [Nat.zero_add, Nat.sub_zero] at hv
  have f0 : bt8 s 0 = ((s.get! 0).toNat : Int) := rfl
  have f1 : bt8 s 1 = ((s.get! 1).toNat : Int) := rfl
  have f2 : bt8 s 2 = ((s.get! 2).toNat : Int) := rfl
  have f3 : bt8 s 3 = ((s.get! 3).toNat : Int) := rfl
  by_cases g1 : (s.get! 0).toNat < 128
  · refine ⟨1, by omega, by omega, by omega, ?_, ?_, ?_⟩
    · show 0 ≤ bt8 s 0; omega
    · show bt8 s 0 ≤ 1114111; omega
    · rw [extract_list s 1 (by omega)]
      show encB (bt8 s 0) = [s.get! 0]
      unfold encB
      rw [if_pos (by omega), f0, byteOf_nat]
  by_cases g2 : (s.get! 0).toNat / 32 = 6 ∧ (1 < s.size ∧ (s.get! 1).toNat / 64 = 2)
  · unfold decodeN at hv
    rw [if_neg g1, if_pos g2] at hv
    by_cases q : (s.get! 0).toNat % 32 * 64 + (s.get! 1).toNat % 64 ≥ 128
    · have hc : cand s 2 = (((s.get! 0).toNat % 32 * 64 + (s.get! 1).toNat % 64 : Nat) : Int) := by
        show (bt8 s 0 - 192) * 64 + bt8 s 1 - 128 = _
        omega
      refine ⟨2, by omega, by omega, by omega, by rw [hc]; omega, by rw [hc]; omega, ?_⟩
      rw [extract_list s 2 (by omega), hc]
      show encB _ = [s.get! 0, s.get! 1]
      unfold encB
      rw [if_neg (by omega), if_pos (by omega)]
      congr 1
      · exact byteOf_is _ _ (by omega)
      · congr 1
        exact byteOf_is _ _ (by omega)
    · rw [if_neg q] at hv
      simp at hv
  by_cases g3 : (s.get! 0).toNat / 16 = 14 ∧ (1 < s.size ∧ (s.get! 1).toNat / 64 = 2) ∧ (2 < s.size ∧ (s.get! 2).toNat / 64 = 2)
  · unfold decodeN at hv
    rw [if_neg g1, if_neg g2, if_pos g3] at hv
    split at hv
    · rename_i q
      have hc : cand s 3 = (((s.get! 0).toNat % 16 * 4096 + (s.get! 1).toNat % 64 * 64 + (s.get! 2).toNat % 64 : Nat) : Int) := by
        show ((bt8 s 0 - 224) * 64 + bt8 s 1 - 128) * 64 + bt8 s 2 - 128 = _
        omega
      refine ⟨3, by omega, by omega, by omega, by rw [hc]; omega, by rw [hc]; omega, ?_⟩
      rw [extract_list s 3 (by omega), hc]
      show encB _ = [s.get! 0, s.get! 1, s.get! 2]
      unfold encB
      rw [if_neg (by omega), if_neg (by omega), if_pos (by omega), if_pos (by omega)]
      congr 1
      · exact byteOf_is _ _ (by omega)
      · congr 1
        · exact byteOf_is _ _ (by omega)
        · congr 1
          exact byteOf_is _ _ (by omega)
    · simp at hv
  by_cases g4 : (s.get! 0).toNat / 8 = 30 ∧ (1 < s.size ∧ (s.get! 1).toNat / 64 = 2) ∧ (2 < s.size ∧ (s.get! 2).toNat / 64 = 2) ∧ (3 < s.size ∧ (s.get! 3).toNat / 64 = 2)
  · unfold decodeN at hv
    rw [if_neg g1, if_neg g2, if_neg g3, if_pos g4] at hv
    split at hv
    · rename_i q
      have hc : cand s 4 = (((s.get! 0).toNat % 8 * 262144 + (s.get! 1).toNat % 64 * 4096 + (s.get! 2).toNat % 64 * 64 + (s.get! 3).toNat % 64 : Nat) : Int) := by
        show (((bt8 s 0 - 240) * 64 + bt8 s 1 - 128) * 64 + bt8 s 2 - 128) * 64 + bt8 s 3 - 128 = _
        omega
      refine ⟨4, by omega, by omega, by omega, by rw [hc]; omega, by rw [hc]; omega, ?_⟩
      rw [extract_list s 4 (by omega), hc]
      show encB _ = [s.get! 0, s.get! 1, s.get! 2, s.get! 3]
      unfold encB
      rw [if_neg (by omega), if_neg (by omega), if_neg (by omega)]
      congr 1
      · exact byteOf_is _ _ (by omega)
      · congr 1
        · exact byteOf_is _ _ (by omega)
        · congr 1
          · exact byteOf_is _ _ (by omega)
          · congr 1
            exact byteOf_is _ _ (by omega)
    · simp at hv
  · unfold decodeN at hv
    rw [if_neg g1, if_neg g2, if_neg g3, if_neg g4] at hv
    simp at hv

/-- Where the reference finds nothing, nothing is exported. -/
theorem exp_none (s : ByteArray) (h : ∀ k, 1 ≤ k → k ≤ 4 → ¬ okAt s k) : expB s = false := by
  unfold expB
  by_cases hs : s.size = 0
  · have : decodeGo s = (65533, 0) := by unfold decodeGo; rw [if_pos hs]
    rw [this]
    exact upper_error
  · by_cases hv : (decodeGo s).1 ≠ 65533 ∨ (decodeGo s).2 ≠ 1
    · obtain ⟨k, k1, k4, ok⟩ := valid_ok s (by omega) hv
      exact absurd ok (h k k1 k4)
    · have : (decodeGo s).1 = 65533 := by omega
      rw [this]
      exact upper_error
theorem exp_ok (s : ByteArray) (k : Nat) (hk : 1 ≤ k) (h : okAt s k) : expB s = isUpperU (cand s k) := by
  unfold expB
  rw [ok_decode s k hk h]
  have := h.2.1
  rw [Int.toNat_of_nonneg this]
/-- A text that begins with the same character. -/
theorem exp_same (s t : ByteArray) (k : Nat) (hk : 1 ≤ k) (h : okAt s k) (hp : (s.extract 0 k).toList <+: t.toList) : expB t = expB s := by
  rw [exp_ok s k hk h]
  have hl := ok_length s k h
  unfold expB
  rw [decode_of_enc t (cand s k) h.2.1 h.2.2.1 (fun e => by rw [e] at hl; simp at hl; omega) (by rw [h.2.2.2]; exact hp)]
  have := h.2.1
  rw [Int.toNat_of_nonneg this]
end Go.Proofs.YtggldaepncnnfaaDoor
