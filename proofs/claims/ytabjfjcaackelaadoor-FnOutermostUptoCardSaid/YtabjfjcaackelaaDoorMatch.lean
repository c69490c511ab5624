/- Contracts of laws.begins and of the reference's Match, and what Match finds. No condition. -/
import Derived.Test.YtabjfjcaackelaaDoorSpec
import Derived.Test.YtabjfjcaackelaaDoorString
import Derived.Lib.Strings
namespace Go.Proofs.YtabjfjcaackelaaDoor
open Go.RowKit

theorem txt_apart_all : ∀ i j : Fin 82, i ≠ j → txtL.getD i.val [] ≠ txtL.getD j.val [] := by decide +kernel
theorem txt_apart (a b : Int) (h : place a ≠ place b) : txtB a ≠ txtB b := by
  have ha := place_range a
  have hb := place_range b
  refine txt_apart_all ⟨(place a).toNat, by omega⟩ ⟨(place b).toNat, by omega⟩ ?_
  intro he
  have := congrArg Fin.val he
  simp only at this
  omega

/-- Does the text begin with the other one? -/
def preB (s p : ByteArray) : Bool := decide (p.size ≤ s.size) && ((s.extract 0 p.size).toList == p.toList)
theorem preB_iff (s p : ByteArray) : preB s p = true ↔ p.toList <+: s.toList := by
  unfold preB
  rw [Lib.extract_toList, ← Lib.toList_data]
  simp only [Bool.and_eq_true, decide_eq_true_eq, beq_iff_eq, List.drop_zero, Nat.sub_zero]
  have h1 : p.size = p.toList.length := by rw [Lib.toList_data, Lib.size_eq]
  have h2 : s.size = s.toList.length := by rw [Lib.toList_data, Lib.size_eq]
  rw [h1, h2]
  constructor
  · intro h
    rw [← h.2]
    exact List.take_prefix _ _
  · intro h
    exact ⟨h.length_le, (List.prefix_iff_eq_take.1 h).symm⟩

set_option maxHeartbeats 400000 in
theorem lawsBegins (s p : ByteArray) (w : World) :
    Calls Tryd.prog 12 #[.string s, .string p] w fun e w' => e = .returned (.bool (preB s p)) ∧ w = w' := by
  by_cases h : p.size ≤ s.size
  · go_enter Tryd.func12, Tryd.ntmps12
    go_wp2_with fail
    go_ret
    exact ⟨ret_bool (by unfold preB; simp [h]), rfl⟩
  · go_enter Tryd.func12, Tryd.ntmps12
    go_wp2_with fail
    go_ret
    exact ⟨ret_bool (by unfold preB; simp [h]), rfl⟩
theorem lawsBeginsAt (s p : ByteArray) (b : Bool) (hb : preB s p = b) (w : World) :
    Calls Tryd.prog 12 #[.string s, .string p] w fun e w' => e = .returned (.bool b) ∧ w = w' := hb ▸ lawsBegins s p w

def candB (k : Int) : Bool := opB k || (k == 81)
def hitB (s : ByteArray) (k : Int) : Bool := preB s (txt k)
def betterB (best k : Int) : Bool := decide (best < 0) || decide ((txt best).size < (txt k).size)
/-- The best of the first places. -/
def matchTo (s : ByteArray) : Nat → Int
  | 0 => -1
  | n + 1 => if candB (n : Int) && hitB s (n : Int) && betterB (matchTo s n) (n : Int) then (n : Int) else matchTo s n
theorem matchTo_range (s : ByteArray) : ∀ n, -1 ≤ matchTo s n ∧ matchTo s n < (n : Int)
  | 0 => by simp [matchTo]
  | n + 1 => by
    have := matchTo_range s n
    unfold matchTo
    split <;> omega
theorem matchTo_keep (s : ByteArray) (n : Nat) (h : (candB (n : Int) && hitB s (n : Int) && betterB (matchTo s n) (n : Int)) = false) : matchTo s (n + 1) = matchTo s n := by
  show (if _ then _ else _) = _
  rw [h]; rfl
theorem matchTo_take (s : ByteArray) (n : Nat) (h : (candB (n : Int) && hitB s (n : Int) && betterB (matchTo s n) (n : Int)) = true) : matchTo s (n + 1) = (n : Int) := by
  show (if _ then _ else _) = _
  rw [h]; rfl
/-- What is found: nothing where nothing hits; else a hit, and none is longer. -/
def Found (s : ByteArray) (n : Nat) (m : Int) : Prop :=
  (m = -1 ∧ ∀ k : Nat, k < n → candB (k : Int) = true → hitB s (k : Int) = false) ∨
  (0 ≤ m ∧ m < (n : Int) ∧ candB m = true ∧ hitB s m = true ∧ ∀ k : Nat, k < n → candB (k : Int) = true → hitB s (k : Int) = true → (txt (k : Int)).size ≤ (txt m).size)
theorem matchTo_found (s : ByteArray) : ∀ n, Found s n (matchTo s n)
  | 0 => Or.inl ⟨rfl, fun k hk => by omega⟩
  | n + 1 => by
    have ih := matchTo_found s n
    have hr := matchTo_range s n
    cases h : (candB (n : Int) && hitB s (n : Int) && betterB (matchTo s n) (n : Int))
    · rw [matchTo_keep s n h]
      rcases ih with ⟨hm, hno⟩ | ⟨h0, h1, hc, hh, hmax⟩
      · refine Or.inl ⟨hm, fun k hk hc => ?_⟩
        by_cases hkn : k = n
        · subst hkn
          cases hh : hitB s (k : Int)
          · rfl
          · rw [hc, hh, hm] at h
            simp [betterB] at h
        · exact hno k (by omega) hc
      · refine Or.inr ⟨h0, by omega, hc, hh, fun k hk hck hhk => ?_⟩
        by_cases hkn : k = n
        · subst hkn
          rw [hck, hhk] at h
          simp [betterB] at h
          omega
        · exact hmax k (by omega) hck hhk
    · rw [matchTo_take s n h]
      simp only [Bool.and_eq_true] at h
      obtain ⟨⟨hc, hh⟩, hb⟩ := h
      refine Or.inr ⟨by omega, by omega, hc, hh, fun k hk hck hhk => ?_⟩
      by_cases hkn : k = n
      · subst hkn; exact Nat.le_refl _
      · rcases ih with ⟨hm, hno⟩ | ⟨h0, h1, hc1, hh1, hmax⟩
        · rw [hno k (by omega) hck] at hhk; cases hhk
        · have := hmax k (by omega) hck hhk
          unfold betterB at hb
          simp only [Bool.or_eq_true, decide_eq_true_eq] at hb
          omega

set_option maxHeartbeats 4000000 in
theorem specMatch (s : ByteArray) (w : World) :
    Calls Tryd.prog 11 #[.string s] w fun e w' => e = .returned (.int .i64 (matchTo s 82)) ∧ Below w.heap.size w w' := by
  go_enter Tryd.func11, Tryd.ntmps11
  go_wp2_with fail
  go_loopw [3, 6] (fun b i wr => ∃ j : Nat, j ≤ 82 ∧ i = .int .i64 (j : Int) ∧ b = .int .i64 (matchTo s j) ∧ Below w.heap.size w wr) (fun _ i _ => 82 - (intOf i).toNat)
  case atStart => exact ⟨0, by omega, rfl, rfl, Below.refl _ _⟩
  case round =>
    obtain ⟨j, hj, rfl, rfl, hb⟩ := hrel
    by_cases hlt : j < 82
    · have hrg := matchTo_range s j
      have hsz := txt_size (j : Int)
      by_cases hcand : candB (j : Int) = true
      · have hor : (opB (j : Int) = true ∧ ((j : Int) == 81) = false) ∨ (opB (j : Int) = false ∧ ((j : Int) == 81) = true) := by
          unfold candB at hcand
          unfold opB at hcand ⊢
          simp at hcand ⊢
          omega
        by_cases hsize : (txt (j : Int)).size ≤ s.size
        · by_cases heq : (s.extract 0 (txt (j : Int)).size).toList = txtB (j : Int)
          · have hhit : hitB s (j : Int) = true := by unfold hitB preB; simp [hsize, heq, txt_toList]
            by_cases hneg : matchTo s j < 0
            · have M := Lib.hid (matchTo_take s j (by rw [hcand, hhit]; simp [betterB, hneg]))
              have hq : ((s.extract 0 (txt (j : Int)).size).toList == txtB (j : Int)) = true := by simp [heq]
              clear heq hcand hhit
              rcases hor with ⟨ho, h81⟩ | ⟨ho, h81⟩
              all_goals
                have HO := Lib.hid ho
                clear ho
                go_wp2_with fail
                refine (specString _ _).mono ?_
                rintro e w1 ⟨rfl, hb1⟩
                go_wp2_with fail
                refine (specIsOperatorAt _ _ HO.out _).mono ?_
                rintro e w2 ⟨rfl, hb2⟩
                go_wp2_with fail
                go_roundw
                case rel => exact ⟨j + 1, by omega, by go_num, by rw [M.out], below_step (below_step hb hb1) hb2⟩
                case measure => simp [intOf]; omega
            · by_cases hlong : (txt (matchTo s j)).size < (txt (j : Int)).size
              · have M := Lib.hid (matchTo_take s j (by rw [hcand, hhit]; simp [betterB, hlong]))
                have hq : ((s.extract 0 (txt (j : Int)).size).toList == txtB (j : Int)) = true := by simp [heq]
                clear heq hcand hhit
                rcases hor with ⟨ho, h81⟩ | ⟨ho, h81⟩
                all_goals
                  have HO := Lib.hid ho
                  clear ho
                  go_wp2_with fail
                  refine (specString _ _).mono ?_
                  rintro e w1 ⟨rfl, hb1⟩
                  go_wp2_with fail
                  refine (specIsOperatorAt _ _ HO.out _).mono ?_
                  rintro e w2 ⟨rfl, hb2⟩
                  go_wp2_with fail
                  refine (specString _ _).mono ?_
                  rintro e w3 ⟨rfl, hb3⟩
                  go_wp2_with fail
                  go_roundw
                  case rel => exact ⟨j + 1, by omega, by go_num, by rw [M.out], below_step (below_step (below_step (hb) hb1) hb2) hb3⟩
                  case measure => simp [intOf]; omega
              · have M := Lib.hid (matchTo_keep s j (by simp [betterB, hlong]; omega))
                have hq : ((s.extract 0 (txt (j : Int)).size).toList == txtB (j : Int)) = true := by simp [heq]
                clear heq hcand hhit
                rcases hor with ⟨ho, h81⟩ | ⟨ho, h81⟩
                all_goals
                  have HO := Lib.hid ho
                  clear ho
                  go_wp2_with fail
                  refine (specString _ _).mono ?_
                  rintro e w1 ⟨rfl, hb1⟩
                  go_wp2_with fail
                  refine (specIsOperatorAt _ _ HO.out _).mono ?_
                  rintro e w2 ⟨rfl, hb2⟩
                  go_wp2_with fail
                  refine (specString _ _).mono ?_
                  rintro e w3 ⟨rfl, hb3⟩
                  go_wp2_with fail
                  go_roundw
                  case rel => exact ⟨j + 1, by omega, by go_num, by rw [M.out], below_step (below_step (below_step (hb) hb1) hb2) hb3⟩
                  case measure => simp [intOf]; omega
          · have M := Lib.hid (matchTo_keep s j (by have hh : hitB s (j : Int) = false := by { unfold hitB preB; simp [heq, txt_toList] }; rw [hh]; simp))
            have hq : ((s.extract 0 (txt (j : Int)).size).toList == txtB (j : Int)) = false := by simp [heq]
            clear heq hcand
            rcases hor with ⟨ho, h81⟩ | ⟨ho, h81⟩
            all_goals
              have HO := Lib.hid ho
              clear ho
              go_wp2_with fail
              refine (specString _ _).mono ?_
              rintro e w1 ⟨rfl, hb1⟩
              go_wp2_with fail
              refine (specIsOperatorAt _ _ HO.out _).mono ?_
              rintro e w2 ⟨rfl, hb2⟩
              go_wp2_with fail
              go_roundw
              case rel => exact ⟨j + 1, by omega, by go_num, by rw [M.out], below_step (below_step (hb) hb1) hb2⟩
              case measure => simp [intOf]; omega
        · have M := Lib.hid (matchTo_keep s j (by have hh : hitB s (j : Int) = false := by { unfold hitB preB; simp [hsize] }; rw [hh]; simp))
          clear hcand
          rcases hor with ⟨ho, h81⟩ | ⟨ho, h81⟩
          all_goals
            have HO := Lib.hid ho
            clear ho
            go_wp2_with fail
            refine (specString _ _).mono ?_
            rintro e w1 ⟨rfl, hb1⟩
            go_wp2_with fail
            refine (specIsOperatorAt _ _ HO.out _).mono ?_
            rintro e w2 ⟨rfl, hb2⟩
            go_wp2_with fail
            go_roundw
            case rel => exact ⟨j + 1, by omega, by go_num, by rw [M.out], below_step (below_step (hb) hb1) hb2⟩
            case measure => simp [intOf]; omega
      · have M := Lib.hid (matchTo_keep s j (by simp [hcand]))
        have hor : opB (j : Int) = false ∧ ((j : Int) == 81) = false := by
          unfold candB at hcand
          simp at hcand ⊢
          exact hcand
        obtain ⟨ho, h81⟩ := hor
        have HO := Lib.hid ho
        clear ho hcand
        go_wp2_with fail
        refine (specString _ _).mono ?_
        rintro e w1 ⟨rfl, hb1⟩
        go_wp2_with fail
        refine (specIsOperatorAt _ _ HO.out _).mono ?_
        rintro e w2 ⟨rfl, hb2⟩
        go_wp2_with fail
        go_roundw
        case rel => exact ⟨j + 1, by omega, by go_num, by rw [M.out], below_step (below_step hb hb1) hb2⟩
        case measure => simp [intOf]; omega
    · obtain rfl : j = 82 := by omega
      go_wp2_with fail
      go_ret
      exact ⟨rfl, hb⟩
theorem cand_op (k : Int) (h : opB k = true) : candB k = true := by unfold candB; simp [h]
theorem cand_place (k : Int) (h : candB k = true) : 9 ≤ k ∧ k ≤ 81 := by
  unfold candB opB at h
  simp at h
  omega
theorem no_blank_all : ∀ i : Fin 73, (txtL.getD (i.val + 9) []).contains 32 = false := by decide +kernel
theorem no_blank (k : Int) (h : candB k = true) : (32 : UInt8) ∉ txtB k := by
  have hk := cand_place k h
  have := no_blank_all ⟨(k - 9).toNat, by omega⟩
  simp only at this
  rw [show (k - 9).toNat + 9 = k.toNat by omega] at this
  rcases place_cases k with pa | pa
  · omega
  · unfold txtB
    rw [pa.1]
    simpa using this
theorem prefix_blank : ∀ (p t r : List UInt8), p <+: t ++ 32 :: r → (32 : UInt8) ∉ p → p <+: t
  | [], t, r, _, _ => List.nil_prefix
  | a :: p, [], r, h, hn => by
    rw [List.nil_append, List.cons_prefix_cons] at h
    exact absurd (List.mem_cons.2 (Or.inl h.1.symm)) hn
  | a :: p, b :: t, r, h, hn => by
    rw [List.cons_append, List.cons_prefix_cons] at h
    rw [List.cons_prefix_cons]
    exact ⟨h.1, prefix_blank p t r h.2 fun hm => hn (List.mem_cons_of_mem _ hm)⟩
/-- Where a sign's text stands at the beginning, something at least as long is found. -/
theorem match_hit (s : ByteArray) (k : Int) (hk : opB k = true) (h : preB s (txt k) = true) :
    0 ≤ matchTo s 82 ∧ candB (matchTo s 82) = true ∧ preB s (txt (matchTo s 82)) = true ∧ preB (txt (matchTo s 82)) (txt k) = true := by
  have hp := cand_place k (cand_op k hk)
  have hcast : ((k.toNat : Nat) : Int) = k := by omega
  rcases matchTo_found s 82 with ⟨_, hno⟩ | ⟨h0, h1, hc, hh, hmax⟩
  · have := hno k.toNat (by omega) (by rw [hcast]; exact cand_op k hk)
    rw [hcast] at this
    unfold hitB at this
    rw [h] at this
    cases this
  · refine ⟨h0, hc, hh, ?_⟩
    have hle := hmax k.toNat (by omega) (by rw [hcast]; exact cand_op k hk) (by rw [hcast]; exact h)
    rw [hcast] at hle
    rw [preB_iff] at h ⊢
    have hh2 := (preB_iff _ _).1 hh
    refine List.prefix_of_prefix_length_le h hh2 ?_
    rw [txt_toList, txt_toList, ← txt_size_eq, ← txt_size_eq]
    exact hle
theorem match_is (s : ByteArray) (k : Int) (hk : opB k = true) (h : preB s (txt k) = true) (hall : ∀ m, candB m = true → preB s (txt m) = true → txtB m <+: txtB k) : matchTo s 82 = k := by
  obtain ⟨h0, hc, hh, hpre⟩ := match_hit s k hk h
  have h1 := hall _ hc hh
  have h2 := (preB_iff _ _).1 hpre
  rw [txt_toList, txt_toList] at h2
  have heq : txtB (matchTo s 82) = txtB k := h1.eq_of_length (Nat.le_antisymm h1.length_le h2.length_le)
  have hp := cand_place k (cand_op k hk)
  have hp2 := cand_place _ hc
  by_cases he : matchTo s 82 = k
  · exact he
  · exfalso
    refine txt_apart (matchTo s 82) k ?_ heq
    have := place_cases (matchTo s 82)
    have := place_cases k
    omega
theorem match_self (k : Int) (hk : opB k = true) : matchTo (txt k) 82 = k :=
  match_is (txt k) k hk ((preB_iff _ _).2 (List.prefix_refl _)) fun m _ hm => by
    have := (preB_iff _ _).1 hm
    rwa [txt_toList, txt_toList] at this
theorem match_blank (k j : Int) (hk : opB k = true) : matchTo (txt k ++ ⟨#[32]⟩ ++ txt j) 82 = k := by
  have hl : (txt k ++ ⟨#[32]⟩ ++ txt j).toList = txtB k ++ 32 :: txtB j := by
    rw [byteList_append, byteList_append, txt_toList, txt_toList, List.append_assoc]
    rw [show (⟨#[32]⟩ : ByteArray).toList = [32] by simp [ByteArray.toList_eq]]
    rfl
  refine match_is _ k hk ?_ fun m hc hm => ?_
  · rw [preB_iff, hl, txt_toList]
    exact List.prefix_append _ _
  · have := (preB_iff _ _).1 hm
    rw [hl, txt_toList] at this
    exact prefix_blank _ _ _ this (no_blank m hc)
theorem match_none (s : ByteArray) (h : (126 : UInt8) ∉ s.toList) : matchTo s 82 = matchTo s 81 := by
  refine matchTo_keep s 81 ?_
  have : hitB s ((81 : Nat) : Int) = false := by
    cases hh : hitB s ((81 : Nat) : Int)
    · rfl
    · exfalso
      have h1 := (preB_iff _ _).1 hh
      rw [txt_toList] at h1
      have e : txtB ((81 : Nat) : Int) = [126] := by decide +kernel
      rw [e] at h1
      exact h (h1.subset (by simp))
  rw [this]
  simp
end Go.Proofs.YtabjfjcaackelaaDoor
