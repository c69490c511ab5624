/- Contracts of the reference's precedence (levels, Precedence). No condition. -/
import Derived.Test.YtabjfjcaackelaaDoorSpec
namespace Go.Proofs.YtabjfjcaackelaaDoor
open Go.RowKit

def levAt (i : Nat) : List (List UInt8) := if i = 0 then lev1 else if i = 1 then lev2 else if i = 2 then lev3 else if i = 3 then lev4 else lev5

def LevRows (w : World) (B : Nat) (lb : Nat → Nat) : Prop :=
  B < w.heap.size ∧ ∀ i, i < 5 → w.cell? ⟨B, i, none⟩ = some (.slice (some ⟨lb i, 0, none⟩) (levAt i).length (levAt i).length) ∧ Row w (lb i) (strVs (levAt i))
theorem LevRows.below {w w' : World} {B : Nat} {lb : Nat → Nat} (h : LevRows w B lb) (hb : Below w.heap.size w w') : LevRows w' B lb :=
  ⟨Nat.lt_of_lt_of_le h.1 hb.size, fun i hi => ⟨(hb.cell (p := ⟨B, i, none⟩) h.1).trans (h.2 i hi).1, (h.2 i hi).2.below hb⟩⟩
def LevPost (w : World) (e : Ending) (w' : World) : Prop :=
  ∃ (B : Nat) (lb : Nat → Nat), e = .returned (.slice (some ⟨B, 0, none⟩) 5 5) ∧ Below w.heap.size w w' ∧ LevRows w' B lb

def lbOf (a b c d e : Nat) (i : Nat) : Nat := if i = 0 then a else if i = 1 then b else if i = 2 then c else if i = 3 then d else e
theorem levRows_mk {w : World} {a b c d e B : Nat} (h1 : Row w a (strVs lev1)) (h2 : Row w b (strVs lev2)) (h3 : Row w c (strVs lev3)) (h4 : Row w d (strVs lev4)) (h5 : Row w e (strVs lev5))
    (hB : Row w B [.slice (some ⟨a, 0, none⟩) 1 1, .slice (some ⟨b, 0, none⟩) 1 1, .slice (some ⟨c, 0, none⟩) 6 6, .slice (some ⟨d, 0, none⟩) 4 4, .slice (some ⟨e, 0, none⟩) 7 7]) : LevRows w B (lbOf a b c d e) := by
  refine ⟨hB.1, fun i hi => ?_⟩
  rcases (show i = 0 ∨ i = 1 ∨ i = 2 ∨ i = 3 ∨ i = 4 by omega) with rfl | rfl | rfl | rfl | rfl
  · exact ⟨hB.at _ _ rfl, h1⟩
  · exact ⟨hB.at _ _ rfl, h2⟩
  · exact ⟨hB.at _ _ rfl, h3⟩
  · exact ⟨hB.at _ _ rfl, h4⟩
  · exact ⟨hB.at _ _ rfl, h5⟩

set_option maxRecDepth 100000 in
set_option maxHeartbeats 1000000 in
theorem specLevels (w : World) : Calls Tryd.prog 32 #[] w (LevPost w) := by
  go_enter Tryd.func32, Tryd.ntmps32
  go_wp2_with (first | (refine wpList_newRow rfl (some 1) rfl 1 (strVs lev1).toArray 9 ?_ ?_; kernel_rfl; intro w1 hb1 hr1) | (refine wpList_newRow rfl (some 2) rfl 1 (strVs lev2).toArray 9 ?_ ?_; kernel_rfl; intro w2 hb2 hr2) | (refine wpList_newRow rfl (some 3) rfl 6 (strVs lev3).toArray 9 ?_ ?_; kernel_rfl; intro w3 hb3 hr3) | (refine wpList_newRow rfl (some 4) rfl 4 (strVs lev4).toArray 9 ?_ ?_; kernel_rfl; intro w4 hb4 hr4) | (refine wpList_newRow rfl (some 5) rfl 7 (strVs lev5).toArray 9 ?_ ?_; kernel_rfl; intro w5 hb5 hr5) | (refine wpList_newRow rfl (some 6) rfl 5 #[.slice (some ⟨w.heap.size, 0, none⟩) 1 1, .slice (some ⟨w1.heap.size, 0, none⟩) 1 1, .slice (some ⟨w2.heap.size, 0, none⟩) 6 6, .slice (some ⟨w3.heap.size, 0, none⟩) 4 4, .slice (some ⟨w4.heap.size, 0, none⟩) 7 7] 34 ?_ ?_; kernel_rfl; intro w6 hb6 hr6))
  go_ret
  exact ⟨_, _, rfl, below_step (below_step (below_step (below_step (below_step hb1 hb2) hb3) hb4) hb5) hb6, levRows_mk (((((hr1.below hb2).below hb3).below hb4).below hb5).below hb6) ((((hr2.below hb3).below hb4).below hb5).below hb6) (((hr3.below hb4).below hb5).below hb6) ((hr4.below hb5).below hb6) (hr5.below hb6) hr6⟩

set_option maxHeartbeats 1000000 in
theorem specPrecedence0 (k : Int) (h : opB k = false) (w : World) :
    Calls Tryd.prog 25 #[.int .i64 k] w fun e w' => e = .returned (.int .i64 0) ∧ Below w.heap.size w w' := by
  have H := Lib.hid h
  clear h
  go_enter Tryd.func25, Tryd.ntmps25
  go_wp2_with fail
  refine (specIsOperatorAt k _ H.out _).mono ?_
  rintro e w1 ⟨rfl, hb1⟩
  go_wp2_with fail
  go_ret
  exact ⟨rfl, hb1⟩

/-- The first level that holds the text, from 1 on; 0: none. -/
def levOf (t : List UInt8) : Int := if t ∈ lev1 then 1 else if t ∈ lev2 then 2 else if t ∈ lev3 then 3 else if t ∈ lev4 then 4 else if t ∈ lev5 then 5 else 0
theorem levOf_hit (t : List UInt8) (i : Nat) (hi : i < 5) (h : t ∈ levAt i) (hno : ∀ j, j < i → t ∉ levAt j) : levOf t = (i : Int) + 1 := by
  rcases (show i = 0 ∨ i = 1 ∨ i = 2 ∨ i = 3 ∨ i = 4 by omega) with rfl | rfl | rfl | rfl | rfl
  · have h0 : t ∈ lev1 := h
    simp [levOf, h0]
  · have h0 : t ∉ lev1 := hno 0 (by omega)
    have h1 : t ∈ lev2 := h
    simp [levOf, h0, h1]
  · have h0 : t ∉ lev1 := hno 0 (by omega)
    have h1 : t ∉ lev2 := hno 1 (by omega)
    have h2 : t ∈ lev3 := h
    simp [levOf, h0, h1, h2]
  · have h0 : t ∉ lev1 := hno 0 (by omega)
    have h1 : t ∉ lev2 := hno 1 (by omega)
    have h2 : t ∉ lev3 := hno 2 (by omega)
    have h3 : t ∈ lev4 := h
    simp [levOf, h0, h1, h2, h3]
  · have h0 : t ∉ lev1 := hno 0 (by omega)
    have h1 : t ∉ lev2 := hno 1 (by omega)
    have h2 : t ∉ lev3 := hno 2 (by omega)
    have h3 : t ∉ lev4 := hno 3 (by omega)
    have h4 : t ∈ lev5 := h
    simp [levOf, h0, h1, h2, h3, h4]
theorem levOf_miss (t : List UInt8) (hno : ∀ j, j < 5 → t ∉ levAt j) : levOf t = 0 := by
  have h0 : t ∉ lev1 := hno 0 (by omega)
  have h1 : t ∉ lev2 := hno 1 (by omega)
  have h2 : t ∉ lev3 := hno 2 (by omega)
  have h3 : t ∉ lev4 := hno 3 (by omega)
  have h4 : t ∉ lev5 := hno 4 (by omega)
  simp [levOf, h0, h1, h2, h3, h4]
theorem levAt_len (i : Nat) : 1 ≤ (levAt i).length ∧ (levAt i).length ≤ 7 := by
  unfold levAt
  repeat' split
  all_goals decide

def NotIn (t : List UInt8) (i : Nat) : Prop := ∀ j, j < i → t ∉ levAt j
def NotAmong (t : List UInt8) (i m : Nat) : Prop := ∀ x, x < m → (levAt i).getD x [] ≠ t

set_option maxHeartbeats 1000000 in
theorem specPrecedence1 (k : Int) (h : opB k = true) (w : World) :
    Calls Tryd.prog 25 #[.int .i64 k] w fun e w' => e = .returned (.int .i64 (levOf (txtB k))) ∧ Below w.heap.size w w' := by
  have H := Lib.hid h
  clear h
  go_enter Tryd.func25, Tryd.ntmps25
  go_wp2_with fail
  refine (specIsOperatorAt k _ H.out _).mono ?_
  rintro e w1 ⟨rfl, hb1⟩
  go_wp2_with fail
  refine (specLevels _).mono ?_
  rintro e w2 ⟨B, lb, rfl, hb2, hl⟩
  have hb : Below w.heap.size w w2 := below_step hb1 hb2
  clear hb1 hb2
  go_wp2_with fail
  go_loopw [12] (fun i wr => ∃ j : Nat, j ≤ 5 ∧ i = .int .i64 (j : Int) ∧ NotIn (txtB k) j ∧ LevRows wr B lb ∧ Below w.heap.size w wr) (fun i _ => 5 - (intOf i).toNat)
  case atStart => exact ⟨0, by omega, rfl, (fun j hj => by omega), hl, hb⟩
  case round =>
    obtain ⟨j, hj, rfl, hno, hrows, hbr⟩ := hrel
    clear hl hb
    by_cases hlt : j < 5
    · obtain ⟨hc, hrow⟩ := hrows.2 j hlt
      have hlen := levAt_len j
      generalize hn : (levAt j).length = n at hc hlen
      have HN := Lib.hid hn
      clear hn
      generalize hbk : lb j = bk at hc hrow
      clear hbk
      obtain ⟨wo, rfl⟩ : ∃ wo : World, wo = wr := ⟨_, rfl⟩
      have hd : decide ((j : Int) < 5) = true := by simp; omega
      go_wp2_with fail
      go_loopw [19] (fun i wr => ∃ m : Nat, m ≤ n ∧ i = .int .i64 (m : Int) ∧ NotAmong (txtB k) j m ∧ LevRows wr B lb ∧ Below w.heap.size w wr ∧ Row wr bk (strVs (levAt j))) (fun i _ => n - (intOf i).toNat)
      case atStart => exact ⟨0, by omega, rfl, (fun x hx => by omega), hrows, hbr, hrow⟩
      case round =>
        obtain ⟨m, hm, rfl, hna, hrows2, hbr2, hrow2⟩ := hrel
        clear hrows hbr hrow hc
        by_cases hmn : m < n
        · have hg : (strVs (levAt j))[m]? = some (strV ((levAt j).getD m [])) := strVs_get _ _ (by rw [HN.out]; exact hmn)
          have hc := hrow2.at _ _ hg
          unfold strV at hc
          clear hg
          have hmem : (levAt j).getD m [] ∈ levAt j := by
            have hl := HN.out
            rw [List.getD_eq_getElem?_getD, List.getElem?_eq_getElem (by omega), Option.getD_some]
            exact List.getElem_mem _
          generalize hx : (levAt j).getD m [] = x at hc hmem
          have HX := Lib.hid hx
          clear hx
          by_cases heq : x = txtB k
          · have R := Lib.hid (levOf_hit (txtB k) j hlt (heq ▸ hmem) hno)
            have hb : (x == txtB k) = true := by simp [heq]
            clear heq
            go_wp2_with (go_at_call 23; refine (specString k _).mono ?_; rintro e w3 ⟨rfl, hb3⟩)
            go_ret
            exact ⟨ret_int R.out.symm, below_step hbr2 hb3⟩
          · have hb : (x == txtB k) = false := by simp [heq]
            have R : NotAmong (txtB k) j (m + 1) := fun y hy => by
              by_cases hym : y = m
              · subst hym; rw [HX.out]; exact heq
              · exact hna y (by omega)
            clear heq
            go_wp2_with (go_at_call 23; refine (specString k _).mono ?_; rintro e w3 ⟨rfl, hb3⟩)
            go_roundw
            case rel => exact ⟨m + 1, by omega, by go_num, R, hrows2.below hb3, below_step hbr2 hb3, hrow2.below hb3⟩
            case measure => simp [intOf]; omega
        · have R : NotIn (txtB k) (j + 1) := fun y hy => by
            by_cases hyj : y = j
            · subst hyj
              intro hin
              obtain ⟨z, hz, hz2⟩ := List.mem_iff_getElem.1 hin
              refine hna z (by have := HN.out; omega) ?_
              rw [List.getD_eq_getElem?_getD, List.getElem?_eq_getElem hz, Option.getD_some, hz2]
            · exact hno y (by omega)
          go_wp2_with fail
          go_roundw
          case rel => exact ⟨j + 1, by omega, by go_num, R, hrows2, hbr2⟩
          case measure => simp [intOf]; omega
    · obtain rfl : j = 5 := by omega
      have R := Lib.hid (levOf_miss (txtB k) hno)
      go_wp2_with fail
      go_ret
      exact ⟨ret_int R.out.symm, hbr⟩

/-- By place: the reference's precedence is the library's. -/
theorem lev_prec_all : ∀ i : Fin 47, levOf (txtB ((i.val + 9 : Nat) : Int)) = prec ((i.val + 9 : Nat) : Int) := by decide +kernel
theorem lev_prec (k : Int) (h : opB k = true) : levOf (txtB k) = prec k := by
  unfold opB at h
  simp only [decide_eq_true_eq] at h
  have := lev_prec_all ⟨(k - 9).toNat, by omega⟩
  simp only at this
  rwa [show (((k - 9).toNat + 9 : Nat) : Int) = k by omega] at this
theorem prec_zero (k : Int) (h : opB k = false) : prec k = 0 := by
  unfold opB at h
  simp only [decide_eq_false_iff_not] at h
  have hc := tok_cases k
  unfold prec tprec
  repeat' split
  all_goals omega
theorem specPrecedence (k : Int) (w : World) :
    Calls Tryd.prog 25 #[.int .i64 k] w fun e w' => e = .returned (.int .i64 (prec k)) ∧ Below w.heap.size w w' := by
  cases h : opB k
  · rw [prec_zero k h]; exact specPrecedence0 k h w
  · rw [← lev_prec k h]; exact specPrecedence1 k h w
theorem specPrecedenceAt (k n : Int) (hn : prec k = n) (w : World) :
    Calls Tryd.prog 25 #[.int .i64 k] w fun e w' => e = .returned (.int .i64 n) ∧ Below w.heap.size w w' := hn ▸ specPrecedence k w

end Go.Proofs.YtabjfjcaackelaaDoor
