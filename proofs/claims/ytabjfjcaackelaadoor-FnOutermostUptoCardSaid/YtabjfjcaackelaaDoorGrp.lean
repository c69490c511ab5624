/- Expressions of binary operators: how the grammar groups them, and that two stacks do the same. Plain; no condition. -/
import Derived.Test.YtabjfjcaackelaaDoorKinds
import Derived.Test.YtabjfjcaackelaaDoorTxt
import Derived.Test.YtabjfjcaackelaaDoorString
namespace Go.Proofs.YtabjfjcaackelaaDoor
open Go.RowKit

/-- A number in decimal, by fuel. -/
def decF : Nat → Nat → List UInt8
  | 0, _ => []
  | f + 1, n => if n < 10 then [UInt8.ofNat (48 + n)] else decF f (n / 10) ++ [UInt8.ofNat (48 + n % 10)]
def dec (n : Nat) : List UInt8 := decF (n + 1) n
theorem decF_more : ∀ (f g n : Nat), n < f → n < g → decF f n = decF g n
  | 0, _, n, h, _ => by omega
  | _, 0, n, _, h => by omega
  | f + 1, g + 1, n, h1, h2 => by
    unfold decF
    split
    · rfl
    · rw [decF_more f g (n / 10) (by omega) (by omega)]
theorem dec_small (n : Nat) (h : n < 10) : dec n = [UInt8.ofNat (48 + n)] := by
  unfold dec decF
  rw [if_pos h]
theorem dec_big (n : Nat) (h : 10 ≤ n) : dec n = dec (n / 10) ++ [UInt8.ofNat (48 + n % 10)] := by
  unfold dec
  rw [decF, if_neg (by omega), decF_more n (n / 10 + 1) (n / 10) (by omega) (by omega)]
theorem dec_len : ∀ (k n : Nat), n < 10 ^ (k + 1) → (dec n).length ≤ k + 1
  | 0, n, h => by
    rw [dec_small n (by simpa using h)]
    simp
  | k + 1, n, h => by
    by_cases h10 : n < 10
    · rw [dec_small n h10]; simp
    · rw [dec_big n (by omega), List.length_append]
      have := dec_len k (n / 10) (by rw [Nat.pow_succ] at h; omega)
      simp
      exact this

/-- The last place of the least precedence among the first n places, from a place on. -/
def lastMin (l : List Int) : Nat → Nat
  | 0 => 0
  | n + 1 => if prec (l.getD n 0) ≤ prec (l.getD (lastMin l n) 0) then n else lastMin l n
theorem lastMin_lt (l : List Int) : ∀ n, 0 < n → lastMin l n < n
  | 0, h => by omega
  | n + 1, _ => by
    unfold lastMin
    split
    · omega
    · by_cases h : 0 < n
      · have := lastMin_lt l n h; omega
      · have : n = 0 := by omega
        subst this
        simp [lastMin]
theorem lastMin_at (l : List Int) (a : Nat) : ∀ n, a < n → (∀ i, i < a → prec (l.getD a 0) ≤ prec (l.getD i 0)) → (∀ i, a < i → i < n → prec (l.getD a 0) < prec (l.getD i 0)) → lastMin l n = a
  | 0, h, _, _ => by omega
  | n + 1, h, hlo, hhi => by
    unfold lastMin
    by_cases hn : n = a
    · subst hn
      split
      · rfl
      · rename_i hne
        exfalso
        apply hne
        by_cases h0 : 0 < n
        · exact hlo _ (lastMin_lt l n h0)
        · have : n = 0 := by omega
          subst this
          simp [lastMin]
    · rw [lastMin_at l a n (by omega) hlo (fun i h1 h2 => hhi i h1 (by omega)), if_neg]
      have := hhi n (by omega) (by omega)
      omega

/-- The expression that begins with an operand, by fuel. -/
def grpF : Nat → List Int → Nat → List UInt8
  | 0, _, _ => []
  | f + 1, l, first =>
    if l.length = 0 then dec first
    else [40] ++ grpF f (l.take (lastMin l l.length)) first ++ txtB (l.getD (lastMin l l.length) 0) ++ grpF f (l.drop (lastMin l l.length + 1)) (first + lastMin l l.length + 1) ++ [41]
def grp (l : List Int) (first : Nat) : List UInt8 := grpF (l.length + 1) l first
theorem grpF_more : ∀ (f g : Nat) (l : List Int) (first : Nat), l.length < f → l.length < g → grpF f l first = grpF g l first
  | 0, _, l, _, h, _ => by omega
  | _, 0, l, _, _, h => by omega
  | f + 1, g + 1, l, first, h1, h2 => by
    unfold grpF
    by_cases h0 : l.length = 0
    · rw [if_pos h0, if_pos h0]
    · have hm := lastMin_lt l l.length (by omega)
      rw [if_neg h0, if_neg h0, grpF_more f g (l.take _) first (by simp; omega) (by simp; omega), grpF_more f g (l.drop _) _ (by simp; omega) (by simp; omega)]
theorem grp_nil (first : Nat) : grp [] first = dec first := rfl
theorem grp_cons (l : List Int) (first : Nat) (h : 0 < l.length) : grp l first = [40] ++ grp (l.take (lastMin l l.length)) first ++ txtB (l.getD (lastMin l l.length) 0) ++ grp (l.drop (lastMin l l.length + 1)) (first + lastMin l l.length + 1) ++ [41] := by
  have hm := lastMin_lt l l.length h
  unfold grp
  rw [grpF, if_neg (by omega), grpF_more l.length _ (l.take _) first (by simp; omega) (Nat.lt_succ_self _), grpF_more l.length _ (l.drop _) _ (by simp; omega) (Nat.lt_succ_self _)]
/-- Where one operator stands behind none lower and ahead of higher ones, it is the outermost one. -/
theorem grp_split (p : List Int) (s : Int) (q : List Int) (first : Nat) (hp : ∀ x ∈ p, prec s ≤ prec x) (hq : ∀ x ∈ q, prec s < prec x) :
    grp (p ++ s :: q) first = [40] ++ grp p first ++ txtB s ++ grp q (first + p.length + 1) ++ [41] := by
  have e : (p ++ s :: q).getD p.length 0 = s := by simp [List.getD_eq_getElem?_getD]
  have hat : lastMin (p ++ s :: q) (p ++ s :: q).length = p.length := by
    refine lastMin_at _ _ _ (by simp) (fun i hi => ?_) (fun i h1 h2 => ?_)
    · rw [e, List.getD_eq_getElem?_getD, List.getElem?_append_left hi, List.getElem?_eq_getElem hi, Option.getD_some]
      exact hp _ (List.getElem_mem _)
    · rw [e, List.getD_eq_getElem?_getD, List.getElem?_append_right (by omega)]
      obtain ⟨j, rfl⟩ : ∃ j, i = p.length + 1 + j := ⟨i - p.length - 1, by omega⟩
      rw [show p.length + 1 + j - p.length = j + 1 by omega, List.getElem?_cons_succ]
      simp at h2
      rw [List.getElem?_eq_getElem (by omega), Option.getD_some]
      exact hq _ (List.getElem_mem _)
  rw [grp_cons _ _ (by simp; omega), hat, e]
  congr 2
  · simp
  · congr 1
    simp [List.drop_append]

/-- How long an expression is at most. -/
theorem grp_len : ∀ (f : Nat) (l : List Int) (first : Nat), l.length < f → first + l.length < 100000000000000 → (grpF f l first).length ≤ 27 * l.length + 14
  | 0, l, _, h, _ => by omega
  | f + 1, l, first, h, hf => by
    unfold grpF
    split
    · have := dec_len 13 first (by omega)
      omega
    · have hm := lastMin_lt l l.length (by omega)
      have h1 := grp_len f (l.take (lastMin l l.length)) first (by simp; omega) (by simp; omega)
      have h2 := grp_len f (l.drop (lastMin l l.length + 1)) (first + lastMin l l.length + 1) (by simp; omega) (by simp; omega)
      have h3 := txtB_len (l.getD (lastMin l l.length) 0)
      simp only [List.length_append, List.length_cons, List.length_nil, List.length_take, List.length_drop] at h1 h2 ⊢
      omega

/-- Two stacks (the top first) behind the operators P: the operators that wait, the operands; 'Q' are the operators of the topmost operand, which begins with number 'f'. -/
def Good : List Int → List Int → List Int → Nat → List (List UInt8) → Prop
  | [], P, Q, f, rv => Q = P ∧ f = 0 ∧ rv = [grp P 0]
  | s :: rs, P, R, f, rv => ∃ P1 Q1 f1 rv1, P = P1 ++ s :: R ∧ f = P1.length + 1 ∧ rv = grp R (P1.length + 1) :: rv1 ∧ Good rs P1 Q1 f1 rv1 ∧ (∀ x ∈ Q1, prec s ≤ prec x) ∧ (∀ t ∈ rs.head?, prec t < prec s) ∧ (∀ x ∈ R, prec s < prec x)
theorem Good.top {P Q : List Int} {f : Nat} {rs : List Int} {rv : List (List UInt8)} (h : Good rs P Q f rv) : ∃ rv', rv = grp Q f :: rv' ∧ f + Q.length = P.length := by
  cases rs with
  | nil => obtain ⟨rfl, rfl, rfl⟩ := h; exact ⟨[], rfl, by simp⟩
  | cons s rs =>
    obtain ⟨P1, Q1, f1, rv1, rfl, rfl, rfl, _, _, _, _⟩ := h
    exact ⟨rv1, rfl, by simp; omega⟩
theorem Good.len : ∀ {rs : List Int} {P Q : List Int} {f : Nat} {rv : List (List UInt8)}, Good rs P Q f rv → rv.length = rs.length + 1
  | [], _, _, _, _, h => by obtain ⟨_, _, rfl⟩ := h; rfl
  | s :: rs, _, _, _, _, h => by
    obtain ⟨P1, Q1, f1, rv1, _, _, rfl, h1, _, _, _⟩ := h
    simp [h1.len]
theorem Good.push {rs : List Int} {P Q : List Int} {f : Nat} {rv : List (List UInt8)} (h : Good rs P Q f rv) (s : Int) (hQ : ∀ x ∈ Q, prec s ≤ prec x) (ht : ∀ t ∈ rs.head?, prec t < prec s) :
    Good (s :: rs) (P ++ [s]) [] (P.length + 1) (dec (P.length + 1) :: rv) :=
  ⟨P, Q, f, rv, rfl, rfl, rfl, h, hQ, ht, fun x hx => by cases hx⟩
/-- The last operation is put together. -/
theorem Good.reduce {P Q : List Int} {f : Nat} {s : Int} {rs : List Int} {v v' : List UInt8} {rv : List (List UInt8)} (h : Good (s :: rs) P Q f (v :: v' :: rv)) (k : Int) (hk : prec k ≤ prec s) (hQ : ∀ x ∈ Q, prec k ≤ prec x) :
    ∃ Q' f', Good rs P Q' f' (([40] ++ v' ++ txtB s ++ v ++ [41]) :: rv) ∧ ∀ x ∈ Q', prec k ≤ prec x := by
  obtain ⟨P1, Q1, f1, rv1, rfl, rfl, hrv, h, hQ1, ht, hR⟩ := h
  obtain ⟨rv', he, hf⟩ := h.top
  rw [he] at hrv
  simp only [List.cons.injEq] at hrv
  obtain ⟨rfl, rfl, rfl⟩ := hrv
  have hx : [40] ++ grp Q1 f1 ++ txtB s ++ grp Q (P1.length + 1) ++ [41] = grp (Q1 ++ s :: Q) f1 := by
    rw [grp_split Q1 s Q f1 hQ1 hR, ← hf]
  rw [hx]
  refine ⟨Q1 ++ s :: Q, f1, ?_, ?_⟩
  · cases rs with
    | nil =>
      obtain ⟨rfl, rfl, e⟩ := h
      rw [he] at e
      simp only [List.cons.injEq, true_and] at e
      exact ⟨rfl, rfl, by rw [e]⟩
    | cons s2 rs2 =>
      obtain ⟨P2, Q2, f2, rv2, rfl, rfl, e, h2, hQ2, ht2, hR2⟩ := h
      rw [he] at e
      simp only [List.cons.injEq, true_and] at e
      subst e
      have hs := ht s2 (by simp)
      refine ⟨P2, Q2, f2, rv, by simp, rfl, rfl, h2, hQ2, ht2, fun x hx => ?_⟩
      rw [List.mem_append, List.mem_cons] at hx
      rcases hx with hx | rfl | hx
      · exact hR2 x hx
      · exact hs
      · have := hR x hx; omega
  · intro x hx
    rw [List.mem_append, List.mem_cons] at hx
    rcases hx with hx | rfl | hx
    · have := hQ1 x hx; omega
    · exact hk
    · exact hQ x hx
/-- The stack of signs rises: it is no higher than the greatest precedence. -/
theorem Good.rises : ∀ {rs : List Int} {P Q : List Int} {f : Nat} {rv : List (List UInt8)}, Good rs P Q f rv → (∀ s ∈ rs, 0 < prec s) → ∀ s ∈ rs.head?, (rs.length : Int) ≤ prec s
  | [], _, _, _, _, _, _, s, hs => by simp at hs
  | s :: rs, _, _, _, _, h, hp, s', hs' => by
    simp at hs'
    subst hs'
    obtain ⟨P1, Q1, f1, rv1, _, _, _, h1, _, ht, _⟩ := h
    have h0 := hp s (by simp)
    cases hrs : rs with
    | nil => simp; omega
    | cons t rs2 =>
      subst hrs
      have hlt := ht t (by simp)
      have ih := h1.rises (fun x hx => hp x (List.mem_cons_of_mem _ hx)) t (by simp)
      simp at ih ⊢
      omega
theorem Good.high {rs : List Int} {P Q : List Int} {f : Nat} {rv : List (List UInt8)} (h : Good rs P Q f rv) (hp : ∀ s ∈ rs, 0 < prec s) : rs.length ≤ 5 := by
  cases hrs : rs with
  | nil => simp
  | cons s rs2 =>
    have h1 := h.rises hp s (by rw [hrs]; simp)
    rw [hrs] at h1
    have := prec_range s
    simp at h1 ⊢
    omega
end Go.Proofs.YtabjfjcaackelaaDoor
