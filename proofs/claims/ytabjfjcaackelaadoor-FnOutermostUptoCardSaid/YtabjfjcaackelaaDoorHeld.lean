/- Two stacks in memory: a row that the call owns, or the head of one, with no room behind it; append onto it; laws.reduced over two such stacks. -/
import Derived.Test.YtabjfjcaackelaaDoorRed
import Derived.ArgAppend
namespace Go.Proofs.YtabjfjcaackelaaDoor
open Go.RowKit

/-- A slice of one-celled elements from base on: it is its whole block, or it has no room behind its last element. -/
def Held (w : World) (base : Nat) (e : TypeId) (v : Value) (n : Nat) (xs : List Value) : Prop :=
  xs.length = n ∧ ∃ g cap cur, v = .slice (some ⟨g, 0, none⟩) n cap ∧ base ≤ g ∧ w.heap[g]? = some (.cells cur e (0, 0)) ∧ n ≤ cap ∧ cap ≤ maxLen ∧ (cur.size = cap ∨ cap = n) ∧ cur.toList.take n = xs
section
variable {w : World} {base : Nat} {e : TypeId} {v : Value} {n : Nat} {xs : List Value}
theorem Held.form (h : Held w base e v n xs) : ∃ g cap, v = .slice (some ⟨g, 0, none⟩) n cap ∧ base ≤ g ∧ g < w.heap.size ∧ n ≤ cap ∧ cap ≤ maxLen := by
  obtain ⟨_, g, cap, cur, rfl, hb, hg, hc, hm, _⟩ := h
  exact ⟨g, cap, rfl, hb, (Array.getElem?_eq_some_iff.1 hg).1, hc, hm⟩
theorem Held.lt (h : Held w base e v n xs) : ∀ k, v.ownBlock = some k → base ≤ k ∧ k < w.heap.size := fun k hk => by
  obtain ⟨g, cap, rfl, hb, hlt, _⟩ := h.form
  simp [Value.ownBlock] at hk
  subst hk
  exact ⟨hb, hlt⟩
theorem Held.cell {g cap : Nat} (h : Held w base e (.slice (some ⟨g, 0, none⟩) n cap) n xs) (i : Nat) (u : Value) (hu : xs[i]? = some u) : w.cell? ⟨g, i, none⟩ = some u := by
  obtain ⟨_, g', cap', cur, hv, _, hg, _, _, _, ht⟩ := h
  simp only [Value.slice.injEq, Option.some.injEq, Addr.mk.injEq, and_true, true_and] at hv
  obtain ⟨rfl, rfl⟩ := hv
  rw [cell_of_row w g i cur e (0, 0) hg]
  rw [← ht, List.getElem?_take] at hu
  split at hu
  · simpa using hu
  · cases hu
theorem Held.of_own {b2 : Nat} (h : w.ownsRow b2 e 1 v n xs) (hn : 0 < n) (hb : base ≤ b2) : Held w base e v n xs := by
  obtain ⟨h1, h2⟩ := h
  rcases h2 with ⟨_, h0⟩ | ⟨g, cap, cur, hv, hbb, hg, hc, hm, hs, ht⟩
  · omega
  · exact ⟨by simpa using h1, g, cap, cur, hv, Nat.le_trans hb hbb, hg, hc, hm, .inl (by simpa using hs), by simpa using ht⟩
theorem Held.new (hb : base ≤ w.heap.size) (cs : Array Value) (hn : cs.size = n) (hm : n ≤ maxLen) (hx : cs.toList = xs) : Held (w.alloc (.cells cs e)) base e (.slice (some ⟨w.heap.size, 0, none⟩) n n) n xs := by
  subst hx
  subst hn
  exact ⟨by simp, w.heap.size, cs.size, cs, rfl, hb, heap_alloc_new w _, Nat.le_refl _, hm, .inl rfl, List.take_of_length_le (by simp)⟩
theorem Held.block {w' : World} (h : Held w base e v n xs) (hb : ∀ k, v.ownBlock = some k → w'.heap[k]? = w.heap[k]?) : Held w' base e v n xs := by
  obtain ⟨h1, g, cap, cur, rfl, h2, h3, h4⟩ := h
  exact ⟨h1, g, cap, cur, rfl, h2, (hb g rfl).trans h3, h4⟩
theorem Held.below {w' : World} (h : Held w base e v n xs) (hb : Below w.heap.size w w') : Held w' base e v n xs :=
  h.block fun k hk => hb.block k (h.lt k hk).2
theorem Held.pop {u : Value} {g cap : Nat} (h : Held w base e (.slice (some ⟨g, 0, none⟩) (n + 1) cap) (n + 1) (xs ++ [u])) : Held w base e (.slice (some ⟨g, 0, none⟩) n n) n xs := by
  obtain ⟨h1, g', cap', cur, hv, hb, hg, hc, hm, _, ht⟩ := h
  simp only [Value.slice.injEq, Option.some.injEq, Addr.mk.injEq, and_true, true_and] at hv
  obtain ⟨rfl, rfl⟩ := hv
  simp at h1
  refine ⟨h1, g, n, cur, rfl, hb, hg, Nat.le_refl _, by omega, .inr rfl, ?_⟩
  have := congrArg (List.take n) ht
  rw [List.take_take, Nat.min_eq_left (by omega), List.take_left' h1] at this
  exact this
/-- Two stacks of two kinds lie in two blocks. -/
theorem Held.apart {e2 : TypeId} {v2 : Value} {n2 : Nat} {xs2 : List Value} {base2 : Nat} (h : Held w base e v n xs) (h2 : Held w base2 e2 v2 n2 xs2) (he : e ≠ e2) : v.ownBlock ≠ v2.ownBlock := by
  obtain ⟨_, g, cap, cur, rfl, _, hg, _⟩ := h
  obtain ⟨_, g2, cap2, cur2, rfl, _, hg2, _⟩ := h2
  intro hq
  simp [Value.ownBlock] at hq
  subst hq
  rw [hg] at hg2
  simp only [Option.some.injEq, Obj.cells.injEq] at hg2
  exact he hg2.2.1
theorem Held.grown {w' : World} {row : Option Nat} (h : Held w base e v n xs) (hg : w.grownBy w' row) (hne : v.ownBlock ≠ row) : Held w' base e v n xs :=
  h.block fun k hk => hg.block k (h.lt k hk).2 (by rw [← hk]; exact hne)
end

/-- append of one element onto such a slice. -/
theorem wpList_append_held {P : Program} (w : World) {ops : Array Oper} {rest : List Oper} {o : Oper} {a : Act} {Q : Exit → Act → World → Prop} (hgd : o.guard = none) (s x : Operand) (t : TypeId)
    (ho : o.op = .call { callee := .builtin .append, args := #[s, x], argTypes := #[t, t] })
    (base : Nat) (e : TypeId) (i : TypeInfo) (z : Value) (bytes : Nat) (ht : P.underlying t = some (.slice e)) (hi : P.info? e = some i) (hz : i.zero = some z)
    (hsize : i.size = 1) (hby : i.bytes = bytes) (hzs : z.cells.size = 1)
    (v : Value) (n : Nat) (xs : List Value) (hs : a.eval s = v) (hown : Held w base e v n xs)
    (ad : Addr) (c : Nat) (u : Value) (hx : a.eval x = .slice (some ad) 1 c) (hnews : ∀ (j : Nat) u', [u][j]? = some u' → w.cell? (ad.add j) = some u') (h1 : u.oneCell' = true)
    (h63 : n + 1 ≤ maxLen) (hbytes : (n + 1) * bytes ≤ 140737488355328) (hbase : base ≤ w.heap.size)
    (h : ∀ v' w', Held w' base e v' (n + 1) (xs ++ [u]) → w.grownBy w' v.ownBlock → wpList P ops Q rest (a.put o.dst v') w') : wpList P ops Q (o :: rest) a w := by
  obtain ⟨hl, g, cap, cur, rfl, hb, hg, hc, hm, hcase, htk⟩ := hown
  rcases hcase with hcase | hcase
  · refine wpList_append_own w hgd s x t ho base e i z 1 bytes ht hi hz hsize hby hzs (by decide) (.slice (some ⟨g, 0, none⟩) n cap) n xs hs ⟨by simpa using hl, .inr ⟨g, cap, cur, rfl, hb, hg, hc, hm, by simpa using hcase, by simpa using htk⟩⟩ ad 1 c [u] hx rfl hnews (by simpa using h1) h63 hbytes hbase ?_
    intro v' w' hown hgrow _
    exact h v' w' (Held.of_own hown (by omega) (Nat.le_refl _)) hgrow
  · refine wpList_append_grows w hgd s x t ho e i z 1 bytes ht hi hz hsize hby hzs (by decide) (some ⟨g, 0, none⟩) n cap xs hs (by simp) (by simpa using hl) ?_ ad 1 c [u] hx rfl hnews (by simpa using h1) (by omega) h63 hbytes ?_
    · intro b hb' j u' hu
      simp only [Option.some.injEq] at hb'
      subst hb'
      have e1 : (⟨g, 0, none⟩ : Addr).add j = ⟨g, j, none⟩ := by unfold Addr.add; split <;> simp_all
      rw [e1]
      exact Held.cell (base := base) (cap := cap) ⟨hl, g, cap, cur, rfl, hb, hg, hc, hm, .inr hcase, htk⟩ j u' hu
    · intro v' w' hown hgrow
      exact h v' w' (Held.of_own hown (by omega) hbase) ⟨hgrow.os, hgrow.tape, hgrow.output, hgrow.size, fun k hk _ => hgrow.block k hk (by simp)⟩

/-- The two stacks in memory (the lists have the top first). -/
def intVs (rs : List Int) : List Value := rs.reverse.map fun x => Value.int .i64 x
def txtVs (rv : List (List UInt8)) : List Value := rv.reverse.map strV
theorem intVs_cons (s : Int) (rs : List Int) : intVs (s :: rs) = intVs rs ++ [.int .i64 s] := by simp [intVs]
theorem txtVs_cons (v : List UInt8) (rv : List (List UInt8)) : txtVs (v :: rv) = txtVs rv ++ [strV v] := by simp [txtVs]
theorem intVs_len (rs : List Int) : (intVs rs).length = rs.length := by simp [intVs]
theorem txtVs_len (rv : List (List UInt8)) : (txtVs rv).length = rv.length := by simp [txtVs]
structure Two (w : World) (base : Nat) (v3 v4 : Value) (rs : List Int) (rv : List (List UInt8)) : Prop where
  vals : Held w base 9 v3 rv.length (txtVs rv)
  signs : Held w base 3 v4 rs.length (intVs rs)
theorem Two.below {w w' : World} {base : Nat} {v3 v4 : Value} {rs : List Int} {rv : List (List UInt8)} (h : Two w base v3 v4 rs rv) (hb : Below w.heap.size w w') : Two w' base v3 v4 rs rv := ⟨h.vals.below hb, h.signs.below hb⟩

theorem Good.mem : ∀ {rs : List Int} {P Q : List Int} {f : Nat} {rv : List (List UInt8)}, Good rs P Q f rv → ∀ s ∈ rs, s ∈ P
  | [], _, _, _, _, _, s, hs => by cases hs
  | s :: rs, _, _, _, _, h, s', hs' => by
    obtain ⟨P1, Q1, f1, rv1, rfl, _, _, h1, _, _, _⟩ := h
    rcases List.mem_cons.1 hs' with rfl | hs'
    · simp
    · exact List.mem_append.2 (.inl (h1.mem s' hs'))
theorem Good.short : ∀ {rs : List Int} {P Q : List Int} {f : Nat} {rv : List (List UInt8)}, Good rs P Q f rv → P.length < 100000000000000 → ∀ v ∈ rv, v.length ≤ 27 * P.length + 14
  | [], P, _, _, _, h, hp, v, hv => by
    obtain ⟨_, _, rfl⟩ := h
    simp at hv
    subst hv
    exact grp_len (P.length + 1) P 0 (by omega) (by omega)
  | s :: rs, _, R, _, _, h, hp, v, hv => by
    obtain ⟨P1, Q1, f1, rv1, rfl, _, rfl, h1, _, _, _⟩ := h
    simp at hp
    rcases List.mem_cons.1 hv with rfl | hv
    · have := grp_len (R.length + 1) R (P1.length + 1) (by omega) (by omega)
      simp [grp]
      omega
    · have := h1.short (by omega) v hv
      simp
      omega

/-- laws.reduced over the two stacks. -/
theorem reducedTwo {w : World} {base : Nat} {v3 v4 : Value} {s : Int} {rs : List Int} {v v' : List UInt8} {rv : List (List UInt8)} (h : Two w base v3 v4 (s :: rs) (v :: v' :: rv)) (hlen : rv.length = rs.length) (hq : rs.length ≤ 1000)
    (z1 : v'.length ≤ 475000000000000) (z2 : v.length ≤ 475000000000000) (hbase : base ≤ w.heap.size) (hT : TokTab w) :
    Calls Tryd.prog 27 #[v3, v4] w fun e w' => ∃ v3' v4', e = .returned (.tuple #[v3', v4']) ∧ Two w' base v3' v4' rs (([40] ++ v' ++ txtB s ++ v ++ [41]) :: rv) ∧ Below w.heap.size w w' := by
  obtain ⟨hv, hs⟩ := h
  obtain ⟨g3, c3, rfl, hb3, hl3, hc3, hm3⟩ := hv.form
  obtain ⟨g4, c4, rfl, hb4, hl4, hc4, hm4⟩ := hs.form
  rw [txtVs_cons, txtVs_cons] at hv
  rw [intVs_cons] at hs
  have hvl := txtVs_len rv
  have hsl := intVs_len rs
  simp only [List.length_cons] at hc3 hc4
  refine (lawsReduced g3 g4 (v :: v' :: rv).length (s :: rs).length (rs.length + 1) rs.length c3 c4 (txtVs rv) ⟨v'.toArray⟩ ⟨v.toArray⟩ s (by simp; omega) (by simp) rfl hq (by simp; omega) (by simp; omega) z1 z2 (by omega) ?_ ?_ ?_ ?_ hT).mono ?_
  · intro i u hu
    refine hv.cell i u ?_
    rw [List.append_assoc, List.getElem?_append_left ((List.getElem?_eq_some_iff.1 hu).1)]
    exact hu
  · refine hv.cell _ _ ?_
    rw [List.append_assoc, List.getElem?_append_right (by omega)]
    simp [hvl, hlen, strV]
  · refine hv.cell _ _ ?_
    rw [List.append_assoc, List.getElem?_append_right (by omega)]
    simp [hvl, hlen, strV]
  · refine hs.cell _ _ ?_
    rw [List.getElem?_append_right (by omega)]
    simp [hsl]
  · rintro e w' ⟨v3', rfl, hown, hb⟩
    refine ⟨v3', _, rfl, ⟨?_, (hs.pop).below hb⟩, hb⟩
    have e1 : (⟨#[40]⟩ : ByteArray) ++ ⟨v'.toArray⟩ ++ txt s ++ ⟨v.toArray⟩ ++ ⟨#[41]⟩ = ⟨([40] ++ v' ++ txtB s ++ v ++ [41]).toArray⟩ := by
      apply WideShapes.bytes_inj
      rw [ByteArray.data_append, ByteArray.data_append, ByteArray.data_append, ByteArray.data_append]
      unfold txt
      simp
    rw [e1, ← hlen] at hown
    rw [txtVs_cons]
    exact Held.of_own hown (Nat.succ_pos _) hbase
end Go.Proofs.YtabjfjcaackelaaDoor
