/- append of a slice of ints that came in, onto a row that the call owns; the outermost operator, plain. -/
import Derived.Test.YtabjfjcaackelaaDoorHeld
import Derived.Test.YtabjfjcaackelaaDoorMatch
namespace Go.Proofs.YtabjfjcaackelaaDoor
open Go.RowKit

def intL (zs : List Int) : List Value := zs.map fun x => Value.int .i64 x
theorem intL_len (zs : List Int) : (intL zs).length = zs.length := by simp [intL]
theorem intL_at (zs : List Int) (i : Nat) (h : i < zs.length) : (intL zs)[i]? = some (.int .i64 (zs.getD i 0)) := by
  simp [intL, h]

theorem run_append_empty {P : Program} (w : World) (t ty e : TypeId) (i : TypeInfo) (ht : P.underlying t = some (.slice e)) (hi : P.info? e = some i) (base : Option Addr) (n cap : Nat) (hle : n ≤ cap) (A : Option Addr) (c : Nat) :
    (Builtin.append_ #[t, t] ty #[.slice base n cap, .slice A 0 c]).run P w = .ok (.slice base n cap) w := by
  cases base <;> cases A <;> simp [Builtin.append_, run_underlying ht, sizeOf, typeInfo, hi, Builtin.lenOf, hle, Builtin.firstCells, loadCells, loadCellsFrom, storeCells]

/-- append(list, ints...) onto a row that the call owns. -/
theorem wpList_append_ints {P : Program} (w : World) {ops : Array Oper} {rest : List Oper} {o : Oper} {a : Act} {Q : Exit → Act → World → Prop} (hgd : o.guard = none) (s x : Operand) (t : TypeId)
    (ho : o.op = .call { callee := .builtin .append, args := #[s, x], argTypes := #[t, t] })
    (base : Nat) (e : TypeId) (i : TypeInfo) (z : Value) (bytes : Nat) (ht : P.underlying t = some (.slice e)) (hi : P.info? e = some i) (hz : i.zero = some z)
    (hsize : i.size = 1) (hby : i.bytes = bytes) (hzs : z.cells.size = 1)
    (v : Value) (n : Nat) (xs : List Value) (hs : a.eval s = v) (hne : v ≠ .slice none 0 0) (hown : w.ownsRow base e 1 v n xs)
    (A : Option Addr) (c : Nat) (ys : List Int) (m : Nat) (hml : ys.length = m) (hx : a.eval x = .slice A m c) (hys : IntsAt w A ys)
    (h63 : n + m ≤ maxLen) (hbytes : (n + m) * bytes ≤ 140737488355328) (hbase : base ≤ w.heap.size)
    (h : ∀ v' w', w'.ownsRow base e 1 v' (n + m) (xs ++ intL ys) → v' ≠ .slice none 0 0 → w.grownBy w' v.ownBlock → wpList P ops Q rest (a.put o.dst v') w') : wpList P ops Q (o :: rest) a w := by
  subst hml
  by_cases h0 : ys.length = 0
  · obtain rfl : ys = [] := List.eq_nil_of_length_eq_zero h0
    have hown' := hown
    rcases hown.2 with ⟨rfl, _⟩ | ⟨g, cap, cur, rfl, hb, hg, hc, hm, hcs, htk⟩
    · exact absurd rfl hne
    · have hr := run_append_empty (P := P) w t o.type e i ht hi (some ⟨g, 0, none⟩) n cap hc A c
      refine wpList_plain hgd fun K hK => ?_
      unfold Oper.wp execOp
      simp only [ho, resolve, invoke, builtin, Sem.run_bind, Sem.run_pure, Result.andThen_ok, List.map_toArray, List.map_cons, List.map_nil, hs, hx, List.length_nil, hr]
      exact hK _ _ (h _ _ (by simpa [intL] using hown') hne ⟨rfl, rfl, rfl, Nat.le_refl _, fun _ _ _ => rfl⟩)
  · obtain ⟨b, off, rfl, hlt, hc⟩ := hys (by omega)
    refine wpList_append_own w hgd s x t ho base e i z 1 bytes ht hi hz hsize hby hzs (by decide) v n xs hs hown ⟨b, off, none⟩ ys.length c (intL ys) hx (by simp [intL]) ?_ ?_ h63 hbytes hbase ?_
    · intro j u hu
      have hj : j < ys.length := by
        have := (List.getElem?_eq_some_iff.1 hu).1
        rwa [intL_len] at this
      rw [intL_at ys j hj] at hu
      have e1 : (⟨b, off, none⟩ : Addr).add j = ⟨b, off + j, none⟩ := by unfold Addr.add; split <;> simp_all
      rw [e1, hc j hj, hu]
    · intro u hu
      unfold intL at hu
      obtain ⟨y, _, rfl⟩ := List.mem_map.1 hu
      rfl
    · intro v' w' h1 h2 h3
      exact h v' w' h1 (fun hq => by have := (h3.1 hq).2; omega) h2

/-- What the row holds, as the reference's walk reads it. -/
theorem ints_of_own {w : World} {base : Nat} {e : TypeId} {v : Value} {n : Nat} {xs : List Value} {zs : List Int} (h : w.ownsRow base e 1 v n xs) (hn : n = zs.length) (hxs : xs = intL zs) (hne : v ≠ .slice none 0 0) :
    ∃ A cap, v = .slice A zs.length cap ∧ zs.length ≤ cap ∧ cap ≤ 9223372036854775807 ∧ IntsAt w A zs := by
  subst hn
  subst hxs
  rcases h.2 with ⟨rfl, _⟩ | ⟨g, cap, cur, rfl, hb, hg, hc, hm, hcs, htk⟩
  · exact absurd rfl hne
  · refine ⟨_, cap, rfl, hc, by unfold maxLen at hm; omega, fun _ => ⟨g, 0, rfl, (Array.getElem?_eq_some_iff.1 hg).1, fun i hi => ?_⟩⟩
    have := h.cells (g := g) rfl i _ (intL_at zs i hi)
    have e1 : (⟨g, 0, none⟩ : Addr).add i = ⟨g, 0 + i, none⟩ := by unfold Addr.add; split <;> simp_all
    rwa [e1] at this

/-- The law, plain. -/
theorem outermost (zs : List Int) (k : Int) (ys : List Int) (hz : ∀ x ∈ zs, prec k ≤ prec x) (hy : ∀ x ∈ ys, prec k < prec x) : preB (grpS (zs ++ [k] ++ ys) 0) (⟨#[40]⟩ ++ grpS zs 0 ++ txt k) = true := by
  rw [preB_iff]
  have e := grp_split zs k ys 0 hz hy
  refine ⟨grp ys (0 + zs.length + 1) ++ [41], ?_⟩
  rw [byteList_append, byteList_append]
  unfold grpS
  rw [List.append_assoc zs [k] ys]
  show _ = ByteArray.toList ⟨(grp (zs ++ k :: ys) 0).toArray⟩
  rw [e]
  simp [ByteArray.toList_eq, txt]
end Go.Proofs.YtabjfjcaackelaaDoor
