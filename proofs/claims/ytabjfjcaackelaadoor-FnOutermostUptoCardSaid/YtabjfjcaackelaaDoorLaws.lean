/- Small laws of the walk: an operation whose run is known outright; a row stored into a new block; a block known whole. No condition. -/
import Derived.WalkKit
import Derived.WalkSpells
import Derived.WalkLawsBesides
import Derived.Great.BuildSlice
import Derived.Laws.Rows
import Derived.Lib.Hide
namespace Go.Proofs.YtabjfjcaackelaaDoor
open Go.RowKit

section
variable {P : Program}
theorem wpList_run {ops : Array Oper} {rest : List Oper} {o : Oper} {a : Act} {w : World} {Q : Exit → Act → World → Prop} (hg : o.guard = none) (d : Option Tmp) (hd : o.dst = d)
    (v : Value) (w' : World) (hrun : (execOp a.eval o).run P w = .ok (.value v) w')
    (h : wpList P ops Q rest (a.put d v) w') : wpList P ops Q (o :: rest) a w := by
  subst hd
  refine wpList_plain hg fun K hK => ?_
  unfold Oper.wp
  rw [hrun]
  exact hK _ _ h

theorem setRow_alloc (w : World) (old cs : Array Value) (t : TypeId) (fr : Nat × Nat) : (w.alloc (.cells old t fr)).setRow w.heap.size cs = w.alloc (.cells cs t fr) := by
  unfold World.setRow World.alloc
  congr 1
  apply Array.ext
  · simp
  · intro i h1 h2
    simp only [Array.getElem_modify, Array.getElem_push]
    by_cases hi : i < w.heap.size
    · simp [hi, show w.heap.size ≠ i by omega]
    · simp at h1
      have : w.heap.size = i := by omega
      simp [this]

theorem wpList_store_new {ops : Array Oper} {rest : List Oper} {o : Oper} {a : Act} {w : World} {Q : Exit → Act → World → Prop} (hgd : o.guard = none) (ty : TypeId) (x y : Operand) (ho : o.op = .store ty x y)
    (hd : o.dst = none) (cells : Array Value) (t : TypeId) (old : Array Value) (hx : a.eval x = .pointer (some ⟨w.heap.size, 0, none⟩)) (hy : a.eval y = .agg cells)
    (hi : (P.info? ty).map (·.size) = some cells.size) (hold : old.size = cells.size) (h1 : cells.all (·.oneCell') = true)
    (h : wpList P ops Q rest a (w.alloc (.cells cells t))) : wpList P ops Q (o :: rest) a (w.alloc (.cells old t)) := by
  refine wpList_store_rowTo hgd ty x y ho hd w.heap.size cells hx hy t old (heap_alloc_new w _) hi hold h1 ?_
  rw [setRow_alloc]
  exact h
end

/-- A block that holds, cell by cell, a list of values. -/
def Row (w : World) (b : Nat) (l : List Value) : Prop := b < w.heap.size ∧ ∀ (i : Nat) (v : Value), l[i]? = some v → w.cell? ⟨b, i, none⟩ = some v
theorem Row.below {w w' : World} {b : Nat} {l : List Value} (h : Row w b l) (hb : Below w.heap.size w w') : Row w' b l :=
  ⟨Nat.lt_of_lt_of_le h.1 hb.size, fun i v hv => (hb.cell (p := ⟨b, i, none⟩) h.1).trans (h.2 i v hv)⟩
theorem Row.at {w : World} {b : Nat} {l : List Value} (h : Row w b l) (i : Nat) (v : Value) (hv : l[i]? = some v) : w.cell? ⟨b, i, none⟩ = some v := h.2 i v hv
theorem Row.new (w : World) (cs : Array Value) (t : TypeId) (l : List Value) (h : cs.toList = l) : Row (w.alloc (.cells cs t)) w.heap.size l := by
  subst h
  refine ⟨by simp, fun i v hv => ?_⟩
  rw [cell_of_row (w.alloc (.cells cs t)) w.heap.size i cs t (0, 0) (heap_alloc_new w _)]
  simpa using hv
theorem below_step {w w1 w2 : World} (h : Below w.heap.size w w1) (k : Below w1.heap.size w1 w2) : Below w.heap.size w w2 := h.trans (k.mono h.size)
theorem below_new (w : World) (o : Obj) : Below w.heap.size w (w.alloc o) := (Below.refl _ _).alloc (Nat.le_refl _) _

/-- A slice literal: from there on the world is a letter, of which the new block is known. -/
theorem wpList_newRow {P : Program} {ops : Array Oper} {rest : List Oper} {o : Oper} {a : Act} {w : World} {Q : Exit → Act → World → Prop} (hg : o.guard = none) (d : Option Tmp) (hd : o.dst = d)
    (n : Nat) (cells : Array Value) (t : TypeId) (hrun : (execOp a.eval o).run P w = .ok (.value (.slice (some ⟨w.heap.size, 0, none⟩) n n)) (w.alloc (.cells cells t)))
    (h : ∀ w', Below w.heap.size w w' → Row w' w.heap.size cells.toList → wpList P ops Q rest (a.put d (.slice (some ⟨w.heap.size, 0, none⟩) n n)) w') : wpList P ops Q (o :: rest) a w :=
  wpList_run hg d hd _ _ hrun (h _ (below_new _ _) (Row.new _ _ _ _ rfl))
end Go.Proofs.YtabjfjcaackelaaDoor
