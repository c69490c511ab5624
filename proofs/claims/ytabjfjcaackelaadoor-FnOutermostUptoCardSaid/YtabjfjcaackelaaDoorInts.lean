/- A slice of ints that came in: what a walk reads of it. No condition. -/
import Derived.Test.YtabjfjcaackelaaDoorLaws
namespace Go.Proofs.YtabjfjcaackelaaDoor
open Go.RowKit

def IntsAt (w : World) (A : Option Addr) (zs : List Int) : Prop :=
  0 < zs.length → ∃ b off, A = some ⟨b, off, none⟩ ∧ b < w.heap.size ∧ ∀ i, i < zs.length → w.cell? ⟨b, off + i, none⟩ = some (.int .i64 (zs.getD i 0))
theorem IntsAt.below {w w' : World} {A : Option Addr} {zs : List Int} (h : IntsAt w A zs) (hb : Below w.heap.size w w') : IntsAt w' A zs := fun hn => by
  obtain ⟨b, off, ha, hlt, hc⟩ := h hn
  exact ⟨b, off, ha, Nat.lt_of_lt_of_le hlt hb.size, fun i hi => (hb.cell (p := ⟨b, off + i, none⟩) hlt).trans (hc i hi)⟩
theorem IntsAt.at {w : World} {A : Option Addr} {zs : List Int} (h : IntsAt w A zs) {i : Nat} (hi : i < zs.length) : ∃ b off, A = some ⟨b, off, none⟩ ∧ b < w.heap.size ∧ w.cell? ⟨b, off + i, none⟩ = some (.int .i64 (zs.getD i 0)) := by
  obtain ⟨b, off, ha, hlt, hc⟩ := h (by omega)
  exact ⟨b, off, ha, hlt, hc i hi⟩
end Go.Proofs.YtabjfjcaackelaaDoor
