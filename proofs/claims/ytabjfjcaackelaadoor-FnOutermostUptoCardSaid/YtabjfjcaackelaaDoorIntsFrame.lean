/- From a row's reading of its arguments to what the walks ask, and back: slices of ints. No condition. -/
import Derived.Test.YtabjfjcaackelaaDoorInts
import Derived.Test.YtabjfjcaackelaaDoorRows
import Derived.WalkKit
import Derived.ProofKit
import Derived.OpenShut
import Derived.SizedLaws
import Derived.Carry
namespace Go.Proofs.YtabjfjcaackelaaDoor
open Go.ChangeShapes Go.WideShapes Go.ChangeAt Go.RowKit

theorem laidOut : laidOutB Tryd.prog = true := by kernel_rfl
theorem cellsInt : Tryd.prog.cellsOf 3 = 1 := by kernel_rfl
theorem bytesInt : Tryd.prog.bytesOf 3 = 8 := by kernel_rfl

section
variable {H : Type} {enc : TypeId × Value → H}
theorem ints_open {W : World} {v : Value} {d : DataW H} {p : List MemPlace} {ts : List TypeId} {ds : List (DataW H)} {j : Nat}
    (hv : ∃ a len cap, v = .slice a len cap) (h : DataW.Trod enc Tryd.prog W 0 (fun _ => true) true 28 v d p)
    (hsz : (DataW.weightsEach Tryd.prog ts ds).all (· ≤ reachBytes) = true) (ht : ts[j]? = some 28) (hd : ds[j]? = some d) :
    ∃ (A : Option Addr) (zs : List Int) (cap : Nat), v = .slice A zs.length cap ∧ zs.length ≤ 17592186044416 ∧ IntsAt W A zs ∧ (∀ x ∈ zs, (Lit.int .i64 x).wf = true) ∧ zs.length ≤ cap ∧ cap ≤ 17592186044416 := by
  obtain ⟨a, len, cap, rfl⟩ := hv
  obtain ⟨fuel, hf⟩ := h
  rcases open_ints Tryd.underlying28 Tryd.underlying3 cellsInt hf with ⟨hcs, _⟩ | ⟨ad, len', cap', zs, hcs, _, hl, _, hz, hx, hcell, hwz⟩
  · simp only [Value.cells, List.cons.injEq, Value.slice.injEq, and_true] at hcs
    obtain ⟨rfl, rfl, rfl⟩ := hcs
    exact ⟨none, [], 0, rfl, by simp, fun h0 => absurd h0 (by simp), (fun x hx => by cases hx), by simp, by simp⟩
  · simp only [Value.cells, List.cons.injEq, Value.slice.injEq, and_true] at hcs
    obtain ⟨rfl, rfl, rfl⟩ := hcs
    rw [if_pos rfl] at hz
    have hlen : (zs.take len).length = len := by simp; omega
    simp only [Prod.mk.injEq] at hx
    obtain ⟨rfl, _⟩ := hx
    have hr := sized_slice hsz ht hd Tryd.underlying28
    rw [bytesInt] at hr
    simp only [lits, List.length_map, List.length_take, List.length_drop, reachBytes] at hr
    refine ⟨some ad, zs.take len, cap, by rw [hlen], by rw [hlen]; omega, fun h0 => ?_, fun x hx => hwz x (List.mem_of_mem_take hx), by rw [hlen]; exact hl, by omega⟩
    rw [hlen] at h0
    obtain ⟨b, off, rfl, hc⟩ := ints_at hcell (by omega)
    refine ⟨b, off, rfl, World.block_lt_of_cell? W _ (hc 0 (by omega)), fun i hi => ?_⟩
    rw [hlen] at hi
    rw [hc i (by omega), List.getD_eq_getElem?_getD, List.getD_eq_getElem?_getD, List.getElem?_take_of_lt hi]
theorem all_readable {P : Program} {ts : List TypeId} (h : (ts.all fun t => P.readableRec t && decide (t < P.types.size)) = true) : ∀ t ∈ ts, P.readableRec t = true ∧ t < P.types.size := fun t ht => by
  have := List.all_eq_true.1 h t ht
  simpa using this
theorem trodAll_below {P : Program} (hl : laidOutB P = true) {W W' : World} (hb : Below W.heap.size W W') : ∀ {ts : List TypeId} {vs : List Value} {ds : List (DataW H)} {p : List MemPlace}, (∀ t ∈ ts, P.readableRec t = true ∧ t < P.types.size) →
    DataW.TrodAll enc P W 0 (fun _ => true) true ts vs ds p → (∀ x ∈ p, x.block < W.heap.size) → DataW.TrodAll enc P W' 0 (fun b => decide (b < W.heap.size)) true ts vs ds p
  | [], vs, ds, p, _, h, _ => by
    obtain ⟨rfl, rfl, rfl⟩ := trodAll_nil h
    exact trodAll_mk0
  | t :: ts, vs, ds, p, hr, h, hlt => by
    obtain ⟨v, vs', d, ds', p', q', rfl, rfl, rfl, h1, h2⟩ := trodAll_cons h
    have hr1 := hr t (.head _)
    exact trodAll_cons_mk (Below.trod hl hr1.1 hr1.2 h1 hb fun x hx => hlt x (List.mem_append.2 (.inl hx))) (trodAll_below hl hb (fun t ht => hr t (.tail _ ht)) h2 fun x hx => hlt x (List.mem_append.2 (.inr hx)))
end
end Go.Proofs.YtabjfjcaackelaaDoor
