/- From a row's reading of its arguments, and the bound on its bulk, to what the walks ask: slices of ints. -/
import Derived.Test.YtabjfjcaackelaaDoorIntsFrame
namespace Go.Proofs.YtabjfjcaackelaaDoor
open Go.ChangeShapes Go.WideShapes Go.ChangeAt Go.RowKit

section
variable {H : Type} {enc : TypeId × Value → H}
theorem bulk_pos (d : DataW H) : 1 ≤ Rows.uptoBulk d := by
  cases d with
  | lit l => cases l <;> simp [Rows.uptoBulk]
  | _ => simp [Rows.uptoBulk]
theorem bulk_len (l : List (DataW H)) : l.length ≤ Rows.uptoBulkAll l := by
  induction l with
  | nil => simp
  | cons d r ih =>
    have := bulk_pos d
    simp only [Rows.uptoBulkAll, List.length_cons]
    omega
theorem ints_openU {W : World} {v : Value} {d : DataW H} {p : List MemPlace} {ts : List TypeId} {ds : List (DataW H)} {j : Nat}
    (hv : ∃ a len cap, v = .slice a len cap) (h : DataW.Trod enc Tryd.prog W 0 (fun _ => true) true 28 v d p)
    (hsz : (DataW.weightsEach Tryd.prog ts ds).all (· ≤ reachBytes) = true) (ht : ts[j]? = some 28) (hd : ds[j]? = some d) :
    ∃ (A : Option Addr) (zs : List Int) (cap : Nat), v = .slice A zs.length cap ∧ zs.length ≤ 17592186044416 ∧ IntsAt W A zs ∧ (∀ x ∈ zs, (Lit.int .i64 x).wf = true) ∧ zs.length ≤ cap ∧ cap ≤ 17592186044416 ∧ zs.length ≤ Rows.uptoBulk d := by
  obtain ⟨A, zs, cap, rfl, h1, h2, h3, h4, h5⟩ := ints_open hv h hsz ht hd
  refine ⟨A, zs, cap, rfl, h1, h2, h3, h4, h5, ?_⟩
  obtain ⟨fuel, hf⟩ := h
  rcases open_ints Tryd.underlying28 Tryd.underlying3 cellsInt hf with ⟨hcs, _⟩ | ⟨ad, len', cap', zs', hcs, _, hl, _, hz, hx, _, _⟩
  · simp only [Value.cells, List.cons.injEq, Value.slice.injEq, and_true] at hcs
    omega
  · simp only [Value.cells, List.cons.injEq, Value.slice.injEq, and_true] at hcs
    obtain ⟨rfl, hlen, rfl⟩ := hcs
    rw [if_pos rfl] at hz
    simp only [Prod.mk.injEq] at hx
    obtain ⟨rfl, _⟩ := hx
    have := bulk_len (lits .i64 (zs'.take len') : List (DataW H))
    simp only [Rows.uptoBulk]
    simp only [lits, List.length_map, List.length_take] at this ⊢
    omega
end
end Go.Proofs.YtabjfjcaackelaaDoor
