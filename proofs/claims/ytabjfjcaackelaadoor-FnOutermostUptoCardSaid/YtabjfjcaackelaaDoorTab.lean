/- What the rows' list of package-level variables gives: the library's table of texts; and that the start-up's own heap meets the list. -/
import Derived.Test.YtabjfjcaackelaaDoorCards
import Derived.Test.YtabjfjcaackelaaDoorTie
import Derived.WalkKit
import Derived.ProofKit
import Derived.OpenShut
import Derived.LaidMore
import Derived.Stop.Joined
import Derived.Stop.LaidErr
import Derived.Lib.LaidTab
import Derived.Test.YtabjfjcaackelaaDoorString
namespace Go.Proofs.YtabjfjcaackelaaDoor
open Go.ChangeShapes Go.WideShapes Go.ChangeAt Go.RowKit
theorem own : ownKnob Tryd.prog.godebug = none := by kernel_rfl

/-- An array of strings that reads as a list of texts holds them, cell for cell. -/
theorem cells_of_strs {H : Type} {enc : TypeId × Value → H} {P : Program} {w : World} {base : Nat} {sp : Nat → Bool} {held : Bool} {fuel : Nat} {t e : TypeId} {n : Nat} {cs : List Value} {ls : List (List UInt8)} {p : List MemPlace}
    (ht : P.underlying t = some (.array n e)) (he : P.underlying e = some .string) (hce : P.cellsOf e = 1) (hct : P.cellsOf t = n)
    (h : DataW.trod enc P w base sp held fuel t cs = some (.agg (ls.map fun l => .lit (.string l)), p)) : ∀ (i : Nat) (l : List UInt8), ls[i]? = some l → cs[i]? = some (strV l) := by
  cases fuel with
  | zero => simp [DataW.trod] at h
  | succ fuel =>
    simp only [DataW.trod, ht, hce, hct, Nat.mul_one] at h
    split at h
    · obtain ⟨xs, hm, hx⟩ := Option.map_eq_some_iff.1 h
      have hxs : xs.map (·.1) = ls.map fun l => (DataW.lit (.string l) : DataW H) := by
        have := congrArg Prod.fst hx
        simpa using this
      have hxl : xs.length = n := by simpa using Lib.mapM_length hm
      intro i l hl
      have hi : i < n := by
        have h1 := congrArg List.length hxs
        simp at h1
        have h2 := (List.getElem?_eq_some_iff.1 hl).1
        omega
      obtain ⟨b, hb, hf⟩ := Lib.mapM_at hm i i (by simp [hi])
      obtain ⟨s, hc, hbs, _⟩ := DataW.trod_string he hf
      have h1 : cs[i]? = some (.string s) := by
        have := congrArg (·[0]?) hc
        simpa [List.getElem?_take, List.getElem?_drop] using this
      have h2 : (xs.map (·.1))[i]? = some (DataW.lit (.string s.data.toList) : DataW H) := by simp [hb, hbs]
      rw [hxs, List.getElem?_map, hl] at h2
      simp only [Option.map_some, Option.some.injEq, DataW.lit.injEq, Lit.string.injEq] at h2
      rw [h1, h2]
      rfl
    · cases h

/-- The library's table, whole: between the groups it has empty texts. -/
def tokL : List (List UInt8) := nameL.take 3 ++ [[]] ++ nameL.drop 3 ++ [[], []] ++ opL ++ [[], []] ++ kwL ++ [[], [], [126]]
theorem tokL_laid : (Rows.laid_go_token_tokens : DataW Unit) = .agg (tokL.map fun l => .lit (.string l)) := by kernel_rfl
theorem tokL_all : ∀ i : Fin 82, tokL[(tokAt (i.val : Int)).toNat]? = some (txtL.getD i.val []) := by decide +kernel
theorem tokL_at (i : Nat) (h : i < 82) : tokL[(tokAt (i : Int)).toNat]? = some (txtB (i : Int)) := by
  have := tokL_all ⟨i, h⟩
  rw [this]
  unfold txtB
  rcases place_cases (i : Int) with hp | hp
  · omega
  · rw [hp.1]
    rfl
theorem gTok : Tryd.prog.globalNamed "go/token.tokens" = some 0 := by kernel_rfl
theorem gTokType : (Tryd.prog.globals[0]?).map (·.type) = some 45 := by kernel_rfl
theorem cellsTok : Tryd.prog.cellsOf 45 = 89 := by kernel_rfl
theorem cellsStr : Tryd.prog.cellsOf 9 = 1 := by kernel_rfl

theorem tokTab_of {W : World} {rest : List (String × DataW Unit)} (h : laidMet Tryd.prog (("go/token.tokens", Rows.laid_go_token_tokens) :: rest) W) : TokTab W := by
  obtain ⟨ps, ⟨g', t', cs, fuel, p, q, hg', ht', hvar, hd, _, _⟩, _⟩ := h
  obtain rfl := Option.some.inj (gTok.symm.trans hg')
  obtain rfl := Option.some.inj (gTokType.symm.trans ht')
  rw [tokL_laid] at hd
  have hall := cells_of_strs Tryd.underlying45 Tryd.underlying9 cellsStr cellsTok hd
  have hcell : ∀ i : Nat, i < 82 → W.cell? ⟨0, (tokAt (i : Int)).toNat, none⟩ = some (.string (txt (i : Int))) := by
    intro i hi
    rw [World.var?_cell gTok hvar, ← Array.getElem?_toList, hall _ _ (tokL_at i hi)]
    rfl
  exact ⟨block_lt_of_cell (hcell 0 (by omega)), hcell⟩
theorem tokTab {W : World} (h : laidMetH Tryd.prog [("math/bits.deBruijn32tab", Rows.laid_math_bits_deBruijn32tab), ("math/bits.deBruijn64tab", Rows.laid_math_bits_deBruijn64tab), ("internal/strconv.uint64pow10", Rows.laid_internal_strconv_uint64pow10), ("go/token.tokens", Rows.laid_go_token_tokens)] W) : TokTab W := by
  rw [MakeChecks.laidMetH_plain _ _ _ (by kernel_rfl)] at h
  exact tokTab_of h.tail.tail.tail

/-- The heap that the start-up's own run leaves meets the list. -/
theorem door_met (os : Os) (args : Array Value) : laidMetH Tryd.prog [("math/bits.deBruijn32tab", Rows.laid_math_bits_deBruijn32tab), ("math/bits.deBruijn64tab", Rows.laid_math_bits_deBruijn64tab), ("internal/strconv.uint64pow10", Rows.laid_internal_strconv_uint64pow10), ("go/token.tokens", Rows.laid_go_token_tokens)] ((World.doorLaid Tryd.prog 29 os).forCall (fun _ _ => 0) ⟨#[], args, []⟩).memory :=
  laidMetH_of_parts3 (fuel := 8) (laidMet_of_run' 8 (by kernel_rfl) (by kernel_rfl)) (by kernel_rfl) (by kernel_rfl)
end Go.Proofs.YtabjfjcaackelaaDoor
