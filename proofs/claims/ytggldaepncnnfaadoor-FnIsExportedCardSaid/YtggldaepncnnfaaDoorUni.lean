/- What the rows' list of package-level variables gives (the tables of UTF-8 and of the upper-case letters), and the contract of impl.IsExported. -/
import Derived.Test.YtggldaepncnnfaaDoorCards
import Derived.Test.YtggldaepncnnfaaDoorTie
import Derived.Test.YtggldaepncnnfaaDoorShelf
import Derived.Test.YtggldaepncnnfaaDoorKinds
import Derived.WalkKit
import Derived.ProofKit
import Derived.OpenShut
import Derived.LaidMore
import Derived.Stop.Joined
import Derived.Stop.LaidErr
import Derived.Lib.LaidTab
import Derived.Shelf.Unicode.PredsPay
import Derived.PinnedBridge
import Derived.Lay
import Derived.Lib.TrimU
import Derived.Laws.IdiomStrings
namespace Go.Proofs.YtggldaepncnnfaaDoor
open Go.ChangeShapes Go.WideShapes Go.ChangeAt Go.RowKit Go.Lib

theorem own : ownKnob Tryd.prog.godebug = none := by kernel_rfl
theorem gProps : Tryd.prog.globalNamed "unicode.properties" = some 1 := by kernel_rfl
theorem gPropsType : (Tryd.prog.globals[1]?).map (·.type) = some 45 := by kernel_rfl
theorem cells256 : Tryd.prog.cellsOf 45 = 256 := by kernel_rfl
theorem cells8 : Tryd.prog.cellsOf 5 = 1 := by kernel_rfl
theorem xU : RExtra Tryd.prog Tryd.lays201_ren := ⟨by kernel_rfl, by kernel_rfl, by kernel_rfl, by kernel_rfl, by kernel_rfl, by kernel_rfl, by kernel_rfl, by kernel_rfl⟩
theorem x8 : U8Extra Tryd.prog Tryd.lays197_ren := ⟨by kernel_rfl, by kernel_rfl, by kernel_rfl, by kernel_rfl, by kernel_rfl, by kernel_rfl, by kernel_rfl⟩
theorem props_eq : (Rows.laid_unicode_properties : DataW Unit) = tabData .u8 propertiesTab := by kernel_rfl
theorem upper_eq : Rows.laid_unicode_Upper = rtabData upperT := Pinned.upper_eq
theorem first_eq : Rows.laid_unicode_utf8_first = firstData := Pinned.utf8First_eq
theorem accept_eq : (Rows.laid_unicode_utf8_acceptRanges : DataW Unit) = acceptData := by kernel_rfl

/-- The library's tables as their initialisers lay them. -/
def UniTabs (w : World) : Prop := Utf8Tabs 3 4 w ∧ TabIs Tryd.prog w "unicode.properties" .u8 propertiesTab ∧ RVar 2 upperT w
theorem UniTabs.below {w w' : World} (h : UniTabs w) (hb : Below w.heap.size w w') : UniTabs w' :=
  ⟨⟨fun c hc => cell_below hb (h.1.1 c hc), fun i hi => ⟨cell_below hb (h.1.2 i hi).1, cell_below hb (h.1.2 i hi).2⟩⟩, TabIs_below gProps h.2.1 hb, RVar_below h.2.2 hb⟩

theorem tabIs_of_reads {W : World} (h : VarReads Tryd.prog W "unicode.properties" (tabData .u8 propertiesTab)) : TabIs Tryd.prog W "unicode.properties" .u8 propertiesTab := by
  obtain ⟨g, t, cs, fuel, p, hg, hty, hvar, hd⟩ := h
  obtain rfl := Option.some.inj (gProps.symm.trans hg)
  obtain rfl := Option.some.inj (gPropsType.symm.trans hty)
  unfold TabIs
  rw [hvar, ← cells_of_tab Tryd.underlying45 Tryd.underlying5 cells8 cells256 hd]
theorem uni_of {W : World} {l : List (String × DataW Unit)} (h : laidMet Tryd.prog l W) (m1 : ("unicode/utf8.acceptRanges", Rows.laid_unicode_utf8_acceptRanges) ∈ l) (m2 : ("unicode.properties", Rows.laid_unicode_properties) ∈ l)
    (m3 : ("unicode.Upper", Rows.laid_unicode_Upper) ∈ l) (m4 : ("unicode/utf8.first", Rows.laid_unicode_utf8_first) ∈ l) : UniTabs W :=
  ⟨utf8Tabs_of_reads { Tryd.lays197 with } x8 (first_eq ▸ laidMet.reads h m4) (accept_eq ▸ laidMet.reads h m1), tabIs_of_reads (props_eq ▸ laidMet.reads h m2),
    rvar_of_reads { Tryd.lays201 with } xU (by kernel_rfl) (by kernel_rfl) (upper_eq ▸ laidMet.reads h m3)⟩
theorem uniTabs {W : World} (h : laidMetH Tryd.prog [("unicode/utf8.acceptRanges", Rows.laid_unicode_utf8_acceptRanges), ("unicode.properties", Rows.laid_unicode_properties), ("unicode.Upper", Rows.laid_unicode_Upper), ("unicode/utf8.first", Rows.laid_unicode_utf8_first)] W) : UniTabs W := by
  rw [MakeChecks.laidMetH_plain _ _ _ (by kernel_rfl)] at h
  exact uni_of h (.head _) (.tail _ (.head _)) (.tail _ (.tail _ (.head _))) (.tail _ (.tail _ (.tail _ (.head _))))

/-- Is a name exported? -/
def expB (s : ByteArray) : Bool := isUpperU ((decodeGo s).1 : Int)

theorem decode_le (s : ByteArray) : (decodeGo s).1 ≤ 1114111 := by
  unfold decodeGo
  split
  · decide
  · exact rune_le s 0
theorem decode_range (s : ByteArray) : ((decodeGo s).1 : Int) ≤ 2147483647 := by have := decode_le s; omega
theorem uniIsUpper (r : Int) (w : World) (hlo : -2147483648 ≤ r) (hhi : r ≤ 2147483647) (hU : UniTabs w) :
    Calls Tryd.prog 22 #[.int .i32 r] w fun e w' => e = .returned (.bool (isUpperU r)) ∧ Below w.heap.size w w' :=
  Tryd.unicode_IsUpper_any upperT r w hlo hhi hU.2.1 hU.2.2 upperT_ok

set_option maxHeartbeats 400000 in
theorem tokIsExported (s : ByteArray) (w : World) (hU : UniTabs w) :
    Calls Tryd.prog 14 #[.string s] w fun e w' => e = .returned (.bool (expB s)) ∧ Below w.heap.size w w' := by
  have hr := decode_range s
  go_enter Tryd.func14, Tryd.ntmps14
  go_wp2_with fail
  refine (Tryd.utf8_DecodeRuneInString s _ hU.1).mono ?_
  rintro e w1 ⟨rfl, hb1⟩
  have hU1 := hU.below hb1
  go_wp2_with fail
  refine (uniIsUpper _ _ (by omega) hr hU1).mono ?_
  rintro e w2 ⟨rfl, hb2⟩
  go_wp2_with fail
  go_ret
  exact ⟨rfl, below_step hb1 hb2⟩
set_option maxHeartbeats 400000 in
theorem implIsExported (s : ByteArray) (w : World) (hU : UniTabs w) :
    Calls Tryd.prog 8 #[.string s] w fun e w' => e = .returned (.bool (expB s)) ∧ Below w.heap.size w w' := by
  go_enter Tryd.func8, Tryd.ntmps8
  go_wp2_with fail
  refine (tokIsExported s _ hU).mono ?_
  rintro e w1 ⟨rfl, hb1⟩
  go_wp2_with fail
  go_ret
  exact ⟨rfl, hb1⟩
theorem implIsExportedAt (s : ByteArray) (b : Bool) (hb : expB s = b) (w : World) (hU : UniTabs w) :
    Calls Tryd.prog 8 #[.string s] w fun e w' => e = .returned (.bool b) ∧ Below w.heap.size w w' := hb ▸ implIsExported s w hU

/-- The text of a slice of bytes that lies in a block. -/
theorem conv_row {w : World} {b cap : Nat} (l : List UInt8) (h : Row w b (l.map fun c => Value.int .u8 (c.toNat : Int))) :
    (convert 25 9 (.slice (some ⟨b, 0, none⟩) l.length cap)).run Tryd.prog w = .ok (.string ⟨l.toArray⟩) w :=
  run_convert_bytes_back w 25 9 5 ⟨b, 0, none⟩ cap l Tryd.underlying25 Tryd.underlying5 Tryd.underlying9 (fun j hj => by
    have := h.at j (.int .u8 (l[j].toNat : Int)) (by simp [hj])
    have e : (⟨b, 0, none⟩ : Addr).add j = ⟨b, j, none⟩ := by unfold Addr.add; split <;> simp_all
    rw [e]
    exact this)
theorem conv_one {w : World} {b : Nat} (c : UInt8) (h : Row w b [Value.int .u8 (c.toNat : Int)]) :
    (convert 25 9 (.slice (some ⟨b, 0, none⟩) 1 1)).run Tryd.prog w = .ok (.string ⟨#[c]⟩) w := conv_row [c] h
end Go.Proofs.YtggldaepncnnfaaDoor
