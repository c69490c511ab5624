/-
  No cell of these rows narrows 'for every input' (looked for: loops, veiled, ifaces, maps, wideKeys, modest, calm, conditions, laid).
  DERIVED. THE GIVEN ROWS OF THIS SEAT. 8 by the template 'for every input the law returns true; each argument reads behind the call as it read before'; 0 by the template 'total and deterministic' (their statements: YtamefimnohijoaaTotals.lean).
  GIVEN WITH THE SEED: the statements are not yours to turn. If you find one false, say at which input.
  Laid BY PROGRAM, IN A SANDBOX (cutbox-rows.mjs): the forced cells as the released guide's own fill.sh prints them over the translation 6a1e683c93bb7b1c… (all of the seat's roots in one cut). By AI agents, Wed Nov 11 2026. No macro, syntax, notation, axiom, sorry.
-/
import Derived.Test.YtamefimnohijoaaChecked
import GoSem.Claim
import GoSem.ClaimJoined
import GoSem.ClaimMapViews
import Derived.JoinedTies
import Derived.KernelRfl
namespace Go.Proofs.Ytamefimnohijoaa
/- THE CELL 'sum', in the pinned program and in every row, IS THE sha256 OF THE DUMP (.gsa) THAT YtamefimnohijoaaProg.lean LOADS. Nothing in Lean hashes anything: it is a label: what it is worth is what the hold of that sum in a sandbox is worth. -/
noncomputable def Try.pinned : Pinned := { name := "ytamefimnohijoaa", sum := "6a1e683c93bb7b1c8ad529890d746cd316184aee5a4ec9c22ebd7e25c33613da", checked := Try.checked }
namespace Rows
def none {H : Type} : Left H := { results := [], args := [] }

/-- 'laws.FnIsKeyword': WHATEVER THE INPUT: true; the input reads as it did. -/
def fnIsKeywordSpec : ChangeSpec := { name := "fnIsKeyword", fn := fun _ => fun
  | [d] => { results := [.lit (.bool true)], args := [d] }
  | _ => none }
def fnIsKeywordRow : OpenClaim := { program := "ytamefimnohijoaa", sum := "6a1e683c93bb7b1c8ad529890d746cd316184aee5a4ec9c22ebd7e25c33613da", func := "loop.example/lib-g03114/laws.FnIsKeyword", spec := "fnIsKeyword", apart := false }
def FnIsKeywordSaid : Prop := fnIsKeywordRow.holds Try.pinned (OpenSpec.ofChange fnIsKeywordSpec)

/-- ITS FALSE NEIGHBOUR: 'it returns false'. Refute it at one input. -/
def fnIsKeywordWrong : ChangeSpec := { name := "fnIsKeyword", fn := fun _ => fun
  | [d] => { results := [.lit (.bool false)], args := [d] }
  | _ => none }
def FnIsKeywordWrongFalsely : Prop := fnIsKeywordRow.holds Try.pinned (OpenSpec.ofChange fnIsKeywordWrong)

/-- 'laws.FnIsLiteral': WHATEVER THE INPUT: true; the input reads as it did. -/
def fnIsLiteralSpec : ChangeSpec := { name := "fnIsLiteral", fn := fun _ => fun
  | [d] => { results := [.lit (.bool true)], args := [d] }
  | _ => none }
def fnIsLiteralRow : OpenClaim := { program := "ytamefimnohijoaa", sum := "6a1e683c93bb7b1c8ad529890d746cd316184aee5a4ec9c22ebd7e25c33613da", func := "loop.example/lib-g03114/laws.FnIsLiteral", spec := "fnIsLiteral", apart := false }
def FnIsLiteralSaid : Prop := fnIsLiteralRow.holds Try.pinned (OpenSpec.ofChange fnIsLiteralSpec)

/-- ITS FALSE NEIGHBOUR: 'it returns false'. Refute it at one input. -/
def fnIsLiteralWrong : ChangeSpec := { name := "fnIsLiteral", fn := fun _ => fun
  | [d] => { results := [.lit (.bool false)], args := [d] }
  | _ => none }
def FnIsLiteralWrongFalsely : Prop := fnIsLiteralRow.holds Try.pinned (OpenSpec.ofChange fnIsLiteralWrong)

/-- 'laws.FnIsOperator': WHATEVER THE INPUT: true; the input reads as it did. -/
def fnIsOperatorSpec : ChangeSpec := { name := "fnIsOperator", fn := fun _ => fun
  | [d] => { results := [.lit (.bool true)], args := [d] }
  | _ => none }
def fnIsOperatorRow : OpenClaim := { program := "ytamefimnohijoaa", sum := "6a1e683c93bb7b1c8ad529890d746cd316184aee5a4ec9c22ebd7e25c33613da", func := "loop.example/lib-g03114/laws.FnIsOperator", spec := "fnIsOperator", apart := false }
def FnIsOperatorSaid : Prop := fnIsOperatorRow.holds Try.pinned (OpenSpec.ofChange fnIsOperatorSpec)

/-- ITS FALSE NEIGHBOUR: 'it returns false'. Refute it at one input. -/
def fnIsOperatorWrong : ChangeSpec := { name := "fnIsOperator", fn := fun _ => fun
  | [d] => { results := [.lit (.bool false)], args := [d] }
  | _ => none }
def FnIsOperatorWrongFalsely : Prop := fnIsOperatorRow.holds Try.pinned (OpenSpec.ofChange fnIsOperatorWrong)

/-- 'laws.FnInAGroup': WHATEVER THE INPUT: true; the input reads as it did. -/
def fnInAGroupSpec : ChangeSpec := { name := "fnInAGroup", fn := fun _ => fun
  | [d] => { results := [.lit (.bool true)], args := [d] }
  | _ => none }
def fnInAGroupRow : OpenClaim := { program := "ytamefimnohijoaa", sum := "6a1e683c93bb7b1c8ad529890d746cd316184aee5a4ec9c22ebd7e25c33613da", func := "loop.example/lib-g03114/laws.FnInAGroup", spec := "fnInAGroup", apart := false }
def FnInAGroupSaid : Prop := fnInAGroupRow.holds Try.pinned (OpenSpec.ofChange fnInAGroupSpec)

/-- ITS FALSE NEIGHBOUR: 'it returns false'. Refute it at one input. -/
def fnInAGroupWrong : ChangeSpec := { name := "fnInAGroup", fn := fun _ => fun
  | [d] => { results := [.lit (.bool false)], args := [d] }
  | _ => none }
def FnInAGroupWrongFalsely : Prop := fnInAGroupRow.holds Try.pinned (OpenSpec.ofChange fnInAGroupWrong)

/-- 'laws.FnOneGroup': WHATEVER THE INPUT: true; the input reads as it did. -/
def fnOneGroupSpec : ChangeSpec := { name := "fnOneGroup", fn := fun _ => fun
  | [d] => { results := [.lit (.bool true)], args := [d] }
  | _ => none }
def fnOneGroupRow : OpenClaim := { program := "ytamefimnohijoaa", sum := "6a1e683c93bb7b1c8ad529890d746cd316184aee5a4ec9c22ebd7e25c33613da", func := "loop.example/lib-g03114/laws.FnOneGroup", spec := "fnOneGroup", apart := false }
def FnOneGroupSaid : Prop := fnOneGroupRow.holds Try.pinned (OpenSpec.ofChange fnOneGroupSpec)

/-- ITS FALSE NEIGHBOUR: 'it returns false'. Refute it at one input. -/
def fnOneGroupWrong : ChangeSpec := { name := "fnOneGroup", fn := fun _ => fun
  | [d] => { results := [.lit (.bool false)], args := [d] }
  | _ => none }
def FnOneGroupWrongFalsely : Prop := fnOneGroupRow.holds Try.pinned (OpenSpec.ofChange fnOneGroupWrong)

/-- 'laws.FnLevelTaken': WHATEVER THE INPUT: true; the input reads as it did. -/
def fnLevelTakenSpec : ChangeSpec := { name := "fnLevelTaken", fn := fun _ => fun
  | [d] => { results := [.lit (.bool true)], args := [d] }
  | _ => none }
def fnLevelTakenRow : OpenClaim := { program := "ytamefimnohijoaa", sum := "6a1e683c93bb7b1c8ad529890d746cd316184aee5a4ec9c22ebd7e25c33613da", func := "loop.example/lib-g03114/laws.FnLevelTaken", spec := "fnLevelTaken", apart := false }
def FnLevelTakenSaid : Prop := fnLevelTakenRow.holds Try.pinned (OpenSpec.ofChange fnLevelTakenSpec)

/-- ITS FALSE NEIGHBOUR: 'it returns false'. Refute it at one input. -/
def fnLevelTakenWrong : ChangeSpec := { name := "fnLevelTaken", fn := fun _ => fun
  | [d] => { results := [.lit (.bool false)], args := [d] }
  | _ => none }
def FnLevelTakenWrongFalsely : Prop := fnLevelTakenRow.holds Try.pinned (OpenSpec.ofChange fnLevelTakenWrong)

/-- 'laws.FnPrecedence': WHATEVER THE INPUT: true; the input reads as it did. -/
def fnPrecedenceSpec : ChangeSpec := { name := "fnPrecedence", fn := fun _ => fun
  | [d] => { results := [.lit (.bool true)], args := [d] }
  | _ => none }
def fnPrecedenceRow : OpenClaim := { program := "ytamefimnohijoaa", sum := "6a1e683c93bb7b1c8ad529890d746cd316184aee5a4ec9c22ebd7e25c33613da", func := "loop.example/lib-g03114/laws.FnPrecedence", spec := "fnPrecedence", apart := false }
def FnPrecedenceSaid : Prop := fnPrecedenceRow.holds Try.pinned (OpenSpec.ofChange fnPrecedenceSpec)

/-- ITS FALSE NEIGHBOUR: 'it returns false'. Refute it at one input. -/
def fnPrecedenceWrong : ChangeSpec := { name := "fnPrecedence", fn := fun _ => fun
  | [d] => { results := [.lit (.bool false)], args := [d] }
  | _ => none }
def FnPrecedenceWrongFalsely : Prop := fnPrecedenceRow.holds Try.pinned (OpenSpec.ofChange fnPrecedenceWrong)

/-- 'laws.FnLevels': WHATEVER THE INPUT: true; the input reads as it did. -/
def fnLevelsSpec : ChangeSpec := { name := "fnLevels", fn := fun _ => fun
  | [d] => { results := [.lit (.bool true)], args := [d] }
  | _ => none }
def fnLevelsRow : OpenClaim := { program := "ytamefimnohijoaa", sum := "6a1e683c93bb7b1c8ad529890d746cd316184aee5a4ec9c22ebd7e25c33613da", func := "loop.example/lib-g03114/laws.FnLevels", spec := "fnLevels", apart := false }
def FnLevelsSaid : Prop := fnLevelsRow.holds Try.pinned (OpenSpec.ofChange fnLevelsSpec)

/-- ITS FALSE NEIGHBOUR: 'it returns false'. Refute it at one input. -/
def fnLevelsWrong : ChangeSpec := { name := "fnLevels", fn := fun _ => fun
  | [d] => { results := [.lit (.bool false)], args := [d] }
  | _ => none }
def FnLevelsWrongFalsely : Prop := fnLevelsRow.holds Try.pinned (OpenSpec.ofChange fnLevelsWrong)

/- THE SECOND FORM. 'bulk': how many values and letters a reading holds, each counted each time it is reached (what is shared counts as often as it is met; a slice's spare places count too). A statement '..UptoSaid' is the law's where the arguments, and the package variables that the reading takes, are together of bulk at most 1048576: NARROWER than '..Said'. Prove '..Said' where nothing that the law and all that it calls make is longer than what came in: it says more and counts as full. Else prove '..UptoSaid'. A law counts once. -/
mutual
def uptoBulk {H : Type} : DataW H → Nat
  | .lit (.string bytes) => bytes.length + 1
  | .lit _ => 1
  | .nil => 1
  | .ptr d => uptoBulk d + 1
  | .slice elems spare => uptoBulkAll elems + uptoBulkAll spare + 1
  | .agg parts => uptoBulkAll parts + 1
  | .iface _ d => uptoBulk d + 1
  | .map entries => uptoBulkEntries entries + 1
  | .held _ => 1
def uptoBulkAll {H : Type} : List (DataW H) → Nat
  | [] => 0
  | d :: r => uptoBulk d + uptoBulkAll r
def uptoBulkEntries {H : Type} : List (Lit × DataW H) → Nat
  | [] => 0
  | x :: r => uptoBulkEntry x + uptoBulkEntries r
def uptoBulkEntry {H : Type} : Lit × DataW H → Nat
  | (.string bytes, d) => bytes.length + uptoBulk d + 1
  | (_, d) => uptoBulk d + 1
 end
def uptoSmall : (H : Type) → List (DataW H) → Bool := fun _ ds => decide (uptoBulkAll ds ≤ 1048576)
def OpenSpec.upto (s : _root_.Go.ChangeSpec) : _root_.Go.OpenSpec := { _root_.Go.OpenSpec.ofChange s with cond := some uptoSmall }

/-- 'laws.FnIsKeyword', WHERE WHAT IT READS IS OF BULK AT MOST 1048576: true; the input reads as it did. -/
def fnIsKeywordUptoRow : OpenClaim := { program := "ytamefimnohijoaa", sum := "6a1e683c93bb7b1c8ad529890d746cd316184aee5a4ec9c22ebd7e25c33613da", func := "loop.example/lib-g03114/laws.FnIsKeyword", spec := "fnIsKeyword", apart := false, narrowed := true }
def FnIsKeywordUptoSaid : Prop := fnIsKeywordUptoRow.holds Try.pinned (OpenSpec.upto fnIsKeywordSpec)

/-- 'laws.FnIsLiteral', WHERE WHAT IT READS IS OF BULK AT MOST 1048576: true; the input reads as it did. -/
def fnIsLiteralUptoRow : OpenClaim := { program := "ytamefimnohijoaa", sum := "6a1e683c93bb7b1c8ad529890d746cd316184aee5a4ec9c22ebd7e25c33613da", func := "loop.example/lib-g03114/laws.FnIsLiteral", spec := "fnIsLiteral", apart := false, narrowed := true }
def FnIsLiteralUptoSaid : Prop := fnIsLiteralUptoRow.holds Try.pinned (OpenSpec.upto fnIsLiteralSpec)

/-- 'laws.FnIsOperator', WHERE WHAT IT READS IS OF BULK AT MOST 1048576: true; the input reads as it did. -/
def fnIsOperatorUptoRow : OpenClaim := { program := "ytamefimnohijoaa", sum := "6a1e683c93bb7b1c8ad529890d746cd316184aee5a4ec9c22ebd7e25c33613da", func := "loop.example/lib-g03114/laws.FnIsOperator", spec := "fnIsOperator", apart := false, narrowed := true }
def FnIsOperatorUptoSaid : Prop := fnIsOperatorUptoRow.holds Try.pinned (OpenSpec.upto fnIsOperatorSpec)

/-- 'laws.FnInAGroup', WHERE WHAT IT READS IS OF BULK AT MOST 1048576: true; the input reads as it did. -/
def fnInAGroupUptoRow : OpenClaim := { program := "ytamefimnohijoaa", sum := "6a1e683c93bb7b1c8ad529890d746cd316184aee5a4ec9c22ebd7e25c33613da", func := "loop.example/lib-g03114/laws.FnInAGroup", spec := "fnInAGroup", apart := false, narrowed := true }
def FnInAGroupUptoSaid : Prop := fnInAGroupUptoRow.holds Try.pinned (OpenSpec.upto fnInAGroupSpec)

/-- 'laws.FnOneGroup', WHERE WHAT IT READS IS OF BULK AT MOST 1048576: true; the input reads as it did. -/
def fnOneGroupUptoRow : OpenClaim := { program := "ytamefimnohijoaa", sum := "6a1e683c93bb7b1c8ad529890d746cd316184aee5a4ec9c22ebd7e25c33613da", func := "loop.example/lib-g03114/laws.FnOneGroup", spec := "fnOneGroup", apart := false, narrowed := true }
def FnOneGroupUptoSaid : Prop := fnOneGroupUptoRow.holds Try.pinned (OpenSpec.upto fnOneGroupSpec)

/-- 'laws.FnLevelTaken', WHERE WHAT IT READS IS OF BULK AT MOST 1048576: true; the input reads as it did. -/
def fnLevelTakenUptoRow : OpenClaim := { program := "ytamefimnohijoaa", sum := "6a1e683c93bb7b1c8ad529890d746cd316184aee5a4ec9c22ebd7e25c33613da", func := "loop.example/lib-g03114/laws.FnLevelTaken", spec := "fnLevelTaken", apart := false, narrowed := true }
def FnLevelTakenUptoSaid : Prop := fnLevelTakenUptoRow.holds Try.pinned (OpenSpec.upto fnLevelTakenSpec)

/-- 'laws.FnPrecedence', WHERE WHAT IT READS IS OF BULK AT MOST 1048576: true; the input reads as it did. -/
def fnPrecedenceUptoRow : OpenClaim := { program := "ytamefimnohijoaa", sum := "6a1e683c93bb7b1c8ad529890d746cd316184aee5a4ec9c22ebd7e25c33613da", func := "loop.example/lib-g03114/laws.FnPrecedence", spec := "fnPrecedence", apart := false, narrowed := true }
def FnPrecedenceUptoSaid : Prop := fnPrecedenceUptoRow.holds Try.pinned (OpenSpec.upto fnPrecedenceSpec)

/-- 'laws.FnLevels', WHERE WHAT IT READS IS OF BULK AT MOST 1048576: true; the input reads as it did. -/
def fnLevelsUptoRow : OpenClaim := { program := "ytamefimnohijoaa", sum := "6a1e683c93bb7b1c8ad529890d746cd316184aee5a4ec9c22ebd7e25c33613da", func := "loop.example/lib-g03114/laws.FnLevels", spec := "fnLevels", apart := false, narrowed := true }
def FnLevelsUptoSaid : Prop := fnLevelsUptoRow.holds Try.pinned (OpenSpec.upto fnLevelsSpec)

end Rows
end Go.Proofs.Ytamefimnohijoaa
