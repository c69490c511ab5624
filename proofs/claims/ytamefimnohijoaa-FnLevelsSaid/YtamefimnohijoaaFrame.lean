/- What every row's proof imports, and one closed fact. No condition. -/
import Derived.Test.YtamefimnohijoaaRows
import Derived.WalkKit
import Derived.ProofKit
import Derived.OpenShut
namespace Go.Proofs.Ytamefimnohijoaa
theorem own : ownKnob Try.prog.godebug = none := by kernel_rfl
end Go.Proofs.Ytamefimnohijoaa
