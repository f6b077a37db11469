import Derived.Test.Qxb6616319aModsRows
import Derived.ProofKit
import Derived.OpenShut
import Derived.ShutString
import Derived.ChangeOld
import Derived.Carry
namespace Go.Proofs.Qxb6616319aMods
theorem own : ownKnob Trym.prog.godebug = none := by kernel_rfl
end Go.Proofs.Qxb6616319aMods
