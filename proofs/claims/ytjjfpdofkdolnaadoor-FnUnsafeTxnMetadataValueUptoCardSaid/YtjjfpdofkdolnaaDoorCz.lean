import Derived.Test.YtjjfpdofkdolnaaDoorD3
import Derived.WalkKit
import Derived.ProofKit
import Derived.OpenShut
import Derived.JoinedCond
import Derived.Carry
set_option linter.unusedVariables false
set_option linter.unusedSimpArgs false
namespace Go.Proofs.YtjjfpdofkdolnaaDoor
namespace K
/-! ### What the kernel reckons of the program alone, once for all its statements -/
theorem own : ownKnob Tryd.prog.godebug = none := by kernel_rfl
theorem laidOut : laidOutB Tryd.prog = true := by kernel_rfl
theorem pz_maps : mapsRowed Tryd.prog = true := by kernel_rfl
theorem pz_heard : Tryd.prog.stopsHeard = true := by kernel_rfl
theorem pz_enter : Tryd.prog.mayEnter = true := by kernel_rfl
theorem pz_lift : Tryd.prog.liftsFinal = false := by kernel_rfl
theorem and_t {a b : Bool} (h : a = true) (g : b = true) : (a && b) = true := by rw [h, g]; rfl
end K
end Go.Proofs.YtjjfpdofkdolnaaDoor
