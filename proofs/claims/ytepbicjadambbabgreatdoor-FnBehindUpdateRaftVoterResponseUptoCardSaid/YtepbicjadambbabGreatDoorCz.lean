import Derived.Test.YtepbicjadambbabGreatDoorD3
import Derived.WalkKit
import Derived.ProofKit
import Derived.OpenShut
import Derived.JoinedCond
import Derived.Carry
set_option linter.unusedVariables false
set_option linter.unusedSimpArgs false
namespace Go.Proofs.YtepbicjadambbabGreatDoor
namespace K
/-! ### What the kernel reckons of the program alone, once for all its statements -/
theorem own : ownKnob Tryz.prog.godebug = none := by kernel_rfl
theorem laidOut : laidOutB Tryz.prog = true := by kernel_rfl
theorem pz_maps : mapsRowed Tryz.prog = true := by kernel_rfl
theorem pz_heard : Tryz.prog.stopsHeard = true := by kernel_rfl
theorem pz_enter : Tryz.prog.mayEnter = true := by kernel_rfl
theorem pz_lift : Tryz.prog.liftsFinal = false := by kernel_rfl
theorem and_t {a b : Bool} (h : a = true) (g : b = true) : (a && b) = true := by rw [h, g]; rfl
end K
end Go.Proofs.YtepbicjadambbabGreatDoor
