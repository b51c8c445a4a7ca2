/-
  ONE CLOSED FACT OF THE DUMP's HEAD, which the kernel reckons in some 40 seconds: in a text of its own, so that it is built once.
-/
import Derived.Test.YoeelwRows
import Derived.ProofKit
namespace Go.Proofs.Yoeelw
theorem own : ownKnob Eelg.prog.godebug = none := by kernel_rfl
end Go.Proofs.Yoeelw
