/- Trees of loaded functions, printed by wip/tools/rxprint (a program of this repo): each is what 'exec' comes to, held by the kernel. No statement of the set is proved here. -/
import Derived.Test.YtlfebfkphgelfaaGreatDoorRz
import Derived.Test.YtlfebfkphgelfaaGreatDoorProg
import Derived.KernelRfl
namespace Go.Proofs.YtlfebfkphgelfaaGreatDoor.Tr
open Go Go.Proofs Go.Proofs.YtlfebfkphgelfaaGreatDoor.Rx
set_option linter.unusedVariables false
set_option maxRecDepth 100000
end Go.Proofs.YtlfebfkphgelfaaGreatDoor.Tr
