/- Lengths of what FnHeadWrongWord writes; a tree less deep. -/
import Derived.Test.YtppkpcijmfdfmaaGreatDoorC2
import Derived.Test.YtppkpcijmfdfmaaGreatDoorC1
namespace Go.Proofs.YtppkpcijmfdfmaaGreatDoor
end Go.Proofs.YtppkpcijmfdfmaaGreatDoor
