/- The walks of slices.Grow of none, slices.Concat of two lists of texts, headMark and headSign. -/
import Derived.Test.YtppkpcijmfdfmaaGreatDoorW64
import Derived.Deep.RegionHeld3
import Derived.Deep.RegionHeldLaw
import Derived.Deep.AppendSrc
import Derived.Lib.AppendZeros
namespace Go.Proofs.YtppkpcijmfdfmaaGreatDoor
open Go.RowKit
attribute [local go_sem] B_size B_get B_lit B_ext_to B_ext B_toList B_app

end Go.Proofs.YtppkpcijmfdfmaaGreatDoor
