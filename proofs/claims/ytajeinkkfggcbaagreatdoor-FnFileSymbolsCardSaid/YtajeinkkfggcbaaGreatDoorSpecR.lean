/- The references on bytes: the records. -/
import Derived.Test.YtajeinkkfggcbaaGreatDoorSpecB
namespace Go.Proofs.YtajeinkkfggcbaaGreatDoor
open Go.RowKit

end Go.Proofs.YtajeinkkfggcbaaGreatDoor
