/- How structs and arrays of the program read, cell by cell (printed by rdgen.py). -/
import Derived.Test.YtnnhdoocklaeoaaDoorRead
namespace Go.Proofs.YtnnhdoocklaeoaaDoor
open Go.RowKit



end Go.Proofs.YtnnhdoocklaeoaaDoor
