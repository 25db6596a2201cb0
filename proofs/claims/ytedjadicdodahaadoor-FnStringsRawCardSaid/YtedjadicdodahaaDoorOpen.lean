/- How structs and arrays of the program read, cell by cell (printed by rdgen.py). -/
import Derived.Test.YtedjadicdodahaaDoorRead
namespace Go.Proofs.YtedjadicdodahaaDoor
open Go.RowKit



end Go.Proofs.YtedjadicdodahaaDoor
