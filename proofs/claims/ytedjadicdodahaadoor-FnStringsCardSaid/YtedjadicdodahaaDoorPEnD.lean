/- An element's encoder: its references, each once. (printed by gen_penD.py) -/
import Derived.StillTailTactics
import Derived.BigRegion
import Derived.Test.YtedjadicdodahaaDoorPEnC
namespace Go.Proofs.YtedjadicdodahaaDoor
open Go.RowKit Go.Maps

end Go.Proofs.YtedjadicdodahaaDoor
