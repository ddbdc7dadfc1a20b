/- Walks of the functions of this seat that tell the class of one byte: each returns what the plain function of that class says, and leaves the world as it was. Condition: none. -/
import Derived.Test.YteoflbljbmpkdaaPlain
import Derived.Test.YteoflbljbmpkdaaRows
namespace Go.Proofs.Yteoflbljbmpkdaa.W
open Go.RowKit


end Go.Proofs.Yteoflbljbmpkdaa.W
