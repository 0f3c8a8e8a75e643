/- The walks of the laws' functions on slices of ints. -/
import Derived.Test.YtgjackalcajmjaaMem
namespace Go.Proofs.Ytgjackalcajmjaa
open Go.RowKit

end Go.Proofs.Ytgjackalcajmjaa
