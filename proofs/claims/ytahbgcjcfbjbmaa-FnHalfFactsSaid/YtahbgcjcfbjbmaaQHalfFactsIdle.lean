/- Printed by a program of mine: each deferred closure of this seat's functions finds nothing to recover on a way that returns. -/
import Derived.Test.YtahbgcjcfbjbmaaProg
import Derived.Test.YtahbgcjcfbjbmaaAid
import Derived.WalkKit
namespace Go.Proofs.Ytahbgcjcfbjbmaa.QHalfFacts
open Go.RowKit

end Go.Proofs.Ytahbgcjcfbjbmaa.QHalfFacts
