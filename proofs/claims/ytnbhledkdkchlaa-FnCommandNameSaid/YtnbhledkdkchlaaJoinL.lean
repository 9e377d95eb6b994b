/- bytes.Join laid at this program. (seat r2) -/
import Derived.Test.YtnbhledkdkchlaaCmdText
import Derived.Ground.SlbNamesProg
import Derived.Shelf.Lay
import Derived.Shelf.Bytes.SlJoin
namespace Go.Proofs
open Go.Shelf Go.Lib Go.RowKit
shelf_lay SlLaysJ.n14 Slb 14 at Try as Try.lays14
end Go.Proofs
