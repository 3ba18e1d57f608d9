import Derived.Test.YbulkecacRows
import Derived.Shelf.SlGeneric
import Derived.Shelf.SlSortCmp.WholeK
import Derived.Shelf.SlicesE.Equal
import Derived.Shelf.SlicesE.Compact
import Derived.Ground.SlsfProg
import Derived.Ground.SlgnProg
namespace Go.Proofs
open Go.Shelf
shelf_lay_g SlLaysF0.n6 Slsf 6 at Yba 19 as Yba.lsf
shelf_lay_g SlLaysE.n43 Slgn 43 at Yba 14 as Yba.lco
shelf_lay_g SlLaysE.n33 Slgn 33 at Yba 15 as Yba.leq
end Go.Proofs
