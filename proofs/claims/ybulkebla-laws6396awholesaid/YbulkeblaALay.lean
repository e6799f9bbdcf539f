import Derived.Test.YbulkeblaALeaf
import Derived.Shelf.SlSortCmp.WholeK
import Derived.Shelf.SlSortFuncK.WholeK
import Derived.Shelf.SlicesE.Clone
import Derived.Shelf.GgSortFunc.Tiny
import Derived.Shelf.Lay
import Derived.Ground.SlsfProg
import Derived.Ground.GgsProg
import Derived.Ground.SlgnProg
/-! The shelf's contracts of sort.Slice (32), slices.SortFunc (9, 17), slices.Clone (8, 16), laid at this program. -/
namespace Go.Proofs
open Go.Shelf Go.RowKit Go.Lib Go.Sort

shelf_lay_g SlLaysF0.n6 Slsf 6 at Yba 9 as Yba.sortRun9
shelf_lay_g SlLaysF0.n6 Slsf 6 at Yba 17 as Yba.sortSpan17
shelf_lay LaysGg.n6 Ggs 6 at Yba as Yba.slice32
shelf_lay_g SlLaysE0.n41 Slgn 41 at Yba 8 as Yba.cloneRun8
shelf_lay_g SlLaysE0.n41 Slgn 41 at Yba 16 as Yba.cloneSpan16

end Go.Proofs
