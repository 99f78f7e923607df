import Derived.Shelf.Lay
import Derived.Shelf.LaysM
import Derived.Shelf.Strconv.AppendIntPublic10
import Derived.Test.YbulkbrtmDoorProg
import Derived.Test.YbulkbrtmDoorRows
namespace Go.Proofs
open Go.Shelf
shelf_lay LaysM.n176 Nm 176 at Ybad as Ybad.laysM176
namespace YbulkbrtmDoor
/-- The name of the table that the decimal numerals are made by. -/
def tabName : String := Rows.lawS3418CLineRow.named.headD ""
end YbulkbrtmDoor
end Go.Proofs
