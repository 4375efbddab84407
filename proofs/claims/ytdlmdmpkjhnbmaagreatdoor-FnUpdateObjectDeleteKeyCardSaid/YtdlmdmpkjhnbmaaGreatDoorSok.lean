/- The sort of strings at this translation: the library's contract, laid. -/
import Derived.Test.YtdlmdmpkjhnbmaaGreatDoorOdel
import Derived.Test.YtdlmdmpkjhnbmaaGreatDoorShf
namespace Go.Proofs.YtdlmdmpkjhnbmaaGreatDoor
theorem sort_ok : SortOk := fun blk off cap ss w h1 h2 h3 => Go.Proofs.Tryz.sort_Strings blk off cap ss w h1 h2 h3
end Go.Proofs.YtdlmdmpkjhnbmaaGreatDoor
