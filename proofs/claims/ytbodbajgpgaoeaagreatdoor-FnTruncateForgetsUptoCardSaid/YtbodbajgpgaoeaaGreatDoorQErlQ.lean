/- What the walk of FnWritesEarlier asks: laws.full, and what its script is. -/
import Derived.Test.YtbodbajgpgaoeaaGreatDoorQUrP
import Derived.Test.YtbodbajgpgaoeaaGreatDoorQ20
namespace Go.Proofs.YtbodbajgpgaoeaaGreatDoor
open Go Go.RowKit

end Go.Proofs.YtbodbajgpgaoeaaGreatDoor
