/- What FnUnreadReads plays: a script of one buffer, a read behind it, and the two calls that take its last byte back and read it again. -/
import Derived.Test.YtbodbajgpgaoeaaGreatDoorQ21
namespace Go.Proofs.YtbodbajgpgaoeaaGreatDoor
open Go Go.RowKit

end Go.Proofs.YtbodbajgpgaoeaaGreatDoor
