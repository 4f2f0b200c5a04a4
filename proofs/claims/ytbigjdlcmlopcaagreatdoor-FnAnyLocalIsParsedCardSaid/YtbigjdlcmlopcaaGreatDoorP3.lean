/- An address whose part ahead of the sign @ is any text of printable signs of ASCII, and blanks, is printed so that it is parsed to it: the law FnAnyLocalIsParsed returns true for every name, local part and domain. No conditions beyond the given statement's own. -/
import Derived.Test.YtbigjdlcmlopcaaGreatDoorRow
import Derived.Test.YtbigjdlcmlopcaaGreatDoorZD
namespace Go.Proofs.YtbigjdlcmlopcaaGreatDoor
open Go.RowKit

/-- The statement of FnAnyLocalIsParsed. -/
theorem anyLocalIsParsed : Rows.FnAnyLocalIsParsedCardSaid := card f3
#print axioms anyLocalIsParsed
end Go.Proofs.YtbigjdlcmlopcaaGreatDoor
