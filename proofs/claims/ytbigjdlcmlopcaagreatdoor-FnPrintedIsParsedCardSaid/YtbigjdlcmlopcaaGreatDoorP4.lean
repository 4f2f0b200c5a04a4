/- What is printed of an address is parsed to it: the law FnPrintedIsParsed returns true for every name, local part and domain. No conditions beyond the given statement's own. -/
import Derived.Test.YtbigjdlcmlopcaaGreatDoorRow4
import Derived.Test.YtbigjdlcmlopcaaGreatDoorZD
namespace Go.Proofs.YtbigjdlcmlopcaaGreatDoor
open Go.RowKit

/-- The statement of FnPrintedIsParsed. -/
theorem printedIsParsed : Rows.FnPrintedIsParsedCardSaid := card4 f4
#print axioms printedIsParsed
end Go.Proofs.YtbigjdlcmlopcaaGreatDoor
