/- Printed addresses with commas between them, and any blanks beside these, are parsed to all of them: the law FnPrintedListIsParsed returns true for every two lists of texts, every domain and every list of numbers. No conditions beyond the given statement's own. -/
import Derived.Test.YtbigjdlcmlopcaaGreatDoorRow5
namespace Go.Proofs.YtbigjdlcmlopcaaGreatDoor
open Go.RowKit

/-- The statement of FnPrintedListIsParsed. -/
theorem printedListIsParsed : Rows.FnPrintedListIsParsedCardSaid := card5
#print axioms printedListIsParsed
end Go.Proofs.YtbigjdlcmlopcaaGreatDoor
