/- FnMatches: for all texts of at most 2^47 - 4096 bytes the law returns true: a filter matches a subject, with wildcards or without, just if it matches whatever that matches. -/
import Derived.Test.YtgbdjinanflhaaaGFnMatchesx4
import Derived.Test.YtgbdjinanflhaaaPlFnMatches
namespace Go.Proofs.Ytgbdjinanflhaaa.Pure
open Go.RowKit Go.Proofs.Ytgbdjinanflhaaa.GFnMatches Go.Proofs.YtgbdjinanflhaaaW.PrintWords Go.Proofs.YtgbdjinanflhaaaW.PrintLast

theorem FnMatches : laws_FnMatches.Pure := Go.Proofs.Ytgbdjinanflhaaa.PlFnMatches.pure

end Go.Proofs.Ytgbdjinanflhaaa.Pure
