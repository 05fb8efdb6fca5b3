/- FnMatchLiteral: for all texts of at most 2^47 - 4096 bytes the law returns true: a subject with wildcards matches a literal one just if they do token by token. -/
import Derived.Test.YtgbdjinanflhaaaQFnMatchLiteralx4
import Derived.Test.YtgbdjinanflhaaaPlFnMatchLiteral
namespace Go.Proofs.Ytgbdjinanflhaaa.Pure
open Go.RowKit Go.Proofs.Ytgbdjinanflhaaa.PFnMatchLiteral Go.Proofs.YtgbdjinanflhaaaW.PrintWords Go.Proofs.YtgbdjinanflhaaaW.PrintLast

theorem FnMatchLiteral : laws_FnMatchLiteral.Pure := Go.Proofs.Ytgbdjinanflhaaa.PlFnMatchLiteral.pure

end Go.Proofs.Ytgbdjinanflhaaa.Pure
