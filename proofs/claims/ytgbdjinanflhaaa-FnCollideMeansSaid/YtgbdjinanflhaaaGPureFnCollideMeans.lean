/- Of two subjects that collide a literal one is matched by both; of those that do not, none is. -/
import Derived.Test.YtgbdjinanflhaaaGFnCollideMeansx11
import Derived.Test.YtgbdjinanflhaaaPlFnCollideMeans
namespace Go.Proofs.Ytgbdjinanflhaaa.Pure
open Go.RowKit Go.Proofs.Ytgbdjinanflhaaa.GFnCollideMeans Go.Proofs.YtgbdjinanflhaaaW.PrintWords Go.Proofs.YtgbdjinanflhaaaW.PrintLast

theorem FnCollideMeans : laws_FnCollideMeans.Pure := Go.Proofs.Ytgbdjinanflhaaa.PlFnCollideMeans.pure

end Go.Proofs.Ytgbdjinanflhaaa.Pure
