/- A filter matches a subject with wildcards just if it matches it with a new word in the place of each, once and many times. -/
import Derived.Test.YtgbdjinanflhaaaGFnSubsetMeansx10
import Derived.Test.YtgbdjinanflhaaaPlFnSubsetMeans
namespace Go.Proofs.Ytgbdjinanflhaaa.Pure
open Go.RowKit Go.Proofs.Ytgbdjinanflhaaa.GFnSubsetMeans Go.Proofs.YtgbdjinanflhaaaW.PrintWords Go.Proofs.YtgbdjinanflhaaaW.PrintLast

theorem FnSubsetMeans : laws_FnSubsetMeans.Pure := Go.Proofs.Ytgbdjinanflhaaa.PlFnSubsetMeans.pure

end Go.Proofs.Ytgbdjinanflhaaa.Pure
