/- FnNumTokens: for every text of at most 2^47 - 4096 bytes the law returns true: a subject of which something is said has as many tokens as the reference counts. -/
import Derived.Test.YtpgjcelglimpcaaPFnNumTokensx2
import Derived.Test.YtpgjcelglimpcaaPlFnNumTokens
namespace Go.Proofs.Ytpgjcelglimpcaa.Pure
open Go.RowKit Go.Proofs.Ytpgjcelglimpcaa.PFnNumTokens Go.Proofs.YtpgjcelglimpcaaW.PrintWords Go.Proofs.YtpgjcelglimpcaaW.PrintLast

theorem FnNumTokens : laws_FnNumTokens.Pure := Go.Proofs.Ytpgjcelglimpcaa.PlFnNumTokens.pure

end Go.Proofs.Ytpgjcelglimpcaa.Pure
