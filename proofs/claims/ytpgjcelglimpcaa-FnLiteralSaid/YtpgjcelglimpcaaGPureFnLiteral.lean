/- A text without white space is a literal subject just if it is a subject, and no token is a wildcard. -/
import Derived.Test.YtpgjcelglimpcaaGFnLiteralx2
import Derived.Test.YtpgjcelglimpcaaPlFnLiteral
namespace Go.Proofs.Ytpgjcelglimpcaa.Pure
open Go.RowKit Go.Proofs.Ytpgjcelglimpcaa.GFnLiteral Go.Proofs.YtpgjcelglimpcaaW.PrintWords Go.Proofs.YtpgjcelglimpcaaW.PrintLast

theorem FnLiteral : laws_FnLiteral.Pure := Go.Proofs.Ytpgjcelglimpcaa.PlFnLiteral.pure

end Go.Proofs.Ytpgjcelglimpcaa.Pure
