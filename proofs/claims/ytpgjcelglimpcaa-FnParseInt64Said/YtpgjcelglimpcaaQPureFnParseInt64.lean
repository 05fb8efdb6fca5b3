/- FnParseInt64: for all bytes the law returns true: a number that 63 bits hold is read, or none; of a greater number nothing is said. -/
import Derived.Test.YtpgjcelglimpcaaQFnParseInt64x2
import Derived.Test.YtpgjcelglimpcaaPlFnParseInt64
namespace Go.Proofs.Ytpgjcelglimpcaa.Pure
open Go.RowKit Go.Proofs.Ytpgjcelglimpcaa.PFnParseInt64 Go.Proofs.YtpgjcelglimpcaaW.PrintWords Go.Proofs.YtpgjcelglimpcaaW.PrintLast

theorem FnParseInt64 : laws_FnParseInt64.Pure := Go.Proofs.Ytpgjcelglimpcaa.PlFnParseInt64.pure

end Go.Proofs.Ytpgjcelglimpcaa.Pure
