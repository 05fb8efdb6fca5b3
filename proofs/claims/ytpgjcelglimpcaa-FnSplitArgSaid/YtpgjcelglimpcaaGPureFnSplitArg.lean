/- The plain law of FnSplitArg. -/
import Derived.Test.YtpgjcelglimpcaaGFnSplitArgx2
import Derived.Test.YtpgjcelglimpcaaPlFnSplitArg
namespace Go.Proofs.Ytpgjcelglimpcaa.Pure
open Go.RowKit Go.Proofs.Ytpgjcelglimpcaa.GFnSplitArg Go.Proofs.YtpgjcelglimpcaaW.PrintWords Go.Proofs.YtpgjcelglimpcaaW.PrintLast

theorem FnSplitArg : laws_FnSplitArg.Pure := Go.Proofs.Ytpgjcelglimpcaa.PlFnSplitArg.pure

end Go.Proofs.Ytpgjcelglimpcaa.Pure
