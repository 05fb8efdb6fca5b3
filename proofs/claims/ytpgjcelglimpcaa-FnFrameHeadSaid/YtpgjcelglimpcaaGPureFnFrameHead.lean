/- The head of an unmasked frame, with a length in as few bytes as can be; compression is told by the first one alone. -/
import Derived.Test.YtpgjcelglimpcaaGFnFrameHeadx3
import Derived.Test.YtpgjcelglimpcaaPlFnFrameHead
namespace Go.Proofs.Ytpgjcelglimpcaa.Pure
open Go.RowKit Go.Proofs.Ytpgjcelglimpcaa.GFnFrameHead Go.Proofs.YtpgjcelglimpcaaW.PrintWords Go.Proofs.YtpgjcelglimpcaaW.PrintLast

theorem FnFrameHead : laws_FnFrameHead.Pure := Go.Proofs.Ytpgjcelglimpcaa.PlFnFrameHead.pure

end Go.Proofs.Ytpgjcelglimpcaa.Pure
