/- A number is read from the bytes that the format has for it, or none. -/
import Derived.Test.YtnkioieocjgekaaDoorGFnProtoVarintx2
import Derived.Test.YtnkioieocjgekaaDoorPlFnProtoVarint
namespace Go.Proofs.YtnkioieocjgekaaDoor.Pure
open Go.RowKit Go.Proofs.YtnkioieocjgekaaDoor.GFnProtoVarint Go.Proofs.YtnkioieocjgekaaDoorW.PrintWords Go.Proofs.YtnkioieocjgekaaDoorW.PrintLast

theorem FnProtoVarint : laws_FnProtoVarint.Pure := Go.Proofs.YtnkioieocjgekaaDoor.PlFnProtoVarint.pure

end Go.Proofs.YtnkioieocjgekaaDoor.Pure
