/- A field's number and type. -/
import Derived.Test.YtnkioieocjgekaaDoorGFnProtoTagx2
import Derived.Test.YtnkioieocjgekaaDoorPlFnProtoTag
namespace Go.Proofs.YtnkioieocjgekaaDoor.Pure
open Go.RowKit Go.Proofs.YtnkioieocjgekaaDoor.GFnProtoTag Go.Proofs.YtnkioieocjgekaaDoorW.PrintWords Go.Proofs.YtnkioieocjgekaaDoorW.PrintLast

theorem FnProtoTag : laws_FnProtoTag.Pure := Go.Proofs.YtnkioieocjgekaaDoor.PlFnProtoTag.pure

end Go.Proofs.YtnkioieocjgekaaDoor.Pure
