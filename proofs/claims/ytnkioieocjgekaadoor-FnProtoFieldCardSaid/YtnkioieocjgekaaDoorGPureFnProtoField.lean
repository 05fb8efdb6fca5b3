/- A whole field, by its type. -/
import Derived.Test.YtnkioieocjgekaaDoorGFnProtoFieldx3
import Derived.Test.YtnkioieocjgekaaDoorPlFnProtoField
namespace Go.Proofs.YtnkioieocjgekaaDoor.Pure
open Go.RowKit Go.Proofs.YtnkioieocjgekaaDoor.GFnProtoField Go.Proofs.YtnkioieocjgekaaDoorW.PrintWords Go.Proofs.YtnkioieocjgekaaDoorW.PrintLast

theorem FnProtoField : laws_FnProtoField.Pure := Go.Proofs.YtnkioieocjgekaaDoor.PlFnProtoField.pure

end Go.Proofs.YtnkioieocjgekaaDoor.Pure
