/-
  DERIVED. GIVEN WITH THE SEED: THE PROGRAM's TIES (one call each: nine closed facts by the kernel) AND EACH ROW's TIE, after the 31st guide's Derived/Test/Toyas{Tie, Card}.lean. No idea stands in it: it is a product of the set-up. Laid BY PROGRAM, IN A SANDBOX (cutbox-door.mjs). By AI agents, Wed Nov 11 2026. No macro, syntax, notation, axiom, sorry.
-/
import Derived.Test.YtnkioieocjgekaaDoorRows
import Derived.LaidByTextLater
import Derived.SevenTiedAt
import Derived.LaidSub
import Derived.LaidOnce
namespace Go.Proofs.YtnkioieocjgekaaDoor
open Go
set_option maxRecDepth 100000
theorem seatTie1 : Tryd.prog.laidByTextLater [("pub-tokenroad/pub/natsserver/server.ErrMaxPayload", Rows.laid_pub_tokenroad_pub_natsserver_server_ErrMaxPayload), ("pub-tokenroad/pub/natsserver/server.ErrMsgHeadersNotSupported", Rows.laid_pub_tokenroad_pub_natsserver_server_ErrMsgHeadersNotSupported), ("pub-tokenroad/pub/natsserver/server.errProtoInsufficient", Rows.laid_pub_tokenroad_pub_natsserver_server_errProtoInsufficient), ("pub-tokenroad/pub/natsserver/server.errProtoOverflow", Rows.laid_pub_tokenroad_pub_natsserver_server_errProtoOverflow), ("pub-tokenroad/pub/natsserver/server.errProtoInvalidFieldNumber", Rows.laid_pub_tokenroad_pub_natsserver_server_errProtoInvalidFieldNumber)] [.sentinel, .sentinel, .sentinel, .sentinel, .sentinel] true :=
  Program.laidByTextLater_by_one 104 8 2 (by kernel_rfl) (by kernel_rfl) (by kernel_rfl) (by kernel_rfl) (by kernel_rfl) (by kernel_rfl) (fun _ _ => by kernel_rfl)
theorem noOwnUnsafe : Tryd.pinned.checked.prog.headLifts.contains "ownunsafe" = false := by kernel_rfl
theorem tie : Tryd.prog.laidByTextLater [("pub-tokenroad/pub/natsserver/server.ErrMaxPayload", Rows.laid_pub_tokenroad_pub_natsserver_server_ErrMaxPayload), ("pub-tokenroad/pub/natsserver/server.ErrMsgHeadersNotSupported", Rows.laid_pub_tokenroad_pub_natsserver_server_ErrMsgHeadersNotSupported)] [.sentinel, .sentinel] true :=
  Program.laidByTextLater.sub seatTie1 ["pub-tokenroad/pub/natsserver/server.ErrMaxPayload", "pub-tokenroad/pub/natsserver/server.ErrMsgHeadersNotSupported"] (by kernel_rfl) (by kernel_rfl)
theorem fnHeadPub_row_tie : Rows.fnHeadPubRow.laidByTextAt .later Tryd.pinned [.sentinel, .sentinel] true :=
  OpenClaim.laidByTextAt_later rfl rfl tie noOwnUnsafe
theorem tie2 : Tryd.prog.laidByTextLater [("pub-tokenroad/pub/natsserver/server.errProtoInsufficient", Rows.laid_pub_tokenroad_pub_natsserver_server_errProtoInsufficient), ("pub-tokenroad/pub/natsserver/server.errProtoOverflow", Rows.laid_pub_tokenroad_pub_natsserver_server_errProtoOverflow)] [.sentinel, .sentinel] true :=
  Program.laidByTextLater.sub seatTie1 ["pub-tokenroad/pub/natsserver/server.errProtoInsufficient", "pub-tokenroad/pub/natsserver/server.errProtoOverflow"] (by kernel_rfl) (by kernel_rfl)
theorem fnProtoVarint_row_tie : Rows.fnProtoVarintRow.laidByTextAt .later Tryd.pinned [.sentinel, .sentinel] true :=
  OpenClaim.laidByTextAt_later rfl rfl tie2 noOwnUnsafe
theorem tie3 : Tryd.prog.laidByTextLater [("pub-tokenroad/pub/natsserver/server.errProtoInsufficient", Rows.laid_pub_tokenroad_pub_natsserver_server_errProtoInsufficient), ("pub-tokenroad/pub/natsserver/server.errProtoOverflow", Rows.laid_pub_tokenroad_pub_natsserver_server_errProtoOverflow), ("pub-tokenroad/pub/natsserver/server.errProtoInvalidFieldNumber", Rows.laid_pub_tokenroad_pub_natsserver_server_errProtoInvalidFieldNumber)] [.sentinel, .sentinel, .sentinel] true :=
  Program.laidByTextLater.sub seatTie1 ["pub-tokenroad/pub/natsserver/server.errProtoInsufficient", "pub-tokenroad/pub/natsserver/server.errProtoOverflow", "pub-tokenroad/pub/natsserver/server.errProtoInvalidFieldNumber"] (by kernel_rfl) (by kernel_rfl)
theorem fnProtoTag_row_tie : Rows.fnProtoTagRow.laidByTextAt .later Tryd.pinned [.sentinel, .sentinel, .sentinel] true :=
  OpenClaim.laidByTextAt_later rfl rfl tie3 noOwnUnsafe
theorem fnProtoField_row_tie : Rows.fnProtoFieldRow.laidByTextAt .later Tryd.pinned [.sentinel, .sentinel, .sentinel] true :=
  OpenClaim.laidByTextAt_later rfl rfl tie3 noOwnUnsafe
theorem fnHeadPubUpto_row_tie : Rows.fnHeadPubUptoRow.laidByTextAt .later Tryd.pinned [.sentinel, .sentinel] true :=
  OpenClaim.laidByTextAt_later rfl rfl tie noOwnUnsafe
theorem fnProtoVarintUpto_row_tie : Rows.fnProtoVarintUptoRow.laidByTextAt .later Tryd.pinned [.sentinel, .sentinel] true :=
  OpenClaim.laidByTextAt_later rfl rfl tie2 noOwnUnsafe
theorem fnProtoTagUpto_row_tie : Rows.fnProtoTagUptoRow.laidByTextAt .later Tryd.pinned [.sentinel, .sentinel, .sentinel] true :=
  OpenClaim.laidByTextAt_later rfl rfl tie3 noOwnUnsafe
theorem fnProtoFieldUpto_row_tie : Rows.fnProtoFieldUptoRow.laidByTextAt .later Tryd.pinned [.sentinel, .sentinel, .sentinel] true :=
  OpenClaim.laidByTextAt_later rfl rfl tie3 noOwnUnsafe
end Go.Proofs.YtnkioieocjgekaaDoor
