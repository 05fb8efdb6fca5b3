/-
  DERIVED. GIVEN WITH THE SEED: THE PROGRAM's TIES (one call each: nine closed facts by the kernel) AND EACH ROW's TIE, after the 31st guide's Derived/Test/Toyas{Tie, Card}.lean. No idea stands in it: it is a product of the set-up. Laid BY PROGRAM, IN A SANDBOX (cutbox-door.mjs). By AI agents, Wed Nov 11 2026. No macro, syntax, notation, axiom, sorry.
-/
import Derived.Test.YtebgaedalbdhaaaDoorRows
import Derived.LaidByTextLater
import Derived.SevenTiedAt
import Derived.LaidSub
import Derived.LaidOnce
namespace Go.Proofs.YtebgaedalbdhaaaDoor
open Go
set_option maxRecDepth 100000
theorem seatTie1 : Tryd.prog.laidByTextLater [("math/bits.deBruijn64tab", Rows.laid_math_bits_deBruijn64tab), ("pub-tokenroad/pub/natsserver/server/avl.ErrBadEncoding", Rows.laid_pub_tokenroad_pub_natsserver_server_avl_ErrBadEncoding), ("pub-tokenroad/pub/natsserver/server/avl.ErrBadVersion", Rows.laid_pub_tokenroad_pub_natsserver_server_avl_ErrBadVersion), ("pub-tokenroad/pub/natsserver/server/avl.ErrSetNotEmpty", Rows.laid_pub_tokenroad_pub_natsserver_server_avl_ErrSetNotEmpty)] [.data, .sentinel, .sentinel, .sentinel] true :=
  Program.laidByTextLater_by_one 71 8 65 (by kernel_rfl) (by kernel_rfl) (by kernel_rfl) (by kernel_rfl) (by kernel_rfl) (by kernel_rfl) (fun _ _ => by kernel_rfl)
theorem noOwnUnsafe : Tryd.pinned.checked.prog.headLifts.contains "ownunsafe" = false := by kernel_rfl
theorem tie : Tryd.prog.laidByTextLater [("math/bits.deBruijn64tab", Rows.laid_math_bits_deBruijn64tab)] [.data] true :=
  Program.laidByTextLater.sub seatTie1 ["math/bits.deBruijn64tab"] (by kernel_rfl) (by kernel_rfl)
theorem fnSetExists_row_tie : Rows.fnSetExistsRow.laidByTextAt .later Tryd.pinned [.data] true :=
  OpenClaim.laidByTextAt_later rfl rfl tie noOwnUnsafe
theorem fnSetRun_row_tie : Rows.fnSetRunRow.laidByTextAt .later Tryd.pinned [.data] true :=
  OpenClaim.laidByTextAt_later rfl rfl tie noOwnUnsafe
theorem fnSetEmpty_row_tie : Rows.fnSetEmptyRow.laidByTextAt .later Tryd.pinned [.data] true :=
  OpenClaim.laidByTextAt_later rfl rfl tie noOwnUnsafe
theorem fnSetEqual_row_tie : Rows.fnSetEqualRow.laidByTextAt .later Tryd.pinned [.data] true :=
  OpenClaim.laidByTextAt_later rfl rfl tie noOwnUnsafe
theorem fnSetTurned_row_tie : Rows.fnSetTurnedRow.laidByTextAt .later Tryd.pinned [.data] true :=
  OpenClaim.laidByTextAt_later rfl rfl tie noOwnUnsafe
theorem fnSetSpan_row_tie : Rows.fnSetSpanRow.laidByTextAt .later Tryd.pinned [.data] true :=
  OpenClaim.laidByTextAt_later rfl rfl tie noOwnUnsafe
theorem fnSetSpanMeans_row_tie : Rows.fnSetSpanMeansRow.laidByTextAt .later Tryd.pinned [.data] true :=
  OpenClaim.laidByTextAt_later rfl rfl tie noOwnUnsafe
theorem tie2 : Tryd.prog.laidByTextLater [("math/bits.deBruijn64tab", Rows.laid_math_bits_deBruijn64tab), ("pub-tokenroad/pub/natsserver/server/avl.ErrSetNotEmpty", Rows.laid_pub_tokenroad_pub_natsserver_server_avl_ErrSetNotEmpty)] [.data, .sentinel] true :=
  Program.laidByTextLater.sub seatTie1 ["math/bits.deBruijn64tab", "pub-tokenroad/pub/natsserver/server/avl.ErrSetNotEmpty"] (by kernel_rfl) (by kernel_rfl)
theorem fnSetFrom_row_tie : Rows.fnSetFromRow.laidByTextAt .later Tryd.pinned [.data, .sentinel] true :=
  OpenClaim.laidByTextAt_later rfl rfl tie2 noOwnUnsafe
theorem tie3 : Tryd.prog.laidByTextLater [("math/bits.deBruijn64tab", Rows.laid_math_bits_deBruijn64tab), ("pub-tokenroad/pub/natsserver/server/avl.ErrBadEncoding", Rows.laid_pub_tokenroad_pub_natsserver_server_avl_ErrBadEncoding), ("pub-tokenroad/pub/natsserver/server/avl.ErrBadVersion", Rows.laid_pub_tokenroad_pub_natsserver_server_avl_ErrBadVersion)] [.data, .sentinel, .sentinel] true :=
  Program.laidByTextLater.sub seatTie1 ["math/bits.deBruijn64tab", "pub-tokenroad/pub/natsserver/server/avl.ErrBadEncoding", "pub-tokenroad/pub/natsserver/server/avl.ErrBadVersion"] (by kernel_rfl) (by kernel_rfl)
theorem fnSetCut_row_tie : Rows.fnSetCutRow.laidByTextAt .later Tryd.pinned [.data, .sentinel, .sentinel] true :=
  OpenClaim.laidByTextAt_later rfl rfl tie3 noOwnUnsafe
theorem fnSetExistsUpto_row_tie : Rows.fnSetExistsUptoRow.laidByTextAt .later Tryd.pinned [.data] true :=
  OpenClaim.laidByTextAt_later rfl rfl tie noOwnUnsafe
theorem fnSetRunUpto_row_tie : Rows.fnSetRunUptoRow.laidByTextAt .later Tryd.pinned [.data] true :=
  OpenClaim.laidByTextAt_later rfl rfl tie noOwnUnsafe
theorem fnSetEmptyUpto_row_tie : Rows.fnSetEmptyUptoRow.laidByTextAt .later Tryd.pinned [.data] true :=
  OpenClaim.laidByTextAt_later rfl rfl tie noOwnUnsafe
theorem fnSetEqualUpto_row_tie : Rows.fnSetEqualUptoRow.laidByTextAt .later Tryd.pinned [.data] true :=
  OpenClaim.laidByTextAt_later rfl rfl tie noOwnUnsafe
theorem fnSetTurnedUpto_row_tie : Rows.fnSetTurnedUptoRow.laidByTextAt .later Tryd.pinned [.data] true :=
  OpenClaim.laidByTextAt_later rfl rfl tie noOwnUnsafe
theorem fnSetFromUpto_row_tie : Rows.fnSetFromUptoRow.laidByTextAt .later Tryd.pinned [.data, .sentinel] true :=
  OpenClaim.laidByTextAt_later rfl rfl tie2 noOwnUnsafe
theorem fnSetSpanUpto_row_tie : Rows.fnSetSpanUptoRow.laidByTextAt .later Tryd.pinned [.data] true :=
  OpenClaim.laidByTextAt_later rfl rfl tie noOwnUnsafe
theorem fnSetSpanMeansUpto_row_tie : Rows.fnSetSpanMeansUptoRow.laidByTextAt .later Tryd.pinned [.data] true :=
  OpenClaim.laidByTextAt_later rfl rfl tie noOwnUnsafe
theorem fnSetCutUpto_row_tie : Rows.fnSetCutUptoRow.laidByTextAt .later Tryd.pinned [.data, .sentinel, .sentinel] true :=
  OpenClaim.laidByTextAt_later rfl rfl tie3 noOwnUnsafe
end Go.Proofs.YtebgaedalbdhaaaDoor
