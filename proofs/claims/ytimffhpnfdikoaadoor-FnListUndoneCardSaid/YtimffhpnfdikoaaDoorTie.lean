/-
  DERIVED. GIVEN WITH THE SEED: THE PROGRAM's TIES (one call each: nine closed facts by the kernel) AND EACH ROW's TIE, after the 31st guide's Derived/Test/Toyas{Tie, Card}.lean. No idea stands in it: it is a product of the set-up. Laid BY PROGRAM, IN A SANDBOX (cutbox-door.mjs). By AI agents, Wed Nov 11 2026. No macro, syntax, notation, axiom, sorry.
-/
import Derived.Test.YtimffhpnfdikoaaDoorRows
import Derived.LaidByTextLater
import Derived.SevenTiedAt
import Derived.LaidSub
import Derived.LaidOnce
namespace Go.Proofs.YtimffhpnfdikoaaDoor
open Go
set_option maxRecDepth 100000
theorem seatTie1 : Tryd.prog.laidByTextLater [("pub-tokenroad/pub/natsserver/server/gsl.ErrInvalidSubject", Rows.laid_pub_tokenroad_pub_natsserver_server_gsl_ErrInvalidSubject), ("pub-tokenroad/pub/natsserver/server/gsl.ErrNotFound", Rows.laid_pub_tokenroad_pub_natsserver_server_gsl_ErrNotFound)] [.sentinel, .sentinel] true :=
  Program.laidByTextLater_by_one 47 8 2 (by kernel_rfl) (by kernel_rfl) (by kernel_rfl) (by kernel_rfl) (by kernel_rfl) (by kernel_rfl) (fun _ _ => by kernel_rfl)
theorem noOwnUnsafe : Tryd.pinned.checked.prog.headLifts.contains "ownunsafe" = false := by kernel_rfl
theorem tie : Tryd.prog.laidByTextLater [("pub-tokenroad/pub/natsserver/server/gsl.ErrInvalidSubject", Rows.laid_pub_tokenroad_pub_natsserver_server_gsl_ErrInvalidSubject), ("pub-tokenroad/pub/natsserver/server/gsl.ErrNotFound", Rows.laid_pub_tokenroad_pub_natsserver_server_gsl_ErrNotFound)] [.sentinel, .sentinel] true :=
  Program.laidByTextLater.sub seatTie1 ["pub-tokenroad/pub/natsserver/server/gsl.ErrInvalidSubject", "pub-tokenroad/pub/natsserver/server/gsl.ErrNotFound"] (by kernel_rfl) (by kernel_rfl)
theorem fnListKinds_row_tie : Rows.fnListKindsRow.laidByTextAt .later Tryd.pinned [.sentinel, .sentinel] true :=
  OpenClaim.laidByTextAt_later rfl rfl tie noOwnUnsafe
theorem fnListFull_row_tie : Rows.fnListFullRow.laidByTextAt .later Tryd.pinned [.sentinel, .sentinel] true :=
  OpenClaim.laidByTextAt_later rfl rfl tie noOwnUnsafe
theorem fnListHas_row_tie : Rows.fnListHasRow.laidByTextAt .later Tryd.pinned [.sentinel, .sentinel] true :=
  OpenClaim.laidByTextAt_later rfl rfl tie noOwnUnsafe
theorem fnListUndone_row_tie : Rows.fnListUndoneRow.laidByTextAt .later Tryd.pinned [.sentinel, .sentinel] true :=
  OpenClaim.laidByTextAt_later rfl rfl tie noOwnUnsafe
theorem fnListMeans_row_tie : Rows.fnListMeansRow.laidByTextAt .later Tryd.pinned [.sentinel, .sentinel] true :=
  OpenClaim.laidByTextAt_later rfl rfl tie noOwnUnsafe
theorem fnListKindsUpto_row_tie : Rows.fnListKindsUptoRow.laidByTextAt .later Tryd.pinned [.sentinel, .sentinel] true :=
  OpenClaim.laidByTextAt_later rfl rfl tie noOwnUnsafe
theorem fnListFullUpto_row_tie : Rows.fnListFullUptoRow.laidByTextAt .later Tryd.pinned [.sentinel, .sentinel] true :=
  OpenClaim.laidByTextAt_later rfl rfl tie noOwnUnsafe
theorem fnListHasUpto_row_tie : Rows.fnListHasUptoRow.laidByTextAt .later Tryd.pinned [.sentinel, .sentinel] true :=
  OpenClaim.laidByTextAt_later rfl rfl tie noOwnUnsafe
theorem fnListUndoneUpto_row_tie : Rows.fnListUndoneUptoRow.laidByTextAt .later Tryd.pinned [.sentinel, .sentinel] true :=
  OpenClaim.laidByTextAt_later rfl rfl tie noOwnUnsafe
theorem fnListMeansUpto_row_tie : Rows.fnListMeansUptoRow.laidByTextAt .later Tryd.pinned [.sentinel, .sentinel] true :=
  OpenClaim.laidByTextAt_later rfl rfl tie noOwnUnsafe
end Go.Proofs.YtimffhpnfdikoaaDoor
