/-
  NARROWER THAN 'FOR EVERY INPUT', by the rows' own cells (each row's printed sentence says how): FnListKinds: laid · FnListFull: laid · FnListHas: laid · FnListUndone: laid · FnListMeans: laid.
  DERIVED. THE GIVEN ROWS OF THIS SEAT. 5 by the template 'for every input the law returns true; each argument reads behind the call as it read before'; 0 by the template 'total and deterministic' (their statements: YtimffhpnfdikoaaDoorTotals.lean).
  GIVEN WITH THE SEED: the statements are not yours to turn. If you find one false, say at which input.
  Laid BY PROGRAM, IN A SANDBOX (cutbox-rows.mjs): the forced cells as the released guide's own fill.sh prints them over the translation 62c31e6d352e54bd… (all of the seat's roots in one cut). By AI agents, Wed Nov 11 2026. No macro, syntax, notation, axiom, sorry.
-/
import Derived.Test.YtimffhpnfdikoaaDoorChecked
import GoSem.Claim
import GoSem.ClaimJoined
import GoSem.ClaimMapViews
import Derived.JoinedTies
import Derived.KernelRfl
namespace Go.Proofs.YtimffhpnfdikoaaDoor
/- THE CELL 'sum', in the pinned program and in every row, IS THE sha256 OF THE DUMP (.gsa) THAT YtimffhpnfdikoaaDoorProg.lean LOADS. Nothing in Lean hashes anything: it is a label: what it is worth is what the hold of that sum in a sandbox is worth. -/
noncomputable def Tryd.pinned : Pinned := { name := "ytimffhpnfdikoaadoor", sum := "62c31e6d352e54bd5b36521ad88f3d50bf8271529c3e5a6898bc2bf935b8a988", checked := Tryd.checked }
namespace Rows
def none {H : Type} : Left H := { results := [], args := [] }

/- WHAT THE LISTED PACKAGE-LEVEL VARIABLES READ AS WHEN THE CALL BEGINS. Each datum BY PROGRAM (the guide's laid-datum.mjs) off the statement by which the dump's own 'gosem.cut.vars' lays the variable. In a bare row this is a premise. The card (YtimffhpnfdikoaaDoorCards.lean) ties it to the program's text. -/
def laid_pub_tokenroad_pub_natsserver_server_gsl_ErrInvalidSubject {H : Type} : DataW H := .iface "*errors.errorString" (.ptr (.agg [.lit (.string [103, 115, 108, 58, 32, 105, 110, 118, 97, 108, 105, 100, 32, 115, 117, 98, 106, 101, 99, 116])]))
def laid_pub_tokenroad_pub_natsserver_server_gsl_ErrNotFound {H : Type} : DataW H := .iface "*errors.errorString" (.ptr (.agg [.lit (.string [103, 115, 108, 58, 32, 110, 111, 32, 109, 97, 116, 99, 104, 101, 115, 32, 102, 111, 117, 110, 100])]))

/-- 'laws.FnListKinds': WHATEVER THE INPUT: true; the input reads as it did. -/
def fnListKindsSpec : ChangeSpec := { name := "fnListKinds", fn := fun _ => fun
  | [d] => { results := [.lit (.bool true)], args := [d] }
  | _ => none }
def fnListKindsRow : OpenClaim := { program := "ytimffhpnfdikoaadoor", sum := "62c31e6d352e54bd5b36521ad88f3d50bf8271529c3e5a6898bc2bf935b8a988", func := "pub-tokenroad/laws.FnListKinds", spec := "fnListKinds", inPlace := ["(*sync.RWMutex).Lock", "internal/race.Read", "internal/race.Disable", "(*internal/sync.Mutex).Lock", "sync/atomic.CompareAndSwapInt32", "internal/race.Enable", "internal/race.Acquire", "(*internal/sync.Mutex).lockSlow", "internal/sync.runtime_canSpin", "internal/sync.runtime_doSpin", "internal/sync.throw", "internal/sync.runtime_nanotime", "internal/sync.runtime_SemacquireMutex", "sync/atomic.AddInt32", "sync.runtime_SemacquireRWMutex", "(*sync.RWMutex).Unlock", "internal/race.Release", "internal/race.ReleaseMerge", "sync.fatal", "sync.runtime_Semrelease", "(*internal/sync.Mutex).Unlock", "(*internal/sync.Mutex).unlockSlow", "internal/sync.fatal", "internal/sync.runtime_Semrelease", "(*sync.RWMutex).RLock", "sync.runtime_SemacquireRWMutexR", "(*sync.RWMutex).RUnlock", "(*sync.RWMutex).rUnlockSlow"], named := ["pub-tokenroad/pub/natsserver/server/gsl.ErrInvalidSubject", "pub-tokenroad/pub/natsserver/server/gsl.ErrNotFound"], apart := false, laid := [("pub-tokenroad/pub/natsserver/server/gsl.ErrInvalidSubject", laid_pub_tokenroad_pub_natsserver_server_gsl_ErrInvalidSubject), ("pub-tokenroad/pub/natsserver/server/gsl.ErrNotFound", laid_pub_tokenroad_pub_natsserver_server_gsl_ErrNotFound)] }
def FnListKindsSaid : Prop := fnListKindsRow.holds Tryd.pinned (OpenSpec.ofChange fnListKindsSpec)

/-- ITS FALSE NEIGHBOUR: 'it returns false'. Refute it at one input. -/
def fnListKindsWrong : ChangeSpec := { name := "fnListKinds", fn := fun _ => fun
  | [d] => { results := [.lit (.bool false)], args := [d] }
  | _ => none }
def FnListKindsWrongFalsely : Prop := fnListKindsRow.holds Tryd.pinned (OpenSpec.ofChange fnListKindsWrong)

/-- 'laws.FnListFull': WHATEVER THE INPUT: true; the input reads as it did. -/
def fnListFullSpec : ChangeSpec := { name := "fnListFull", fn := fun _ => fun
  | [d] => { results := [.lit (.bool true)], args := [d] }
  | _ => none }
def fnListFullRow : OpenClaim := { program := "ytimffhpnfdikoaadoor", sum := "62c31e6d352e54bd5b36521ad88f3d50bf8271529c3e5a6898bc2bf935b8a988", func := "pub-tokenroad/laws.FnListFull", spec := "fnListFull", inPlace := ["(*sync.RWMutex).Lock", "internal/race.Read", "internal/race.Disable", "(*internal/sync.Mutex).Lock", "sync/atomic.CompareAndSwapInt32", "internal/race.Enable", "internal/race.Acquire", "(*internal/sync.Mutex).lockSlow", "internal/sync.runtime_canSpin", "internal/sync.runtime_doSpin", "internal/sync.throw", "internal/sync.runtime_nanotime", "internal/sync.runtime_SemacquireMutex", "sync/atomic.AddInt32", "sync.runtime_SemacquireRWMutex", "(*sync.RWMutex).Unlock", "internal/race.Release", "internal/race.ReleaseMerge", "sync.fatal", "sync.runtime_Semrelease", "(*internal/sync.Mutex).Unlock", "(*internal/sync.Mutex).unlockSlow", "internal/sync.fatal", "internal/sync.runtime_Semrelease", "(*sync.RWMutex).RLock", "sync.runtime_SemacquireRWMutexR", "(*sync.RWMutex).RUnlock", "(*sync.RWMutex).rUnlockSlow"], named := ["pub-tokenroad/pub/natsserver/server/gsl.ErrInvalidSubject", "pub-tokenroad/pub/natsserver/server/gsl.ErrNotFound"], apart := false, laid := [("pub-tokenroad/pub/natsserver/server/gsl.ErrInvalidSubject", laid_pub_tokenroad_pub_natsserver_server_gsl_ErrInvalidSubject), ("pub-tokenroad/pub/natsserver/server/gsl.ErrNotFound", laid_pub_tokenroad_pub_natsserver_server_gsl_ErrNotFound)] }
def FnListFullSaid : Prop := fnListFullRow.holds Tryd.pinned (OpenSpec.ofChange fnListFullSpec)

/-- ITS FALSE NEIGHBOUR: 'it returns false'. Refute it at one input. -/
def fnListFullWrong : ChangeSpec := { name := "fnListFull", fn := fun _ => fun
  | [d] => { results := [.lit (.bool false)], args := [d] }
  | _ => none }
def FnListFullWrongFalsely : Prop := fnListFullRow.holds Tryd.pinned (OpenSpec.ofChange fnListFullWrong)

/-- 'laws.FnListHas': WHATEVER THE INPUT: true; the input reads as it did. -/
def fnListHasSpec : ChangeSpec := { name := "fnListHas", fn := fun _ => fun
  | [d1, d2] => { results := [.lit (.bool true)], args := [d1, d2] }
  | _ => none }
def fnListHasRow : OpenClaim := { program := "ytimffhpnfdikoaadoor", sum := "62c31e6d352e54bd5b36521ad88f3d50bf8271529c3e5a6898bc2bf935b8a988", func := "pub-tokenroad/laws.FnListHas", spec := "fnListHas", inPlace := ["(*sync.RWMutex).Lock", "internal/race.Read", "internal/race.Disable", "(*internal/sync.Mutex).Lock", "sync/atomic.CompareAndSwapInt32", "internal/race.Enable", "internal/race.Acquire", "(*internal/sync.Mutex).lockSlow", "internal/sync.runtime_canSpin", "internal/sync.runtime_doSpin", "internal/sync.throw", "internal/sync.runtime_nanotime", "internal/sync.runtime_SemacquireMutex", "sync/atomic.AddInt32", "sync.runtime_SemacquireRWMutex", "(*sync.RWMutex).Unlock", "internal/race.Release", "internal/race.ReleaseMerge", "sync.fatal", "sync.runtime_Semrelease", "(*internal/sync.Mutex).Unlock", "(*internal/sync.Mutex).unlockSlow", "internal/sync.fatal", "internal/sync.runtime_Semrelease", "(*sync.RWMutex).RLock", "sync.runtime_SemacquireRWMutexR", "(*sync.RWMutex).RUnlock", "(*sync.RWMutex).rUnlockSlow"], recurses := true, named := ["pub-tokenroad/pub/natsserver/server/gsl.ErrInvalidSubject", "pub-tokenroad/pub/natsserver/server/gsl.ErrNotFound"], apart := false, laid := [("pub-tokenroad/pub/natsserver/server/gsl.ErrInvalidSubject", laid_pub_tokenroad_pub_natsserver_server_gsl_ErrInvalidSubject), ("pub-tokenroad/pub/natsserver/server/gsl.ErrNotFound", laid_pub_tokenroad_pub_natsserver_server_gsl_ErrNotFound)] }
def FnListHasSaid : Prop := fnListHasRow.holds Tryd.pinned (OpenSpec.ofChange fnListHasSpec)

/-- ITS FALSE NEIGHBOUR: 'it returns false'. Refute it at one input. -/
def fnListHasWrong : ChangeSpec := { name := "fnListHas", fn := fun _ => fun
  | [d1, d2] => { results := [.lit (.bool false)], args := [d1, d2] }
  | _ => none }
def FnListHasWrongFalsely : Prop := fnListHasRow.holds Tryd.pinned (OpenSpec.ofChange fnListHasWrong)

/-- 'laws.FnListUndone': WHATEVER THE INPUT: true; the input reads as it did. -/
def fnListUndoneSpec : ChangeSpec := { name := "fnListUndone", fn := fun _ => fun
  | [d1, d2, d3] => { results := [.lit (.bool true)], args := [d1, d2, d3] }
  | _ => none }
def fnListUndoneRow : OpenClaim := { program := "ytimffhpnfdikoaadoor", sum := "62c31e6d352e54bd5b36521ad88f3d50bf8271529c3e5a6898bc2bf935b8a988", func := "pub-tokenroad/laws.FnListUndone", spec := "fnListUndone", inPlace := ["(*sync.RWMutex).Lock", "internal/race.Read", "internal/race.Disable", "(*internal/sync.Mutex).Lock", "sync/atomic.CompareAndSwapInt32", "internal/race.Enable", "internal/race.Acquire", "(*internal/sync.Mutex).lockSlow", "internal/sync.runtime_canSpin", "internal/sync.runtime_doSpin", "internal/sync.throw", "internal/sync.runtime_nanotime", "internal/sync.runtime_SemacquireMutex", "sync/atomic.AddInt32", "sync.runtime_SemacquireRWMutex", "(*sync.RWMutex).Unlock", "internal/race.Release", "internal/race.ReleaseMerge", "sync.fatal", "sync.runtime_Semrelease", "(*internal/sync.Mutex).Unlock", "(*internal/sync.Mutex).unlockSlow", "internal/sync.fatal", "internal/sync.runtime_Semrelease", "(*sync.RWMutex).RLock", "sync.runtime_SemacquireRWMutexR", "(*sync.RWMutex).RUnlock", "(*sync.RWMutex).rUnlockSlow"], unfollowed := true, recurses := true, named := ["pub-tokenroad/pub/natsserver/server/gsl.ErrInvalidSubject", "pub-tokenroad/pub/natsserver/server/gsl.ErrNotFound"], apart := false, laid := [("pub-tokenroad/pub/natsserver/server/gsl.ErrInvalidSubject", laid_pub_tokenroad_pub_natsserver_server_gsl_ErrInvalidSubject), ("pub-tokenroad/pub/natsserver/server/gsl.ErrNotFound", laid_pub_tokenroad_pub_natsserver_server_gsl_ErrNotFound)] }
def FnListUndoneSaid : Prop := fnListUndoneRow.holds Tryd.pinned (OpenSpec.ofChange fnListUndoneSpec)

/-- ITS FALSE NEIGHBOUR: 'it returns false'. Refute it at one input. -/
def fnListUndoneWrong : ChangeSpec := { name := "fnListUndone", fn := fun _ => fun
  | [d1, d2, d3] => { results := [.lit (.bool false)], args := [d1, d2, d3] }
  | _ => none }
def FnListUndoneWrongFalsely : Prop := fnListUndoneRow.holds Tryd.pinned (OpenSpec.ofChange fnListUndoneWrong)

/-- 'laws.FnListMeans': WHATEVER THE INPUT: true; the input reads as it did. -/
def fnListMeansSpec : ChangeSpec := { name := "fnListMeans", fn := fun _ => fun
  | [d1, d2] => { results := [.lit (.bool true)], args := [d1, d2] }
  | _ => none }
def fnListMeansRow : OpenClaim := { program := "ytimffhpnfdikoaadoor", sum := "62c31e6d352e54bd5b36521ad88f3d50bf8271529c3e5a6898bc2bf935b8a988", func := "pub-tokenroad/laws.FnListMeans", spec := "fnListMeans", inPlace := ["(*sync.RWMutex).Lock", "internal/race.Read", "internal/race.Disable", "(*internal/sync.Mutex).Lock", "sync/atomic.CompareAndSwapInt32", "internal/race.Enable", "internal/race.Acquire", "(*internal/sync.Mutex).lockSlow", "internal/sync.runtime_canSpin", "internal/sync.runtime_doSpin", "internal/sync.throw", "internal/sync.runtime_nanotime", "internal/sync.runtime_SemacquireMutex", "sync/atomic.AddInt32", "sync.runtime_SemacquireRWMutex", "(*sync.RWMutex).Unlock", "internal/race.Release", "internal/race.ReleaseMerge", "sync.fatal", "sync.runtime_Semrelease", "(*internal/sync.Mutex).Unlock", "(*internal/sync.Mutex).unlockSlow", "internal/sync.fatal", "internal/sync.runtime_Semrelease", "(*sync.RWMutex).RLock", "sync.runtime_SemacquireRWMutexR", "(*sync.RWMutex).RUnlock", "(*sync.RWMutex).rUnlockSlow", "internal/bytealg.abigen_runtime_cmpstring"], unfollowed := true, recurses := true, named := ["pub-tokenroad/pub/natsserver/server/gsl.ErrInvalidSubject", "pub-tokenroad/pub/natsserver/server/gsl.ErrNotFound"], apart := false, laid := [("pub-tokenroad/pub/natsserver/server/gsl.ErrInvalidSubject", laid_pub_tokenroad_pub_natsserver_server_gsl_ErrInvalidSubject), ("pub-tokenroad/pub/natsserver/server/gsl.ErrNotFound", laid_pub_tokenroad_pub_natsserver_server_gsl_ErrNotFound)] }
def FnListMeansSaid : Prop := fnListMeansRow.holds Tryd.pinned (OpenSpec.ofChange fnListMeansSpec)

/-- ITS FALSE NEIGHBOUR: 'it returns false'. Refute it at one input. -/
def fnListMeansWrong : ChangeSpec := { name := "fnListMeans", fn := fun _ => fun
  | [d1, d2] => { results := [.lit (.bool false)], args := [d1, d2] }
  | _ => none }
def FnListMeansWrongFalsely : Prop := fnListMeansRow.holds Tryd.pinned (OpenSpec.ofChange fnListMeansWrong)

/- THE SECOND FORM. 'bulk': how many values and letters a reading holds, each counted each time it is reached (what is shared counts as often as it is met; a slice's spare places count too). A statement '..UptoSaid' is the law's where the arguments, and the package variables that the reading takes, are together of bulk at most 1048576: NARROWER than '..Said'. Prove '..Said' where nothing that the law and all that it calls make is longer than what came in: it says more and counts as full. Else prove '..UptoSaid'. A law counts once. -/
mutual
def uptoBulk {H : Type} : DataW H → Nat
  | .lit (.string bytes) => bytes.length + 1
  | .lit _ => 1
  | .nil => 1
  | .ptr d => uptoBulk d + 1
  | .slice elems spare => uptoBulkAll elems + uptoBulkAll spare + 1
  | .agg parts => uptoBulkAll parts + 1
  | .iface _ d => uptoBulk d + 1
  | .map entries => uptoBulkEntries entries + 1
  | .held _ => 1
def uptoBulkAll {H : Type} : List (DataW H) → Nat
  | [] => 0
  | d :: r => uptoBulk d + uptoBulkAll r
def uptoBulkEntries {H : Type} : List (Lit × DataW H) → Nat
  | [] => 0
  | x :: r => uptoBulkEntry x + uptoBulkEntries r
def uptoBulkEntry {H : Type} : Lit × DataW H → Nat
  | (.string bytes, d) => bytes.length + uptoBulk d + 1
  | (_, d) => uptoBulk d + 1
 end
def uptoSmall : (H : Type) → List (DataW H) → Bool := fun _ ds => decide (uptoBulkAll ds ≤ 1048576)
def OpenSpec.upto (s : _root_.Go.ChangeSpec) : _root_.Go.OpenSpec := { _root_.Go.OpenSpec.ofChange s with cond := some uptoSmall }

/-- 'laws.FnListKinds', WHERE WHAT IT READS IS OF BULK AT MOST 1048576: true; the input reads as it did. -/
def fnListKindsUptoRow : OpenClaim := { program := "ytimffhpnfdikoaadoor", sum := "62c31e6d352e54bd5b36521ad88f3d50bf8271529c3e5a6898bc2bf935b8a988", func := "pub-tokenroad/laws.FnListKinds", spec := "fnListKinds", inPlace := ["(*sync.RWMutex).Lock", "internal/race.Read", "internal/race.Disable", "(*internal/sync.Mutex).Lock", "sync/atomic.CompareAndSwapInt32", "internal/race.Enable", "internal/race.Acquire", "(*internal/sync.Mutex).lockSlow", "internal/sync.runtime_canSpin", "internal/sync.runtime_doSpin", "internal/sync.throw", "internal/sync.runtime_nanotime", "internal/sync.runtime_SemacquireMutex", "sync/atomic.AddInt32", "sync.runtime_SemacquireRWMutex", "(*sync.RWMutex).Unlock", "internal/race.Release", "internal/race.ReleaseMerge", "sync.fatal", "sync.runtime_Semrelease", "(*internal/sync.Mutex).Unlock", "(*internal/sync.Mutex).unlockSlow", "internal/sync.fatal", "internal/sync.runtime_Semrelease", "(*sync.RWMutex).RLock", "sync.runtime_SemacquireRWMutexR", "(*sync.RWMutex).RUnlock", "(*sync.RWMutex).rUnlockSlow"], named := ["pub-tokenroad/pub/natsserver/server/gsl.ErrInvalidSubject", "pub-tokenroad/pub/natsserver/server/gsl.ErrNotFound"], apart := false, laid := [("pub-tokenroad/pub/natsserver/server/gsl.ErrInvalidSubject", laid_pub_tokenroad_pub_natsserver_server_gsl_ErrInvalidSubject), ("pub-tokenroad/pub/natsserver/server/gsl.ErrNotFound", laid_pub_tokenroad_pub_natsserver_server_gsl_ErrNotFound)], narrowed := true }
def FnListKindsUptoSaid : Prop := fnListKindsUptoRow.holds Tryd.pinned (OpenSpec.upto fnListKindsSpec)

/-- 'laws.FnListFull', WHERE WHAT IT READS IS OF BULK AT MOST 1048576: true; the input reads as it did. -/
def fnListFullUptoRow : OpenClaim := { program := "ytimffhpnfdikoaadoor", sum := "62c31e6d352e54bd5b36521ad88f3d50bf8271529c3e5a6898bc2bf935b8a988", func := "pub-tokenroad/laws.FnListFull", spec := "fnListFull", inPlace := ["(*sync.RWMutex).Lock", "internal/race.Read", "internal/race.Disable", "(*internal/sync.Mutex).Lock", "sync/atomic.CompareAndSwapInt32", "internal/race.Enable", "internal/race.Acquire", "(*internal/sync.Mutex).lockSlow", "internal/sync.runtime_canSpin", "internal/sync.runtime_doSpin", "internal/sync.throw", "internal/sync.runtime_nanotime", "internal/sync.runtime_SemacquireMutex", "sync/atomic.AddInt32", "sync.runtime_SemacquireRWMutex", "(*sync.RWMutex).Unlock", "internal/race.Release", "internal/race.ReleaseMerge", "sync.fatal", "sync.runtime_Semrelease", "(*internal/sync.Mutex).Unlock", "(*internal/sync.Mutex).unlockSlow", "internal/sync.fatal", "internal/sync.runtime_Semrelease", "(*sync.RWMutex).RLock", "sync.runtime_SemacquireRWMutexR", "(*sync.RWMutex).RUnlock", "(*sync.RWMutex).rUnlockSlow"], named := ["pub-tokenroad/pub/natsserver/server/gsl.ErrInvalidSubject", "pub-tokenroad/pub/natsserver/server/gsl.ErrNotFound"], apart := false, laid := [("pub-tokenroad/pub/natsserver/server/gsl.ErrInvalidSubject", laid_pub_tokenroad_pub_natsserver_server_gsl_ErrInvalidSubject), ("pub-tokenroad/pub/natsserver/server/gsl.ErrNotFound", laid_pub_tokenroad_pub_natsserver_server_gsl_ErrNotFound)], narrowed := true }
def FnListFullUptoSaid : Prop := fnListFullUptoRow.holds Tryd.pinned (OpenSpec.upto fnListFullSpec)

/-- 'laws.FnListHas', WHERE WHAT IT READS IS OF BULK AT MOST 1048576: true; the input reads as it did. -/
def fnListHasUptoRow : OpenClaim := { program := "ytimffhpnfdikoaadoor", sum := "62c31e6d352e54bd5b36521ad88f3d50bf8271529c3e5a6898bc2bf935b8a988", func := "pub-tokenroad/laws.FnListHas", spec := "fnListHas", inPlace := ["(*sync.RWMutex).Lock", "internal/race.Read", "internal/race.Disable", "(*internal/sync.Mutex).Lock", "sync/atomic.CompareAndSwapInt32", "internal/race.Enable", "internal/race.Acquire", "(*internal/sync.Mutex).lockSlow", "internal/sync.runtime_canSpin", "internal/sync.runtime_doSpin", "internal/sync.throw", "internal/sync.runtime_nanotime", "internal/sync.runtime_SemacquireMutex", "sync/atomic.AddInt32", "sync.runtime_SemacquireRWMutex", "(*sync.RWMutex).Unlock", "internal/race.Release", "internal/race.ReleaseMerge", "sync.fatal", "sync.runtime_Semrelease", "(*internal/sync.Mutex).Unlock", "(*internal/sync.Mutex).unlockSlow", "internal/sync.fatal", "internal/sync.runtime_Semrelease", "(*sync.RWMutex).RLock", "sync.runtime_SemacquireRWMutexR", "(*sync.RWMutex).RUnlock", "(*sync.RWMutex).rUnlockSlow"], recurses := true, named := ["pub-tokenroad/pub/natsserver/server/gsl.ErrInvalidSubject", "pub-tokenroad/pub/natsserver/server/gsl.ErrNotFound"], apart := false, laid := [("pub-tokenroad/pub/natsserver/server/gsl.ErrInvalidSubject", laid_pub_tokenroad_pub_natsserver_server_gsl_ErrInvalidSubject), ("pub-tokenroad/pub/natsserver/server/gsl.ErrNotFound", laid_pub_tokenroad_pub_natsserver_server_gsl_ErrNotFound)], narrowed := true }
def FnListHasUptoSaid : Prop := fnListHasUptoRow.holds Tryd.pinned (OpenSpec.upto fnListHasSpec)

/-- 'laws.FnListUndone', WHERE WHAT IT READS IS OF BULK AT MOST 1048576: true; the input reads as it did. -/
def fnListUndoneUptoRow : OpenClaim := { program := "ytimffhpnfdikoaadoor", sum := "62c31e6d352e54bd5b36521ad88f3d50bf8271529c3e5a6898bc2bf935b8a988", func := "pub-tokenroad/laws.FnListUndone", spec := "fnListUndone", inPlace := ["(*sync.RWMutex).Lock", "internal/race.Read", "internal/race.Disable", "(*internal/sync.Mutex).Lock", "sync/atomic.CompareAndSwapInt32", "internal/race.Enable", "internal/race.Acquire", "(*internal/sync.Mutex).lockSlow", "internal/sync.runtime_canSpin", "internal/sync.runtime_doSpin", "internal/sync.throw", "internal/sync.runtime_nanotime", "internal/sync.runtime_SemacquireMutex", "sync/atomic.AddInt32", "sync.runtime_SemacquireRWMutex", "(*sync.RWMutex).Unlock", "internal/race.Release", "internal/race.ReleaseMerge", "sync.fatal", "sync.runtime_Semrelease", "(*internal/sync.Mutex).Unlock", "(*internal/sync.Mutex).unlockSlow", "internal/sync.fatal", "internal/sync.runtime_Semrelease", "(*sync.RWMutex).RLock", "sync.runtime_SemacquireRWMutexR", "(*sync.RWMutex).RUnlock", "(*sync.RWMutex).rUnlockSlow"], unfollowed := true, recurses := true, named := ["pub-tokenroad/pub/natsserver/server/gsl.ErrInvalidSubject", "pub-tokenroad/pub/natsserver/server/gsl.ErrNotFound"], apart := false, laid := [("pub-tokenroad/pub/natsserver/server/gsl.ErrInvalidSubject", laid_pub_tokenroad_pub_natsserver_server_gsl_ErrInvalidSubject), ("pub-tokenroad/pub/natsserver/server/gsl.ErrNotFound", laid_pub_tokenroad_pub_natsserver_server_gsl_ErrNotFound)], narrowed := true }
def FnListUndoneUptoSaid : Prop := fnListUndoneUptoRow.holds Tryd.pinned (OpenSpec.upto fnListUndoneSpec)

/-- 'laws.FnListMeans', WHERE WHAT IT READS IS OF BULK AT MOST 1048576: true; the input reads as it did. -/
def fnListMeansUptoRow : OpenClaim := { program := "ytimffhpnfdikoaadoor", sum := "62c31e6d352e54bd5b36521ad88f3d50bf8271529c3e5a6898bc2bf935b8a988", func := "pub-tokenroad/laws.FnListMeans", spec := "fnListMeans", inPlace := ["(*sync.RWMutex).Lock", "internal/race.Read", "internal/race.Disable", "(*internal/sync.Mutex).Lock", "sync/atomic.CompareAndSwapInt32", "internal/race.Enable", "internal/race.Acquire", "(*internal/sync.Mutex).lockSlow", "internal/sync.runtime_canSpin", "internal/sync.runtime_doSpin", "internal/sync.throw", "internal/sync.runtime_nanotime", "internal/sync.runtime_SemacquireMutex", "sync/atomic.AddInt32", "sync.runtime_SemacquireRWMutex", "(*sync.RWMutex).Unlock", "internal/race.Release", "internal/race.ReleaseMerge", "sync.fatal", "sync.runtime_Semrelease", "(*internal/sync.Mutex).Unlock", "(*internal/sync.Mutex).unlockSlow", "internal/sync.fatal", "internal/sync.runtime_Semrelease", "(*sync.RWMutex).RLock", "sync.runtime_SemacquireRWMutexR", "(*sync.RWMutex).RUnlock", "(*sync.RWMutex).rUnlockSlow", "internal/bytealg.abigen_runtime_cmpstring"], unfollowed := true, recurses := true, named := ["pub-tokenroad/pub/natsserver/server/gsl.ErrInvalidSubject", "pub-tokenroad/pub/natsserver/server/gsl.ErrNotFound"], apart := false, laid := [("pub-tokenroad/pub/natsserver/server/gsl.ErrInvalidSubject", laid_pub_tokenroad_pub_natsserver_server_gsl_ErrInvalidSubject), ("pub-tokenroad/pub/natsserver/server/gsl.ErrNotFound", laid_pub_tokenroad_pub_natsserver_server_gsl_ErrNotFound)], narrowed := true }
def FnListMeansUptoSaid : Prop := fnListMeansUptoRow.holds Tryd.pinned (OpenSpec.upto fnListMeansSpec)

end Rows
end Go.Proofs.YtimffhpnfdikoaaDoor
