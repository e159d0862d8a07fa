/-
  NARROWER THAN 'FOR EVERY INPUT', by the rows' own cells (each row's printed sentence says how): LawS0663BReadyUnparked: laid.
  DERIVED. THE GIVEN ROWS OF THIS SEAT. 1 by the template 'for every input the law returns true; each argument reads behind the call as it read before'; 0 by the template 'total and deterministic' (their statements: YbulkmsaDoorTotals.lean).
  GIVEN WITH THE SEED: the statements are not yours to turn. If you find one false, say at which input.
  Laid BY PROGRAM, IN A SANDBOX (cutbox-rows.mjs): the forced cells as the released guide's own fill.sh prints them over the translation 53457cf834a25c55… (all of the seat's roots in one cut). By AI agents, Wed Nov 11 2026. No macro, syntax, notation, axiom, sorry.
-/
import Derived.Test.YbulkmsaDoorChecked
import GoSem.Claim
import GoSem.ClaimJoined
import GoSem.ClaimMapViews
import Derived.JoinedTies
import Derived.KernelRfl
namespace Go.Proofs.YbulkmsaDoor
/- THE CELL 'sum', in the pinned program and in every row, IS THE sha256 OF THE DUMP (.gsa) THAT YbulkmsaDoorProg.lean LOADS. Nothing in Lean hashes anything: it is a label: what it is worth is what the hold of that sum in a sandbox is worth. -/
noncomputable def Ybad.pinned : Pinned := { name := "ybulkmsadoor", sum := "53457cf834a25c5593ea69d2ff5db1c4ec3bd64d090440422bf918c619000f40", checked := Ybad.checked }
namespace Rows
def none {H : Type} : Left H := { results := [], args := [] }

/- WHAT THE LISTED PACKAGE-LEVEL VARIABLES READ AS WHEN THE CALL BEGINS. Each datum BY PROGRAM (the guide's laid-datum.mjs) off the statement by which the dump's own 'gosem.cut.vars' lays the variable. In a bare row this is a premise. The card (YbulkmsaDoorCards.lean) ties it to the program's text. -/
def laid_syscall_errEAGAIN {H : Type} : DataW H := .iface "syscall.Errno" (.lit (.int .u64 11))
def laid_syscall_errEINVAL {H : Type} : DataW H := .iface "syscall.Errno" (.lit (.int .u64 22))
def laid_syscall_errENOENT {H : Type} : DataW H := .iface "syscall.Errno" (.lit (.int .u64 2))

/-- 'httpserve.LawS0663BReadyUnparked': WHATEVER THE INPUT: true; the input reads as it did. -/
def lawS0663BReadyUnparkedSpec : ChangeSpec := { name := "lawS0663BReadyUnparked", fn := fun _ => fun
  | [d1, d2, d3] => { results := [.lit (.bool true)], args := [d1, d2, d3] }
  | _ => none }
def lawS0663BReadyUnparkedRow : OpenClaim := { program := "ybulkmsadoor", sum := "53457cf834a25c5593ea69d2ff5db1c4ec3bd64d090440422bf918c619000f40", func := "example.com/ledgerline/ledgerline/internal/httpserve.LawS0663BReadyUnparked", spec := "lawS0663BReadyUnparked", inPlace := ["(*internal/sync.Mutex).Lock", "internal/race.Disable", "sync/atomic.CompareAndSwapInt32", "internal/race.Enable", "internal/race.Acquire", "(*internal/sync.Mutex).lockSlow", "internal/sync.runtime_canSpin", "internal/sync.runtime_doSpin", "internal/sync.throw", "internal/sync.runtime_nanotime", "internal/sync.runtime_SemacquireMutex", "sync/atomic.AddInt32", "(*internal/sync.Mutex).Unlock", "internal/race.ReleaseMerge", "(*internal/sync.Mutex).unlockSlow", "internal/sync.fatal", "internal/sync.runtime_Semrelease", "internal/runtime/syscall/linux.Syscall6", "syscall.runtime_entersyscall", "syscall.runtime_exitsyscall"], named := ["syscall.errEAGAIN", "syscall.errEINVAL", "syscall.errENOENT"], apart := false, laid := [("syscall.errEAGAIN", laid_syscall_errEAGAIN), ("syscall.errEINVAL", laid_syscall_errEINVAL), ("syscall.errENOENT", laid_syscall_errENOENT)] }
def LawS0663BReadyUnparkedSaid : Prop := lawS0663BReadyUnparkedRow.holds Ybad.pinned (OpenSpec.ofChange lawS0663BReadyUnparkedSpec)

/-- ITS FALSE NEIGHBOUR: 'it returns false'. Refute it at one input. -/
def lawS0663BReadyUnparkedWrong : ChangeSpec := { name := "lawS0663BReadyUnparked", fn := fun _ => fun
  | [d1, d2, d3] => { results := [.lit (.bool false)], args := [d1, d2, d3] }
  | _ => none }
def LawS0663BReadyUnparkedWrongFalsely : Prop := lawS0663BReadyUnparkedRow.holds Ybad.pinned (OpenSpec.ofChange lawS0663BReadyUnparkedWrong)

end Rows
end Go.Proofs.YbulkmsaDoor
