/-
  DERIVED. GIVEN WITH THE SEED: THE PROGRAM's TIES (one call each: nine closed facts by the kernel) AND EACH ROW's TIE, after the 31st guide's Derived/Test/Toyas{Tie, Card}.lean. No idea stands in it: it is a product of the set-up. Laid BY PROGRAM, IN A SANDBOX (cutbox-door.mjs). By AI agents, Wed Nov 11 2026. No macro, syntax, notation, axiom, sorry.
-/
import Derived.Test.YbulkmsaDoorRows
import Derived.LaidByTextLater
import Derived.SevenTiedAt
import Derived.LaidSub
import Derived.LaidOnce
namespace Go.Proofs.YbulkmsaDoor
open Go
set_option maxRecDepth 100000
theorem seatTie1 : Ybad.prog.laidByTextLater [("syscall.errEAGAIN", Rows.laid_syscall_errEAGAIN), ("syscall.errEINVAL", Rows.laid_syscall_errEINVAL), ("syscall.errENOENT", Rows.laid_syscall_errENOENT)] [.wider, .wider, .wider] true :=
  Program.laidByTextLater_by_one 24 8 2 (by kernel_rfl) (by kernel_rfl) (by kernel_rfl) (by kernel_rfl) (by kernel_rfl) (by kernel_rfl) (fun _ _ => by kernel_rfl)
theorem noOwnUnsafe : Ybad.pinned.checked.prog.headLifts.contains "ownunsafe" = false := by kernel_rfl
theorem tie : Ybad.prog.laidByTextLater [("syscall.errEAGAIN", Rows.laid_syscall_errEAGAIN), ("syscall.errEINVAL", Rows.laid_syscall_errEINVAL), ("syscall.errENOENT", Rows.laid_syscall_errENOENT)] [.wider, .wider, .wider] true :=
  Program.laidByTextLater.sub seatTie1 ["syscall.errEAGAIN", "syscall.errEINVAL", "syscall.errENOENT"] (by kernel_rfl) (by kernel_rfl)
theorem lawS0663BReadyUnparked_row_tie : Rows.lawS0663BReadyUnparkedRow.laidByTextAt .later Ybad.pinned [.wider, .wider, .wider] true :=
  OpenClaim.laidByTextAt_later rfl rfl tie noOwnUnsafe
end Go.Proofs.YbulkmsaDoor
