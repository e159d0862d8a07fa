/- The numbers under which this dump holds sync.Mutex, and that it holds the library's text of it. -/
import Derived.Test.YbulkmsaDoorRows
import Derived.Conc.MuLone
import Derived.WalkKit
import Derived.WalkSpells
namespace Go.Proofs.YbulkmsaDoor
open Go.RowKit

abbrev muLink : Go.Conc.Locks.MuLink := { lock := 11, unlock := 12, ilock := 16, iunlock := 17, lockSlow := 32, unlockSlow := 35, disable := 28, enable := 30, acquire := 31, relMerge := 33, cas32 := 29, add32 := 34, tMutex := 43, tIMutex := 41, tPMutex := 100, tPIMutex := 142, tPI32 := 144, tUP := 138, tNoCopy := 33, tU32 := 30 }
theorem muLib : Go.Conc.Locks.MuLib Ybad.prog muLink :=
  ⟨Ybad.func11, Ybad.func12, Ybad.func16, Ybad.func17, Ybad.func28, Ybad.func30, Ybad.func31, Ybad.func33, Ybad.func29, Ybad.func34, Ybad.underlying41, Ybad.runUnderlying41, Ybad.sizeOf41, Ybad.isAgg41, Ybad.zeroValue41, Ybad.underlying43, Ybad.runUnderlying43, Ybad.sizeOf43, Ybad.isAgg43, Ybad.zeroValue43, Ybad.underlying100, Ybad.runUnderlying100, Ybad.sizeOf100, Ybad.isAgg100, Ybad.zeroValue100, Ybad.underlying142, Ybad.runUnderlying142, Ybad.sizeOf142, Ybad.isAgg142, Ybad.zeroValue142, Ybad.underlying144, Ybad.runUnderlying144, Ybad.sizeOf144, Ybad.isAgg144, Ybad.zeroValue144, Ybad.underlying138, Ybad.runUnderlying138, Ybad.sizeOf138, Ybad.isAgg138, Ybad.zeroValue138, Ybad.underlying33, Ybad.runUnderlying33, Ybad.sizeOf33, Ybad.isAgg33, Ybad.zeroValue33, Ybad.underlying21, Ybad.runUnderlying21, Ybad.sizeOf21, Ybad.isAgg21, Ybad.zeroValue21, (by kernel_rfl)⟩

theorem lock_free (b o : Nat) (w : World) (hc : w.cell? ⟨b, o, none⟩ = some (.int .i32 0)) (hz : w.frozen? ⟨b, o, none⟩ = false) :
    Calls Ybad.prog 11 #[.pointer (some ⟨b, o, none⟩)] w fun e w' => e = .returned (.tuple #[]) ∧ w' = w.setCell ⟨b, o, none⟩ (.int .i32 1) :=
  Go.MuLone.lock_free muLib ⟨b, o, none⟩ w hc hz
theorem unlock_held (b o : Nat) (w : World) (hc : w.cell? ⟨b, o, none⟩ = some (.int .i32 1)) (hz : w.frozen? ⟨b, o, none⟩ = false) :
    Calls Ybad.prog 12 #[.pointer (some ⟨b, o, none⟩)] w fun e w' => e = .returned (.tuple #[]) ∧ w' = w.setCell ⟨b, o, none⟩ (.int .i32 0) :=
  Go.MuLone.unlock_held muLib ⟨b, o, none⟩ w hc hz
end Go.Proofs.YbulkmsaDoor
