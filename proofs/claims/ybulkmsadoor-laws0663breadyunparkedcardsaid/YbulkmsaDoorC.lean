/- loop.ready of a connection that is not parked; the law. -/
import Derived.Test.YbulkmsaDoorB
import Derived.BigQuiet
import Derived.Deep.QuietTactic
import Derived.RegionTactic
import Derived.Maps.OwnSet
namespace Go.Proofs.YbulkmsaDoor
open Go.RowKit

set_option maxRecDepth 100000 in
set_option maxHeartbeats 1000000 in
theorem ready_any (lb cb : Nat) (wl ex : Int) (v26 v27 v28 v29 : Value) (w : World) (hm : w.cell? ⟨lb, 10, none⟩ = some (.int .i32 0)) (hmf : w.frozen? ⟨lb, 10, none⟩ = false)
    (c26 : w.cell? ⟨cb, 26, none⟩ = some v26) (c27 : w.cell? ⟨cb, 27, none⟩ = some v27) (c28 : w.cell? ⟨cb, 28, none⟩ = some v28) (c29 : w.cell? ⟨cb, 29, none⟩ = some v29) (c30 : w.cell? ⟨cb, 30, none⟩ = some (.bool false))
    (f26 : w.frozen? ⟨cb, 26, none⟩ = false) (f27 : w.frozen? ⟨cb, 27, none⟩ = false) (f28 : w.frozen? ⟨cb, 28, none⟩ = false) (f29 : w.frozen? ⟨cb, 29, none⟩ = false) (f30 : w.frozen? ⟨cb, 30, none⟩ = false)
    (hl : lb < w.heap.size) (hc : cb < w.heap.size) :
    Calls Ybad.prog 5 #[.pointer (some ⟨lb, 0, none⟩), .pointer (some ⟨cb, 0, none⟩), .agg #[.int .u64 wl, .int .i64 ex, .pointer none]] w fun e w' => e = .returned (.tuple #[]) ∧
      ∃ n, w' = ((((((((w.setCell ⟨lb, 10, none⟩ (.int .i32 1)).setCell ⟨cb, 26, none⟩ (.int .u64 wl)).setCell ⟨cb, 27, none⟩ (.int .i64 ex)).setCell ⟨cb, 28, none⟩ (.pointer none)).setCell ⟨cb, 29, none⟩ (.bool false)).setCell ⟨cb, 30, none⟩ (.bool false)).setCell ⟨lb, 10, none⟩ (.int .i32 0)).alloc (.cells #[.int .u64 wl, .int .i64 ex, .pointer none] 75)).drewN n := by
  have hlk := hide (fun W h1 h2 => lock_free lb 10 W h1 h2)
  have huk := hide (fun W h1 h2 => unlock_held lb 10 W h1 h2)
  go_enter Ybad.func5, Ybad.ntmps5
  go_wp2_with fail
  refine (unhide hlk _ ?_ ?_).mono ?_
  · go_simp
  · go_simp
  rintro e w' ⟨rfl, rfl⟩
  go_wp2_with fail
  refine (unhide huk _ ?_ ?_).mono ?_
  · go_simp
  · go_simp
  rintro e w' ⟨rfl, rfl⟩
  go_wp2_with fail
  go_quiet (fail)
  go_wp2_with fail
  go_end0
  exact ⟨rfl, _, rfl⟩

end Go.Proofs.YbulkmsaDoor
