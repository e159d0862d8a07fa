/- The law LawS0663BReadyUnparked, walked. -/
import Derived.Test.YbulkmsaDoorM
import Derived.Deep.RegionWith
import Derived.Lib.Builder
namespace Go.Proofs.YbulkmsaDoor
open Go.RowKit

theorem info77 : (Ybad.prog.info? 77).isSome = true := by kernel_rfl
theorem neq_same (X : World) (a : Addr) : (binOp .neq 54 (.pointer (some a)) (.pointer (some a))).run Ybad.prog X = .ok (.bool false) X := by
  obtain ⟨j, hj⟩ := Option.isSome_iff_exists.1 info77
  exact Lib.run_neq_ptr_same X a Ybad.underlying54 hj

set_option maxRecDepth 100000 in
set_option maxHeartbeats 2000000 in
theorem law_any (busy : Bool) (d0 d1 : Int) (w : World) :
    Calls Ybad.prog 3 #[.bool busy, .int .i64 d0, .int .i64 d1] w fun e w' => e = .returned (.bool true) ∧ Below w.heap.size w w' := by
  have hmm := @run_makeMap Ybad.prog
  have hins := ins_new
  go_enter Ybad.func3, Ybad.ntmps3
  go_wp2_with fail
  refine (add_zero _ _).mono ?_
  rintro e w' ⟨wl, ex, hwl, rfl, rfl⟩
  go_wp2_with fail
  refine (add_zero _ _).mono ?_
  rintro e w' ⟨wl1, ex1, hwl1, rfl, rfl⟩
  go_wp2_with fail
  refine (ready_any _ _ _ _ (.int .u64 wl) (.int .i64 ex) (.pointer none) (.bool busy) _ ?_ ?_ ?_ ?_ ?_ ?_ ?_ ?_ ?_ ?_ ?_ ?_ ?_ ?_).mono ?_
  · go_simp
  · go_simp
  · go_simp
  · go_simp
  · go_simp
  · go_simp
  · go_simp
  · go_simp
  · go_simp
  · go_simp
  · go_simp
  · go_simp
  · simp
  · simp
  rintro e W ⟨rfl, nq, hW⟩
  have c26 : W.cell? ⟨w.heap.size + 1, 26, none⟩ = some (.int .u64 wl1) := by rw [hW]; simp [go_sem]
  have c27 : W.cell? ⟨w.heap.size + 1, 27, none⟩ = some (.int .i64 ex1) := by rw [hW]; simp [go_sem]
  have c28 : W.cell? ⟨w.heap.size + 1, 28, none⟩ = some (.pointer none) := by rw [hW]; simp [go_sem]
  have c29 : W.cell? ⟨w.heap.size + 1, 29, none⟩ = some (.bool false) := by rw [hW]; simp [go_sem]
  have c30 : W.cell? ⟨w.heap.size + 1, 30, none⟩ = some (.bool false) := by rw [hW]; simp [go_sem]
  have c0 : W.cell? ⟨w.heap.size + 1, 0, none⟩ = some (.int .i64 (-1)) := by rw [hW]; simp [go_sem]
  have c1 : W.cell? ⟨w.heap.size + 1, 1, none⟩ = some (.string { data := #[114] }) := by rw [hW]; simp [go_sem]
  have l12 : W.cell? ⟨w.heap.size + 1 + 1 + 1 + 1 + 1, 12, none⟩ = some (.map (some (w.heap.size + 1 + 1 + 1 + 1))) := by rw [hW]; simp [go_sem]
  have l13 : W.cell? ⟨w.heap.size + 1 + 1 + 1 + 1 + 1, 13, none⟩ = some (.bool false) := by rw [hW]; simp [go_sem]
  have n0 : W.cell? ⟨w.heap.size + 1 + 1 + 1 + 1 + 1 + 1 + 1 + 1, 0, none⟩ = some (.int .u64 wl1) := by rw [hW]; simp [go_sem]
  have n1 : W.cell? ⟨w.heap.size + 1 + 1 + 1 + 1 + 1 + 1 + 1 + 1, 1, none⟩ = some (.int .i64 ex1) := by rw [hW]; simp [go_sem]
  have n2 : W.cell? ⟨w.heap.size + 1 + 1 + 1 + 1 + 1 + 1 + 1 + 1, 2, none⟩ = some (.pointer none) := by rw [hW]; simp [go_sem]
  obtain ⟨hmap, hbel, hsz⟩ := mid hW
  clear hW
  have heq : Hid (Calls Ybad.prog 6 #[.agg #[.int .u64 wl1, .int .i64 ex1, .pointer none], .agg #[.int .u64 wl1, .int .i64 ex1, .pointer none]] W.drew fun e w' => e = .returned (.bool true) ∧
      (w'.cell? ⟨w.heap.size + 1, 29, none⟩ = some (.bool false) ∧ w'.cell? ⟨w.heap.size + 1, 30, none⟩ = some (.bool false) ∧ w'.cell? ⟨w.heap.size + 1, 0, none⟩ = some (.int .i64 (-1)) ∧ w'.cell? ⟨w.heap.size + 1, 1, none⟩ = some (.string { data := #[114] }) ∧
      w'.cell? ⟨w.heap.size + 1 + 1 + 1 + 1 + 1, 12, none⟩ = some (.map (some (w.heap.size + 1 + 1 + 1 + 1))) ∧ w'.cell? ⟨w.heap.size + 1 + 1 + 1 + 1 + 1, 13, none⟩ = some (.bool false)) ∧
      w'.heap[w.heap.size + 1 + 1 + 1 + 1]? = some (.map #[ent (.pointer (some ⟨w.heap.size + 1, 0, none⟩))] 1) ∧ Below w.heap.size w w') := by
    refine (equal_same wl1 ex1 W.drew hwl1).mono ?_
    rintro e w' ⟨rfl, rfl⟩
    have hb : Below W.heap.size W ((W.drew.alloc (.cells #[.int .u64 wl1, .int .i64 ex1, .pointer none] 75)).alloc (.cells #[.int .u64 wl1, .int .i64 ex1, .pointer none] 75)) :=
      (((Below.refl W.heap.size W).drew).alloc (Nat.le_refl _) _).alloc (by simp) _
    refine ⟨rfl, ⟨?_, ?_, ?_, ?_, ?_, ?_⟩, ?_, hbel.trans (hb.mono (by omega))⟩
    · rw [hb.cell (by show w.heap.size + 1 < W.heap.size; omega)]; exact c29
    · rw [hb.cell (by show w.heap.size + 1 < W.heap.size; omega)]; exact c30
    · rw [hb.cell (by show w.heap.size + 1 < W.heap.size; omega)]; exact c0
    · rw [hb.cell (by show w.heap.size + 1 < W.heap.size; omega)]; exact c1
    · rw [hb.cell (by show w.heap.size + 1 + 1 + 1 + 1 + 1 < W.heap.size; omega)]; exact l12
    · rw [hb.cell (by show w.heap.size + 1 + 1 + 1 + 1 + 1 < W.heap.size; omega)]; exact l13
    · rw [hb.block _ (by omega)]; exact hmap
  clear hmm hins
  clear c0 c1 c29 c30 l12 l13 hmap hbel
  go_wp2_with fail
  go_region_with (go_at_call 6; refine (unhide heq).mono ?_; rintro e w' ⟨rfl, ⟨d29, d30, d0, d1, m12, m13⟩, hmap, hbel⟩)
  all_goals
    clear heq c26 c27 c28 n0 n1 n2
    have hln := fun ty => len_one w' _ _ ty hmap
    have hlk := look_one w' _ _ hmap
    have hpn := fun (X : World) (a : Addr) => neq_same X a
    have HB := hide hbel
    clear hmap hbel
    go_wp2_with fail
    go_ret
    exact ⟨rfl, unhide HB⟩
end Go.Proofs.YbulkmsaDoor
