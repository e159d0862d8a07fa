import Derived.Test.YbulkmrmPlain
import Derived.Deep.RegionWith
namespace Go.Proofs.Ybulkmrm
open Go.RowKit Go.Maps Go.Deep

theorem info96 : (Yba.prog.info? 96).map (fun i => (i.zero, i.size, i.bytes)) = some (some (.agg #[.int .u64 0, .int .u64 0, .bool false, .int .i32 0]), 4, 24) := by kernel_rfl

def zrow (n : Nat) : Array Value := madeCells #[.int .u64 0, .int .u64 0, .bool false, .int .i32 0] (n * 4)

theorem run_mk (w : World) (n : Nat) (hn : n ≤ 1024) : (Instr.makeSlice 30 (.int .i64 n) (.int .i64 n)).run Yba.prog w = .ok (.slice (some ⟨w.heap.size, 0, none⟩) n n) (w.alloc (.cells (zrow n) 96)) := by
  obtain ⟨i, hi, hz0, hz1, hz2⟩ := info_parts info96
  have h := run_make (P := Yba.prog) w 30 96 i _ Yba.underlying30 hi hz0 .i64 .i64 n n (by omega) (by omega) (by rw [hz2]; omega) (by omega)
  simp only [Int.toNat_natCast, hz1] at h
  exact h

theorem row_zrow (w : World) (n : Nat) : (w.alloc (.cells (zrow n) 96)).rowIs w.heap.size 96 (n * 4) (flat fun _ => Pl.zero) := by
  refine ⟨zrow n, blk_alloc_new _ _, size_madeCells _ _, fun i hi => ?_⟩
  have h4 : i % 4 = 0 ∨ i % 4 = 1 ∨ i % 4 = 2 ∨ i % 4 = 3 := by omega
  simp only [zrow, madeCells, flat, cellP, Pl.zero]
  rcases h4 with h | h | h | h <;> simp [h, hi]

theorem row_put {w : World} {g n j : Nat} {pl : Nat → Pl} {p : Pl} {u : Bool} (h : w.rowIs g 96 n (flat pl)) (hu : p.used = u) :
    ((((w.setCell ⟨g, j * 4, none⟩ (.int .u64 p.id)).setCell ⟨g, j * 4 + 1, none⟩ (.int .u64 p.v)).setCell ⟨g, j * 4 + 2, none⟩ (.bool u)).setCell ⟨g, j * 4 + 3, none⟩ (.int .i32 p.sp)).rowIs g 96 n (flat (setPl pl j p)) := by
  subst hu
  exact ((((h.set _ _).set _ _).set _ _).set _ _).congr fun i _ => (flat_setPl pl j p i).symm

theorem below_drewN {B : Nat} {a w : World} (h : Below B a w) (n : Nat) : Below B a (w.drewN n) := h.trans ⟨rfl, rfl, rfl, Nat.le_refl _, fun _ _ => rfl⟩

theorem lt_of_cell {w : World} {b o : Nat} {v : Value} (h : w.cell? ⟨b, o, none⟩ = some v) : b < w.heap.size := by
  by_cases hb : b < w.heap.size
  · exact hb
  · simp [World.cell?, show w.heap[b]? = none from by simp; omega] at h

set_option maxHeartbeats 400000 in
theorem grow_any (b o pb L e : Nat) (pl : Nat → Pl) (w : World) (hL : L = 2 ^ e) (he : e ≤ 9) (hb : b ≠ pb)
    (hdr : w.cell? ⟨b, o, none⟩ = some (.slice (some ⟨pb, 0, none⟩) L L)) (hfr : w.frozen? ⟨b, o, none⟩ = false) 
    (hrow : w.rowIs pb 96 (L * 4) (flat pl)) (hfit : ∀ i, i < L → (pl i).used = true → (pl i).id % L = i) (hid : ∀ i, i < L → (pl i).id < 18446744073709551616) :
    Calls Yba.prog 15 #[.pointer (some ⟨b, o, none⟩)] w fun e w' => e = .returned (.tuple #[]) ∧ 
      Below w.heap.size (w.setCell ⟨b, o, none⟩ (.slice (some ⟨w.heap.size, 0, none⟩) (2 * L) (2 * L))) w' ∧ w'.heap.size = w.heap.size + 1 ∧ w'.rowIs w.heap.size 96 (2 * L * 4) (flat (growing pl L L)) := by
  have hpos : 0 < 2 ^ e := Nat.pow_pos (by omega)
  have h9 : 2 ^ e ≤ 2 ^ 9 := Nat.pow_le_pow_right (by omega) he
  have hL1 : 0 < L := by omega
  have hL2 : L ≤ 512 := by omega
  have hmk := fun W => run_mk W (2 * L) (by omega)
  simp only [Int.natCast_mul, Int.cast_ofNat_Int] at hmk
  clear hpos h9
  have hL' := hide hL
  clear hL
  have hbn : b < w.heap.size := lt_of_cell hdr
  have hpn := hrow.lt
  go_enter Yba.func15, Yba.ntmps15
  go_wp2
  clear hmk
  go_loopw [17] (fun i wr => ∃ k : Nat, k ≤ L ∧ i = .int .i64 k ∧ Below w.heap.size (w.setCell ⟨b, o, none⟩ (.slice (some ⟨w.heap.size, 0, none⟩) (2 * L) (2 * L))) wr ∧ wr.heap.size = w.heap.size + 1 ∧ wr.rowIs w.heap.size 96 (2 * L * 4) (flat (growing pl L k)))
    (fun i _ => L - (intOf i).toNat)
  case atStart =>
    refine ⟨0, by omega, rfl, (Below.refl _ _).alloc (by simp [World.setCell]) _, by simp [World.setCell, World.alloc], ?_⟩
    have h := row_zrow (w.setCell ⟨b, o, none⟩ (.slice (some ⟨w.heap.size, 0, none⟩) (2 * L) (2 * L))) (2 * L)
    have e : growing pl L 0 = fun _ => Pl.zero := funext fun j => growing_start pl L j
    rw [e]
    simpa [World.setCell] using h
  case round =>
    obtain ⟨k, hk, rfl, hbel, hsz, hnew⟩ := hrel
    by_cases hlt : k < L
    · have q0 : wr.cell? ⟨pb, k * 4, none⟩ = some (.int .u64 (pl k).id) := by rw [hbel.cell hpn, World.cell?_setCell_other _ _ _ _ (by simp), hrow.cell (by omega), flat0]
      have q1 : wr.cell? ⟨pb, k * 4 + 1, none⟩ = some (.int .u64 (pl k).v) := by rw [hbel.cell hpn, World.cell?_setCell_other _ _ _ _ (by simp), hrow.cell (by omega), flat1]
      have q2 : wr.cell? ⟨pb, k * 4 + 2, none⟩ = some (.bool (pl k).used) := by rw [hbel.cell hpn, World.cell?_setCell_other _ _ _ _ (by simp), hrow.cell (by omega), flat2]
      have q3 : wr.cell? ⟨pb, k * 4 + 3, none⟩ = some (.int .i32 (pl k).sp) := by rw [hbel.cell hpn, World.cell?_setCell_other _ _ _ _ (by simp), hrow.cell (by omega), flat3]
      have hd : wr.cell? ⟨b, o, none⟩ = some (.slice (some ⟨w.heap.size, 0, none⟩) (2 * L) (2 * L)) := by rw [hbel.cell hbn]; exact World.cell?_setCell_same _ _ _ hdr
      by_cases hu : (pl k).used = true
      · have hat : ∀ W : World, W.cell? ⟨b, o, none⟩ = some (.slice (some ⟨w.heap.size, 0, none⟩) (2 * L) (2 * L)) → Calls Yba.prog 12 #[.pointer (some ⟨b, o, none⟩), .int .u64 (pl k).id] W fun e w' => e = .returned (.pointer (some ⟨w.heap.size, ((pl k).id % (2 * L)) * 4, none⟩)) ∧ ∃ n, w' = W.drewN n := by
          intro W hW
          exact at_any b o w.heap.size (2 * L) (e + 1) _ W (by rw [hL'.out]; exact (Nat.pow_succ' ..).symm) (by omega) (hid k hlt) hW
        have hj : (pl k).id % (2 * L) < 2 * L := Nat.mod_lt _ (by omega)
        have HJ : Hid (growing pl L (k + 1) = setPl (growing pl L k) ((pl k).id % (2 * L)) (pl k)) := funext (growing_step pl L k hu (hfit k hlt hu))
        generalize (pl k).id % (2 * L) = j at *
        have t0 := hnew.cell (i := j * 4) (by omega)
        have t1 := hnew.cell (i := j * 4 + 1) (by omega)
        have t2 := hnew.cell (i := j * 4 + 2) (by omega)
        have t3 := hnew.cell (i := j * 4 + 3) (by omega)
        have f0 := hnew.frozen (j * 4)
        have f1 := hnew.frozen (j * 4 + 1)
        have f2 := hnew.frozen (j * 4 + 2)
        have f3 := hnew.frozen (j * 4 + 3)
        rw [flat0] at t0
        rw [flat1] at t1
        rw [flat2] at t2
        rw [flat3] at t3
        have hat' := hide hat
        have hfit' := hide hfit
        have hid' := hide hid
        clear hat hfit hid
        go_wp2
        go_region_with (go_at_call 12; refine (unhide hat' _ ?_).mono ?_; (go_simp); rintro e w' ⟨rfl, n, rfl⟩)
        all_goals
          go_wp2
          go_roundw
          case rel =>
            exact ⟨k + 1, by omega, by go_num, ((((below_drewN hbel _).setCell (Nat.le_refl _) _).setCell (Nat.le_refl _) _).setCell (Nat.le_refl _) _).setCell (Nat.le_refl _) _, by simpa [World.setCell] using hsz, by rw [HJ.out]; exact row_put (w := wr.drewN _) hnew hu⟩
          case measure => simp [intOf]; omega
      · have hu' : (pl k).used = false := by simpa using hu
        have HG : Hid (growing pl L (k + 1) = growing pl L k) := funext fun j => growing_skip pl L k j hu'
        clear hu hfit hid
        go_wp2
        go_roundw
        case rel => exact ⟨k + 1, by omega, by go_num, hbel, hsz, by rw [HG.out]; exact hnew⟩
        case measure => simp [intOf]; omega
    · have : k = L := by omega
      subst this
      clear hfit hid
      go_wp2
      go_end0
      exact ⟨rfl, hbel, hsz, hnew⟩
end Go.Proofs.Ybulkmrm
