/- The loop's map of one connection. -/
import Derived.Test.YbulkmsaDoorC
namespace Go.Proofs.YbulkmsaDoor
open Go.RowKit

def ent (v : Value) : MapEntry := { key := .int .i64 (-1), val := v, born := 0 }

theorem isk : MapKept.IsKey (.int .i64) (.int .i64 (-1)) := rfl

theorem ins_new (W : World) (n : Nat) (v : Value) (hn : W.heap.size = n) :
    (Instr.mapUpdate 80 (.map (some n)) (.int .i64 (-1)) v).run Ybad.prog (W.alloc (.map #[] 0)) = .ok () (W.alloc (.map #[ent v] 1)) := by
  subst hn
  have hb := (MapKept.heap_alloc W (.map #[] 0)).1
  simp [Instr.mapUpdate, run_underlying Ybad.underlying80, MapKept.run_getObj_map hb, MapKept.run_checkKey Ybad.underlying3 isk, MapKept.run_findKey Ybad.underlying3 (show Instr.findNow (.int .i64) (.int .i64 (-1)) [] 0 = some none from rfl), MapKept.run_setObj_map _ hb, Result.andThen]
  have e : ∀ a c : Obj, (W.heap.push a).setIfInBounds W.heap.size c = W.heap.push c := by
    intro a c
    apply Array.toList_inj.1
    simp
  show ({ W with heap := (W.heap.push _).setIfInBounds W.heap.size _ } : World) = { W with heap := W.heap.push _ }
  rw [e]
  rfl

theorem len_one (W : World) (n : Nat) (v : Value) (ty : TypeId) (hb : W.heap[n]? = some (.map #[ent v] 1)) :
    (Builtin.len_ #[80] ty #[.map (some n)]).run Ybad.prog W = .ok (.int .i64 1) W := by
  simp [Builtin.len_, run_underlying Ybad.underlying80, MapKept.run_getObj_map hb]
  rfl

theorem look_one (W : World) (n : Nat) (v : Value) (hb : W.heap[n]? = some (.map #[ent v] 1)) :
    (Instr.lookup 80 (.map (some n)) (.int .i64 (-1)) false).run Ybad.prog W = .ok v W := by
  simp [Instr.lookup, run_underlying Ybad.underlying80, MapKept.run_getObj_map hb, MapKept.run_checkKey Ybad.underlying3 isk, MapKept.run_findKey Ybad.underlying3 (show Instr.findNow (.int .i64) (.int .i64 (-1)) [ent v] 0 = some (some (0, v)) from rfl)]

theorem blk_at (X : World) (o : Obj) (n : Nat) (h : X.heap.size = n) : (X.alloc o).heap[n]? = some o := by
  subst h; exact (MapKept.heap_alloc X o).1
theorem blk_below (X : World) (o : Obj) (n : Nat) (h : n < X.heap.size) : (X.alloc o).heap[n]? = X.heap[n]? := Below.heap_alloc _ _ _ h
theorem blk_set (X : World) (a : Addr) (v : Value) (n : Nat) (h : n ≠ a.block) : (X.setCell a v).heap[n]? = X.heap[n]? := Below.heap_setCell _ _ _ _ h

theorem below_drewN {B : Nat} {a w : World} (h : Below B a w) (n : Nat) : Below B a (w.drewN n) := ⟨h.os, h.tape, h.output, h.size, h.block⟩

theorem mid {w W : World} {A0 A1 A2 A3 A4 A5 A6 A7 A8 A9 : Obj} {v0 v1 v2 v3 v4 v5 v6 : Value} {nq : Nat}
    (hW : W = (((((((((((((((((w.alloc A0).alloc A1).alloc A2).alloc A3).alloc A4).alloc A5).alloc A6).alloc A7).alloc A8).setCell ⟨w.heap.size + 1 + 1 + 1 + 1 + 1, 10, none⟩ v0).setCell ⟨w.heap.size + 1, 26, none⟩ v1).setCell ⟨w.heap.size + 1, 27, none⟩ v2).setCell ⟨w.heap.size + 1, 28, none⟩ v3).setCell ⟨w.heap.size + 1, 29, none⟩ v4).setCell ⟨w.heap.size + 1, 30, none⟩ v5).setCell ⟨w.heap.size + 1 + 1 + 1 + 1 + 1, 10, none⟩ v6).alloc A9).drewN nq) :
    W.heap[w.heap.size + 1 + 1 + 1 + 1]? = some A4 ∧ Below w.heap.size w W ∧ w.heap.size + 10 ≤ W.heap.size := by
  subst hW
  refine ⟨?_, ?_, ?_⟩
  · rw [World.heap_drewN, blk_below, blk_set, blk_set, blk_set, blk_set, blk_set, blk_set, blk_set, blk_below, blk_below, blk_below, blk_below, blk_at]
    all_goals simp
    all_goals omega
  · have b0 := (Below.refl w.heap.size w).alloc (Nat.le_refl _) A0
    have b1 := b0.alloc (by simp; try omega) A1
    have b2 := b1.alloc (by simp; try omega) A2
    have b3 := b2.alloc (by simp; try omega) A3
    have b4 := b3.alloc (by simp; try omega) A4
    have b5 := b4.alloc (by simp; try omega) A5
    have b6 := b5.alloc (by simp; try omega) A6
    have b7 := b6.alloc (by simp; try omega) A7
    have b8 := b7.alloc (by simp; try omega) A8
    have b9 := b8.setCell (p := ⟨w.heap.size + 1 + 1 + 1 + 1 + 1, 10, none⟩) (by simp; try omega) v0
    have b10 := b9.setCell (p := ⟨w.heap.size + 1, 26, none⟩) (by simp; try omega) v1
    have b11 := b10.setCell (p := ⟨w.heap.size + 1, 27, none⟩) (by simp; try omega) v2
    have b12 := b11.setCell (p := ⟨w.heap.size + 1, 28, none⟩) (by simp; try omega) v3
    have b13 := b12.setCell (p := ⟨w.heap.size + 1, 29, none⟩) (by simp; try omega) v4
    have b14 := b13.setCell (p := ⟨w.heap.size + 1, 30, none⟩) (by simp; try omega) v5
    have b15 := b14.setCell (p := ⟨w.heap.size + 1 + 1 + 1 + 1 + 1, 10, none⟩) (by simp; try omega) v6
    exact below_drewN (b15.alloc (by simp [World.setCell]; try omega) A9) nq
  · simp [World.setCell]
end Go.Proofs.YbulkmsaDoor
