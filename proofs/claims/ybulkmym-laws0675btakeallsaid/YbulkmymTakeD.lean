/- collection.take, a hash's field. -/
import Derived.Test.YbulkmymTakeC
namespace Go.Proofs.Ybulkmym
open Go.RowKit Go.Lib

theorem grown_drew {w w2 : World} {row : Option Nat} (h : w.grownBy w2 row) : (w.drew).grownBy w2 row := ⟨h.os, h.tape, h.output, h.size, h.block⟩

set_option maxRecDepth 100000 in
set_option maxHeartbeats 3200000 in
theorem take_hash0 (cb ab ao n c i m l q l' q' : Nat) (p p' : Option Addr) (sc en vl els scs exs ens : Value) (xs : List Value) (w : World)
    (hC : Cn w cb 3 (.slice (some ⟨ab, ao, none⟩) n c) sc (.slice none 0 0) en i) (hE : En w (cb + 1) vl els scs exs ens) (ho : w.ownsRow (cb + 2) 34 1 els m xs) (hm : m ≤ 256) (hi : 2 * i + 1 < n) (hn : n ≤ 256) (hab : ab < cb)
    (hcell : w.cell? ⟨ab, ao + 2 * i, none⟩ = some (.slice p l q)) (hcell' : w.cell? ⟨ab, ao + (2 * i + 1), none⟩ = some (.slice p' l' q')) :
    Calls Yba.prog 4 #[.pointer (some ⟨cb, 0, none⟩), .pointer (some ⟨cb + 1, 0, none⟩)] w fun e w' => e = .returned (.tuple #[.int .i64 2, .int .i64 (wrap64 ((l : Int) + (l' : Int)))]) ∧
      Cn w' cb 3 (.slice (some ⟨ab, ao, none⟩) n c) sc (.slice none 0 0) en (i + 1) ∧ (∃ els', En w' (cb + 1) vl els' scs exs ens ∧ w'.ownsRow (cb + 2) 34 1 els' (m + 2) (xs ++ [.slice p l q, .slice p' l' q'])) ∧ Below cb w w' := by
  obtain ⟨i0, hi0, hz0, hz1, hz2⟩ := info_parts Yba.info34
  obtain ⟨c0, c17, _, _, _, c22, fz⟩ := hC.cells
  have HC := hide hC
  have HE := hide hE
  have HO := hide ho
  clear hC hE ho
  go_enter Yba.func4, Yba.ntmps4
  go_wp2_with fail
  have hw1 : ∃ w1, w1 = w.setCell ⟨cb, 22, none⟩ (.int .i64 ((i : Int) + 1)) := ⟨_, rfl⟩
  obtain ⟨w1, hw1⟩ := hw1
  rw [← hw1]
  have HC1 : Hid (Cn w1 cb 3 (.slice (some ⟨ab, ao, none⟩) n c) sc (.slice none 0 0) en (i + 1)) := by rw [hw1]; exact (unhide HC).take (i + 1)
  have HE1 : Hid (En w1 (cb + 1) vl els scs exs ens) := by rw [hw1]; exact (unhide HE).other (by simp) _
  have HO1 : Hid (w1.ownsRow (cb + 2) 34 1 els m xs) := by rw [hw1]; exact ownsRow_setCell_below (unhide HO) (by simp) _
  have HB1 : Hid (Below cb w w1) := show Below cb w w1 by rw [hw1]; exact (Below.refl _ _).setCell (p := ⟨cb, 22, none⟩) (Nat.le_refl _) _
  have hc1 : w1.cell? ⟨ab, ao + 2 * i, none⟩ = some (.slice p l q) := ((unhide HB1).cell (p := ⟨ab, ao + 2 * i, none⟩) hab).trans hcell
  have hc2 : w1.cell? ⟨ab, ao + (2 * i + 1), none⟩ = some (.slice p' l' q') := ((unhide HB1).cell (p := ⟨ab, ao + (2 * i + 1), none⟩) hab).trans hcell'
  clear c0 c17 c22 fz hw1 HC HE HO
  obtain ⟨_, c17, _, c19, _, _, _⟩ := (unhide HC1).cells
  have x1 : IntKind.i64.wrap (2 * (i : Int)) = ((2 * i : Nat) : Int) := by rw [IntKind.wrap_i64]; omega
  have x2 : IntKind.i64.wrap (2 * (i : Int) + 1) = ((2 * i + 1 : Nat) : Int) := by rw [IntKind.wrap_i64]; omega
  go_quiet (fail)
  have HC2 : Hid (Cn (w1.drewN nq) cb 3 (.slice (some ⟨ab, ao, none⟩) n c) sc (.slice none 0 0) en (i + 1)) := unhide HC1
  have HE2 : Hid (En (w1.drewN nq) (cb + 1) vl els scs exs ens) := unhide HE1
  have HO2 : Hid ((w1.drewN nq).ownsRow (cb + 2) 34 1 els m xs) := unhide HO1
  have HB2 : Hid (Below cb w (w1.drewN nq)) := below_drewN (unhide HB1) nq
  clear c17 c19 hc1 hc2 HC1 HE1 HO1 HB1 x1 x2
  generalize w1.drewN nq = w2 at *
  obtain ⟨_, _, _, c19, _, _, _⟩ := (unhide HC2).cells
  obtain ⟨_, e6, _, _, _, fz⟩ := (unhide HE2).cells
  have fz6 := fz 6
  clear fz
  have HFA : Hid (∀ o : Obj, (w2.alloc o).frozen? ⟨cb + 1, 6, none⟩ = false) := fun o => by obtain ⟨f, hr, _⟩ := unhide HE2; exact (hr.alloc o).frozen 6
  have HEA : Hid (∀ o : Obj, (w2.alloc o).cell? ⟨cb + 1, 6, none⟩ = some els) := fun o => by obtain ⟨f, hr, _, h6, _⟩ := unhide HE2; exact ((hr.alloc o).cell (by omega)).trans (by rw [h6])
  have lt1 : cb + 1 < w2.heap.size := (unhide HE2).lt
  have nb := (unhide HO2).lt
  have ae : els.ownBlock ≠ some (cb + 1) := fun h => by have := nb _ h; omega
  have NB : Hid (∀ j, els.ownBlock = some j → cb + 2 ≤ j) := fun j hj => (nb j hj).1
  clear nb
  go_wp2_with ((at_builtin; refine wpList_append_lies _ (by rfl) _ _ _ (by rfl) (cb + 2) 34 i0 _ 1 24 Yba.underlying22 hi0 hz0 hz1 hz2 rfl (by omega) els m xs (by rfl) ((unhide HO2).alloc _) ⟨w2.heap.size, 0, none⟩ 2 2 [.slice p l q, .slice p' l' q'] (by rfl) (by rfl) (World.news_of_block (cs := #[.slice p l q, .slice p' l' q']) (t := 34) (fr := (0, 0)) (heap_alloc_new w2 _)) (by simp [Value.oneCell']) (by omega) (by unfold maxLen; omega) (by omega) (by simp; omega) (w2.heap.size + 1) (by simp) ?_; intro g cap w3 hown hgrow hat hlt; have e62 : w3.cell? ⟨cb + 1, 6, none⟩ = some els := (hgrow.cell_far _ (by simp; omega) (Ne.symm ae)).trans (unhide HEA _); have fz62 : w3.frozen? ⟨cb + 1, 6, none⟩ = false := (hgrow.frozen_far _ (by simp; omega) (Ne.symm ae)).trans (unhide HFA _); have HR := hide (grown_st (unhide HC2) (unhide HE2) (unhide HB2) (grown_drew hgrow) (unhide NB)); have c193 := (unhide HR).1.cells.2.2.2.1; have HW := hide hown; clear hown hgrow hat hlt))
  go_ret2
  have HT := app_els (unhide HR) (unhide HW)
  exact ⟨rfl, HT.1, ⟨_, HT.2.1, HT.2.2.1⟩, HT.2.2.2⟩

theorem app_exs {w w2 : World} {cb n i : Nat} {k : Int} {el sc ex en vl els scs exs ens v : Value} {ys : List Value}
    (h : Cn w2 cb k el sc ex en i ∧ En w2 (cb + 1) vl els scs exs ens ∧ Below cb w w2) (hown : w2.ownsRow (cb + 2) 2 1 v n ys) :
    Cn (w2.setCell ⟨cb + 1, 8, none⟩ v) cb k el sc ex en i ∧ En (w2.setCell ⟨cb + 1, 8, none⟩ v) (cb + 1) vl els scs v ens ∧ (w2.setCell ⟨cb + 1, 8, none⟩ v).ownsRow (cb + 2) 2 1 v n ys ∧ Below cb w (w2.setCell ⟨cb + 1, 8, none⟩ v) :=
  ⟨h.1.other (by simp) _, h.2.1.setExs _, ownsRow_setCell_below hown (by simp) _, h.2.2.setCell (by simp) _⟩

set_option maxRecDepth 100000 in
set_option maxHeartbeats 3200000 in
theorem take_hash1 (cb ab ao n c i m l q l' q' xb ne ce me : Nat) (z : Int) (p p' : Option Addr) (sc en vl els scs exs ens : Value) (xs ys : List Value) (w : World)
    (hC : Cn w cb 3 (.slice (some ⟨ab, ao, none⟩) n c) sc (.slice (some ⟨xb, 0, none⟩) ne ce) en i) (hE : En w (cb + 1) vl els scs exs ens) (ho : w.ownsRow (cb + 2) 34 1 els m xs) (hos : w.ownsRow (cb + 2) 2 1 exs me ys) (hm : m ≤ 256) (hme : me ≤ 256) (hie : i < ne) (hxb : xb < cb) (hxc : w.cell? ⟨xb, i, none⟩ = some (.int .i64 z)) (hi : 2 * i + 1 < n) (hn : n ≤ 256) (hab : ab < cb)
    (hcell : w.cell? ⟨ab, ao + 2 * i, none⟩ = some (.slice p l q)) (hcell' : w.cell? ⟨ab, ao + (2 * i + 1), none⟩ = some (.slice p' l' q')) :
    Calls Yba.prog 4 #[.pointer (some ⟨cb, 0, none⟩), .pointer (some ⟨cb + 1, 0, none⟩)] w fun e w' => e = .returned (.tuple #[.int .i64 2, .int .i64 (wrap64 ((l : Int) + (l' : Int)))]) ∧
      Cn w' cb 3 (.slice (some ⟨ab, ao, none⟩) n c) sc (.slice (some ⟨xb, 0, none⟩) ne ce) en (i + 1) ∧ (∃ els' exs', En w' (cb + 1) vl els' scs exs' ens ∧ w'.ownsRow (cb + 2) 34 1 els' (m + 2) (xs ++ [.slice p l q, .slice p' l' q']) ∧ w'.ownsRow (cb + 2) 2 1 exs' (me + 1) (ys ++ [.int .i64 z])) ∧ Below cb w w' := by
  obtain ⟨i0, hi0, hz0, hz1, hz2⟩ := info_parts Yba.info34
  obtain ⟨j0, hj0, hy0, hy1, hy2⟩ := info_parts Yba.info2
  obtain ⟨c0, c17, _, _, _, c22, fz⟩ := hC.cells
  have HC := hide hC
  have HE := hide hE
  have HO := hide ho
  have HOS := hide hos
  clear hC hE ho hos
  go_enter Yba.func4, Yba.ntmps4
  go_wp2_with fail
  have hw1 : ∃ w1, w1 = w.setCell ⟨cb, 22, none⟩ (.int .i64 ((i : Int) + 1)) := ⟨_, rfl⟩
  obtain ⟨w1, hw1⟩ := hw1
  rw [← hw1]
  have HC1 : Hid (Cn w1 cb 3 (.slice (some ⟨ab, ao, none⟩) n c) sc (.slice (some ⟨xb, 0, none⟩) ne ce) en (i + 1)) := by rw [hw1]; exact (unhide HC).take (i + 1)
  have HE1 : Hid (En w1 (cb + 1) vl els scs exs ens) := by rw [hw1]; exact (unhide HE).other (by simp) _
  have HO1 : Hid (w1.ownsRow (cb + 2) 34 1 els m xs) := by rw [hw1]; exact ownsRow_setCell_below (unhide HO) (by simp) _
  have HOS1 : Hid (w1.ownsRow (cb + 2) 2 1 exs me ys) := by rw [hw1]; exact ownsRow_setCell_below (unhide HOS) (by simp) _
  have HB1 : Hid (Below cb w w1) := show Below cb w w1 by rw [hw1]; exact (Below.refl _ _).setCell (p := ⟨cb, 22, none⟩) (Nat.le_refl _) _
  have hc1 : w1.cell? ⟨ab, ao + 2 * i, none⟩ = some (.slice p l q) := ((unhide HB1).cell (p := ⟨ab, ao + 2 * i, none⟩) hab).trans hcell
  have hc2 : w1.cell? ⟨ab, ao + (2 * i + 1), none⟩ = some (.slice p' l' q') := ((unhide HB1).cell (p := ⟨ab, ao + (2 * i + 1), none⟩) hab).trans hcell'
  clear c0 c17 c22 fz hw1 HC HE HO HOS
  obtain ⟨_, c17, _, c19, _, _, _⟩ := (unhide HC1).cells
  have x1 : IntKind.i64.wrap (2 * (i : Int)) = ((2 * i : Nat) : Int) := by rw [IntKind.wrap_i64]; omega
  have x2 : IntKind.i64.wrap (2 * (i : Int) + 1) = ((2 * i + 1 : Nat) : Int) := by rw [IntKind.wrap_i64]; omega
  go_quiet (fail)
  have HC2 : Hid (Cn (w1.drewN nq) cb 3 (.slice (some ⟨ab, ao, none⟩) n c) sc (.slice (some ⟨xb, 0, none⟩) ne ce) en (i + 1)) := unhide HC1
  have HE2 : Hid (En (w1.drewN nq) (cb + 1) vl els scs exs ens) := unhide HE1
  have HO2 : Hid ((w1.drewN nq).ownsRow (cb + 2) 34 1 els m xs) := unhide HO1
  have HOS2 : Hid ((w1.drewN nq).ownsRow (cb + 2) 2 1 exs me ys) := unhide HOS1
  have HB2 : Hid (Below cb w (w1.drewN nq)) := below_drewN (unhide HB1) nq
  clear c17 c19 hc1 hc2 HC1 HE1 HO1 HOS1 HB1 x1 x2
  generalize w1.drewN nq = w2 at *
  obtain ⟨_, _, _, c19, _, _, _⟩ := (unhide HC2).cells
  obtain ⟨_, e6, _, _, _, fz⟩ := (unhide HE2).cells
  have fz6 := fz 6
  clear fz
  have HFA : Hid (∀ o : Obj, (w2.alloc o).frozen? ⟨cb + 1, 6, none⟩ = false) := fun o => by obtain ⟨f, hr, _⟩ := unhide HE2; exact (hr.alloc o).frozen 6
  have HEA : Hid (∀ o : Obj, (w2.alloc o).cell? ⟨cb + 1, 6, none⟩ = some els) := fun o => by obtain ⟨f, hr, _, h6, _⟩ := unhide HE2; exact ((hr.alloc o).cell (by omega)).trans (by rw [h6])
  have lt1 : cb + 1 < w2.heap.size := (unhide HE2).lt
  have nb := (unhide HO2).lt
  have ae : els.ownBlock ≠ some (cb + 1) := fun h => by have := nb _ h; omega
  have NB : Hid (∀ j, els.ownBlock = some j → cb + 2 ≤ j) := fun j hj => (nb j hj).1
  have RA : Hid (exs.ownBlock = none ∨ exs.ownBlock ≠ els.ownBlock) := rows_apart (unhide HOS2) (unhide HO2) (by decide)
  clear nb
  go_wp2_with ((at_builtin; refine wpList_append_lies _ (by rfl) _ _ _ (by rfl) (cb + 2) 34 i0 _ 1 24 Yba.underlying22 hi0 hz0 hz1 hz2 rfl (by omega) els m xs (by rfl) ((unhide HO2).alloc _) ⟨w2.heap.size, 0, none⟩ 2 2 [.slice p l q, .slice p' l' q'] (by rfl) (by rfl) (World.news_of_block (cs := #[.slice p l q, .slice p' l' q']) (t := 34) (fr := (0, 0)) (heap_alloc_new w2 _)) (by simp [Value.oneCell']) (by omega) (by unfold maxLen; omega) (by omega) (by simp; omega) (w2.heap.size + 1) (by simp) ?_; intro g cap w3 hown hgrow hat hlt; have e62 : w3.cell? ⟨cb + 1, 6, none⟩ = some els := (hgrow.cell_far _ (by simp; omega) (Ne.symm ae)).trans (unhide HEA _); have fz62 : w3.frozen? ⟨cb + 1, 6, none⟩ = false := (hgrow.frozen_far _ (by simp; omega) (Ne.symm ae)).trans (unhide HFA _); have HR := hide (grown_st (unhide HC2) (unhide HE2) (unhide HB2) (grown_drew hgrow) (unhide NB)); have c193 := (unhide HR).1.cells.2.2.2.1; have HW := hide hown; have HQ := hide (((unhide HOS2).alloc _).kept hgrow (unhide RA)); clear hown hgrow hat hlt))
  have HT := hide (app_els (unhide HR) (unhide HW))
  have HQ2 := hide (ownsRow_setCell_below (unhide HQ) (a := ⟨cb + 1, 6, none⟩) (by simp) (.slice (some ⟨g, 0, none⟩) (m + 2) cap))
  clear HR HW HQ e62 fz62 c193 HC2 HE2 HO2 HOS2 HB2 HFA HEA NB RA ae lt1 c19 e6 fz6
  generalize w3.setCell ⟨cb + 1, 6, none⟩ (.slice (some ⟨g, 0, none⟩) (m + 2) cap) = w4 at *
  generalize (Value.slice (some ⟨g, 0, none⟩) (m + 2) cap) = els4 at *
  obtain ⟨HC4, HE4, HO4, HB4⟩ := unhide HT
  have HC1 := hide HC4
  have HE1 := hide HE4
  have HO1 := hide HO4
  have HB1 := hide HB4
  clear HC4 HE4 HO4 HB4 HT
  have hxc1 : w4.cell? ⟨xb, i, none⟩ = some (.int .i64 z) := ((unhide HB1).cell (p := ⟨xb, i, none⟩) hxb).trans hxc
  obtain ⟨_, _, _, c19, _, _, _⟩ := (unhide HC1).cells
  obtain ⟨_, _, _, e8, _, fz⟩ := (unhide HE1).cells
  have fz8 := fz 8
  clear fz
  have HFA : Hid (∀ o : Obj, ((w4.alloc o).drew).frozen? ⟨cb + 1, 8, none⟩ = false) := fun o => by obtain ⟨f, hr, _⟩ := unhide HE1; exact (hr.alloc o).frozen 8
  have HEA : Hid (∀ o : Obj, ((w4.alloc o).drew).cell? ⟨cb + 1, 8, none⟩ = some exs) := fun o => by obtain ⟨f, hr, _, _, _, h8, _⟩ := unhide HE1; exact ((hr.alloc o).cell (by omega)).trans (by rw [h8])
  have lt1 : cb + 1 < w4.heap.size := (unhide HE1).lt
  have nb := (unhide HQ2).lt
  have ae : exs.ownBlock ≠ some (cb + 1) := fun h => by have := nb _ h; omega
  have NB : Hid (∀ j, exs.ownBlock = some j → cb + 2 ≤ j) := fun j hj => (nb j hj).1
  have RA : Hid (els4.ownBlock = none ∨ els4.ownBlock ≠ exs.ownBlock) := rows_apart (unhide HO1) (unhide HQ2) (by decide)
  clear nb
  have ne8 := World.new_ne w4 _ e8
  have hi0' : (0 : Int) ≤ (i : Int) := Int.natCast_nonneg _
  have hi1 : (i : Int) < (ne : Int) := by omega
  go_region_law ((refine step_append_lies _ (by rfl) _ _ _ (by rfl) (cb + 2) 2 j0 _ 1 8 Yba.underlying24 hj0 hy0 hy1 hy2 rfl (by omega) exs me ys (by rfl) (((unhide HQ2).alloc _).drew) ⟨w4.heap.size, 0, none⟩ 1 1 [.int .i64 z] (by rfl) (by rfl) (World.news_of_block (cs := #[.int .i64 z]) (t := 2) (fr := (0, 0)) (heap_alloc_new w4 _)) (by simp [Value.oneCell']) (by omega) (by unfold maxLen; omega) (by omega) (by simp; omega) (w4.heap.size + 1) (by simp) ?_; intro g cap w2 hown hgrow hat hlt; have e82 : w2.cell? ⟨cb + 1, 8, none⟩ = some exs := (hgrow.cell_far _ (by simp; omega) (Ne.symm ae)).trans (unhide HEA _); have fz82 : w2.frozen? ⟨cb + 1, 8, none⟩ = false := (hgrow.frozen_far _ (by simp; omega) (Ne.symm ae)).trans (unhide HFA _)))
  all_goals
    have HR := hide (app_exs (grown_st (unhide HC1) (unhide HE1) (unhide HB1) hgrow (unhide NB)) hown)
    have HE2 := hide (ownsRow_setCell_below (((unhide HO1).alloc _).drew.kept hgrow (unhide RA)) (a := ⟨cb + 1, 8, none⟩) (by simp) (.slice (some ⟨g, 0, none⟩) (me + 1) cap))
    clear hown hgrow hat hlt e82 fz82
    generalize w2.setCell ⟨cb + 1, 8, none⟩ (.slice (some ⟨g, 0, none⟩) (me + 1) cap) = w5 at *
    go_wp2_with fail
    go_ret2
    exact ⟨rfl, (unhide HR).1, ⟨_, _, (unhide HR).2.1, unhide HE2, (unhide HR).2.2.1⟩, (unhide HR).2.2.2⟩
end Go.Proofs.Ybulkmym
