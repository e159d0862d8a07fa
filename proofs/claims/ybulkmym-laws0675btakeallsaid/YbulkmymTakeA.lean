/- collection.take, a list's or a set's item. -/
import Derived.Test.YbulkmymMem
import Derived.StillTactics
import Derived.OwnWalk
import Derived.Laws.Pointers
import Derived.Deep.RegionHeld3
import Derived.Deep.RegionLaw
namespace Go.Proofs.Ybulkmym
open Go.RowKit Go.Lib

/-- The memory behind an append of the entry's. -/
theorem grown_st {w w1 w2 : World} {cb i : Nat} {k : Int} {el sc ex en vl els scs exs ens : Value} {o : Obj} {row : Option Nat}
    (hC : Cn w1 cb k el sc ex en i) (hE : En w1 (cb + 1) vl els scs exs ens) (hB : Below cb w w1) (hgrow : ((w1.alloc o).drew).grownBy w2 row) (hr : ∀ j, row = some j → cb + 2 ≤ j) :
    Cn w2 cb k el sc ex en i ∧ En w2 (cb + 1) vl els scs exs ens ∧ Below cb w w2 := by
  have l1 := hC.lt
  have l2 := hE.lt
  have hsz : ((w1.alloc o).drew).heap.size = w1.heap.size + 1 := by simp [go_sem]
  have b1 : w2.heap[cb]? = w1.heap[cb]? := (hgrow.block cb (by omega) (fun h => by have := hr _ h.symm; omega)).trans (Go.Deep.blk_alloc_lt _ _ _ l1)
  have b2 : w2.heap[cb + 1]? = w1.heap[cb + 1]? := (hgrow.block (cb + 1) (by omega) (fun h => by have := hr _ h.symm; omega)).trans (Go.Deep.blk_alloc_lt _ _ _ l2)
  exact ⟨hC.of_block b1, hE.of_block b2, ((hB.alloc (by omega) o).drew).grown hgrow (by omega) (fun j hj => by have := hr j hj; omega)⟩

/-- .. and the store of the new slice into Elems. -/
theorem app_els {w w2 : World} {cb n i : Nat} {k : Int} {el sc ex en vl els scs exs ens v : Value} {ys : List Value}
    (h : Cn w2 cb k el sc ex en i ∧ En w2 (cb + 1) vl els scs exs ens ∧ Below cb w w2) (hown : w2.ownsRow (cb + 2) 34 1 v n ys) :
    Cn (w2.setCell ⟨cb + 1, 6, none⟩ v) cb k el sc ex en i ∧ En (w2.setCell ⟨cb + 1, 6, none⟩ v) (cb + 1) vl v scs exs ens ∧ (w2.setCell ⟨cb + 1, 6, none⟩ v).ownsRow (cb + 2) 34 1 v n ys ∧ Below cb w (w2.setCell ⟨cb + 1, 6, none⟩ v) :=
  ⟨h.1.other (by simp) _, h.2.1.setEls _, ownsRow_setCell_below hown (by simp) _, h.2.2.setCell (by simp) _⟩

set_option maxRecDepth 100000 in
set_option maxHeartbeats 3200000 in
theorem take_def (cb ab ao n c i m l q : Nat) (k : Int) (hk : k = 1 ∨ k = 2) (p : Option Addr) (sc ex en vl els scs exs ens : Value) (xs : List Value) (w : World)
    (hC : Cn w cb k (.slice (some ⟨ab, ao, none⟩) n c) sc ex en i) (hE : En w (cb + 1) vl els scs exs ens) (ho : w.ownsRow (cb + 2) 34 1 els m xs) (hm : m ≤ 256) (hi : i < n) (hn : n ≤ 256) (hab : ab < cb)
    (hcell : w.cell? ⟨ab, ao + i, none⟩ = some (.slice p l q)) :
    Calls Yba.prog 4 #[.pointer (some ⟨cb, 0, none⟩), .pointer (some ⟨cb + 1, 0, none⟩)] w fun e w' => e = .returned (.tuple #[.int .i64 1, .int .i64 l]) ∧
      Cn w' cb k (.slice (some ⟨ab, ao, none⟩) n c) sc ex en (i + 1) ∧ (∃ els', En w' (cb + 1) vl els' scs exs ens ∧ w'.ownsRow (cb + 2) 34 1 els' (m + 1) (xs ++ [.slice p l q])) ∧ Below cb w w' := by
  obtain ⟨i0, hi0, hz0, hz1, hz2⟩ := info_parts Yba.info34
  obtain ⟨c0, c17, _, _, _, c22, fz⟩ := hC.cells
  have hnk : (k == 3) = false ∧ (k == 5) = false ∧ (k == 0) = false ∧ (k == 4) = false := by rcases hk with rfl | rfl <;> decide
  obtain ⟨k3, k5, k0, k4⟩ := hnk
  have HC := hide hC
  have HE := hide hE
  have HO := hide ho
  clear hC hE ho hk
  go_enter Yba.func4, Yba.ntmps4
  go_wp2_with fail
  have hw1 : ∃ w1, w1 = w.setCell ⟨cb, 22, none⟩ (.int .i64 ((i : Int) + 1)) := ⟨_, rfl⟩
  obtain ⟨w1, hw1⟩ := hw1
  rw [← hw1]
  have HC1 : Hid (Cn w1 cb k (.slice (some ⟨ab, ao, none⟩) n c) sc ex en (i + 1)) := by rw [hw1]; exact (unhide HC).take (i + 1)
  have HE1 : Hid (En w1 (cb + 1) vl els scs exs ens) := by rw [hw1]; exact (unhide HE).other (by simp) _
  have HO1 : Hid (w1.ownsRow (cb + 2) 34 1 els m xs) := by rw [hw1]; exact ownsRow_setCell_below (unhide HO) (by simp) _
  have HB1 : Hid (Below cb w w1) := show Below cb w w1 by rw [hw1]; exact (Below.refl _ _).setCell (p := ⟨cb, 22, none⟩) (Nat.le_refl _) _
  have hcell1 : w1.cell? ⟨ab, ao + i, none⟩ = some (.slice p l q) := ((unhide HB1).cell (p := ⟨ab, ao + i, none⟩) hab).trans hcell
  clear c0 c17 c22 fz hw1 HC HE HO
  obtain ⟨_, c17, _, _, _, _, _⟩ := (unhide HC1).cells
  obtain ⟨_, e6, _, _, _, fz⟩ := (unhide HE1).cells
  have fz6 := fz 6
  clear fz
  have HFA : Hid (∀ o : Obj, ((w1.alloc o).drew).frozen? ⟨cb + 1, 6, none⟩ = false) := fun o => by obtain ⟨f, hr, _⟩ := unhide HE1; exact (hr.alloc o).frozen 6
  have lt1 : cb + 1 < w1.heap.size := (unhide HE1).lt
  have nb := (unhide HO1).lt
  have ag : els.ownBlock ≠ some cb := fun h => by have := nb _ h; omega
  have ae : els.ownBlock ≠ some (cb + 1) := fun h => by have := nb _ h; omega
  have aa : els.ownBlock ≠ some ab := fun h => by have := nb _ h; omega
  have NB : Hid (∀ j, els.ownBlock = some j → cb + 2 ≤ j) := fun j hj => (nb j hj).1
  clear nb
  have ne6 := World.new_ne w1 _ e6
  have hi0' : (0 : Int) ≤ (i : Int) := Int.natCast_nonneg _
  have hi1 : (i : Int) < (n : Int) := by omega
  have HEA : Hid (∀ o : Obj, ((w1.alloc o).drew).cell? ⟨cb + 1, 6, none⟩ = some els) := fun o => by obtain ⟨f, hr, _, h6, _⟩ := unhide HE1; exact ((hr.alloc o).cell (by omega)).trans (by rw [h6])
  go_region_law ((refine step_append_lies _ (by rfl) _ _ _ (by rfl) (cb + 2) 34 i0 _ 1 24 Yba.underlying22 hi0 hz0 hz1 hz2 rfl (by omega) els m xs (by rfl) (((unhide HO1).alloc _).drew) ⟨w1.heap.size, 0, none⟩ 1 1 [.slice p l q] (by rfl) (by rfl) (World.news_of_block (cs := #[.slice p l q]) (t := 34) (fr := (0, 0)) (heap_alloc_new w1 _)) (by simp [Value.oneCell']) (by omega) (by unfold maxLen; omega) (by omega) (by simp; omega) (w1.heap.size + 1) (by simp) ?_; intro g cap w2 hown hgrow hat hlt; have e62 : w2.cell? ⟨cb + 1, 6, none⟩ = some els := (hgrow.cell_far _ (by simp; omega) (Ne.symm ae)).trans (unhide HEA _); have fz62 : w2.frozen? ⟨cb + 1, 6, none⟩ = false := (hgrow.frozen_far _ (by simp; omega) (Ne.symm ae)).trans (unhide HFA _)))
  all_goals
    have HR := hide (app_els (grown_st (unhide HC1) (unhide HE1) (unhide HB1) hgrow (unhide NB)) hown)
    clear hown hgrow hat hlt e62 fz62
    generalize w2.setCell ⟨cb + 1, 6, none⟩ (.slice (some ⟨g, 0, none⟩) (m + 1) cap) = w3 at *
    obtain ⟨_, c17', _, _, _, _, _⟩ := (unhide HR).1.cells
    have hcell3 : w3.cell? ⟨ab, ao + i, none⟩ = some (.slice p l q) := ((unhide HR).2.2.2.cell (p := ⟨ab, ao + i, none⟩) hab).trans hcell
    go_wp2_with fail
    go_quiet (fail)
    go_wp2_with fail
    go_ret2
    exact ⟨rfl, (unhide HR).1, ⟨_, (unhide HR).2.1, (unhide HR).2.2.1⟩, below_drewN (unhide HR).2.2.2 _⟩
end Go.Proofs.Ybulkmym
