/- collection.take, a sorted set's member. -/
import Derived.Test.YbulkmymTakeB
import Derived.Deep.CutBlock
namespace Go.Proofs.Ybulkmym
open Go.RowKit Go.Lib

theorem app_scs {w w2 : World} {cb n i : Nat} {k : Int} {el sc ex en vl els scs exs ens v : Value} {ys : List Value}
    (h : Cn w2 cb k el sc ex en i ∧ En w2 (cb + 1) vl els scs exs ens ∧ Below cb w w2) (hown : w2.ownsRow (cb + 2) 49 1 v n ys) :
    Cn (w2.setCell ⟨cb + 1, 7, none⟩ v) cb k el sc ex en i ∧ En (w2.setCell ⟨cb + 1, 7, none⟩ v) (cb + 1) vl els v exs ens ∧ (w2.setCell ⟨cb + 1, 7, none⟩ v).ownsRow (cb + 2) 49 1 v n ys ∧ Below cb w (w2.setCell ⟨cb + 1, 7, none⟩ v) :=
  ⟨h.1.other (by simp) _, h.2.1.setScs _, ownsRow_setCell_below hown (by simp) _, h.2.2.setCell (by simp) _⟩

/-- Rows of two element types are two rows. -/
theorem rows_apart {w : World} {B a b sa sb na nb : Nat} {u v : Value} {xs ys : List Value} (hu : w.ownsRow B a sa u na xs) (hv : w.ownsRow B b sb v nb ys) (hab : a ≠ b) : u.ownBlock = none ∨ u.ownBlock ≠ v.ownBlock := by
  cases h : u.ownBlock with
  | none => exact Or.inl rfl
  | some g =>
    refine Or.inr fun h2 => ?_
    obtain ⟨c, f, hc⟩ := ownsRow_kind hu g h
    obtain ⟨c', f', hc'⟩ := ownsRow_kind hv g h2.symm
    rw [hc] at hc'
    simp at hc'
    exact hab hc'.2.1

set_option maxRecDepth 100000 in
set_option maxHeartbeats 3200000 in
theorem take_srt (cb ab ao n c i l q sb m ns cs : Nat) (p : Option Addr) (b : Nat) (ex en vl els scs exs ens : Value) (xs ys : List Value) (w : World)
    (hC : Cn w cb 4 (.slice (some ⟨ab, ao, none⟩) n c) (.slice (some ⟨sb, 0, none⟩) ns cs) ex en i) (hE : En w (cb + 1) vl els scs exs ens) (ho : w.ownsRow (cb + 2) 34 1 els m xs) (hos : w.ownsRow (cb + 2) 49 1 scs m ys) (hm : m ≤ 256) (hi : i < n) (hn : n ≤ 256) (his : i < ns) (hab : ab < cb) (hsb : sb < cb)
    (hcell : w.cell? ⟨ab, ao + i, none⟩ = some (.slice p l q)) (hsc : w.cell? ⟨sb, i, none⟩ = some (.float .f64 b)) :
    Calls Yba.prog 4 #[.pointer (some ⟨cb, 0, none⟩), .pointer (some ⟨cb + 1, 0, none⟩)] w fun e w' => e = .returned (.tuple #[.int .i64 1, .int .i64 l]) ∧
      Cn w' cb 4 (.slice (some ⟨ab, ao, none⟩) n c) (.slice (some ⟨sb, 0, none⟩) ns cs) ex en (i + 1) ∧ (∃ els' scs', En w' (cb + 1) vl els' scs' exs ens ∧ w'.ownsRow (cb + 2) 34 1 els' (m + 1) (xs ++ [.slice p l q]) ∧ w'.ownsRow (cb + 2) 49 1 scs' (m + 1) (ys ++ [.float .f64 b])) ∧ Below cb w w' := by
  obtain ⟨i0, hi0, hz0, hz1, hz2⟩ := info_parts Yba.info34
  obtain ⟨j0, hj0, hy0, hy1, hy2⟩ := info_parts Yba.info49
  obtain ⟨c0, c17, c18, _, _, c22, fz⟩ := hC.cells
  have HC := hide hC
  have HE := hide hE
  have HO := hide ho
  have HOS := hide hos
  clear hC hE ho hos
  go_enter Yba.func4, Yba.ntmps4
  go_upto_block 0 with fail
  have hw1 : ∃ w1, w1 = w.setCell ⟨cb, 22, none⟩ (.int .i64 ((i : Int) + 1)) := ⟨_, rfl⟩
  obtain ⟨w1, hw1⟩ := hw1
  rw [← hw1]
  have HC1 : Hid (Cn w1 cb 4 (.slice (some ⟨ab, ao, none⟩) n c) (.slice (some ⟨sb, 0, none⟩) ns cs) ex en (i + 1)) := by rw [hw1]; exact (unhide HC).take (i + 1)
  have HE1 : Hid (En w1 (cb + 1) vl els scs exs ens) := by rw [hw1]; exact (unhide HE).other (by simp) _
  have HO1 : Hid (w1.ownsRow (cb + 2) 34 1 els m xs) := by rw [hw1]; exact ownsRow_setCell_below (unhide HO) (by simp) _
  have HOS1 : Hid (w1.ownsRow (cb + 2) 49 1 scs m ys) := by rw [hw1]; exact ownsRow_setCell_below (unhide HOS) (by simp) _
  have HB1 : Hid (Below cb w w1) := show Below cb w w1 by rw [hw1]; exact (Below.refl _ _).setCell (p := ⟨cb, 22, none⟩) (Nat.le_refl _) _
  have hsc1 : w1.cell? ⟨sb, i, none⟩ = some (.float .f64 b) := ((unhide HB1).cell (p := ⟨sb, i, none⟩) hsb).trans hsc
  clear c0 c17 c18 c22 fz hw1 HC HE HO HOS
  go_cut [6] from 29 to 154 (fun s wx => s = .int .i64 i ∧ Cn wx cb 4 (.slice (some ⟨ab, ao, none⟩) n c) (.slice (some ⟨sb, 0, none⟩) ns cs) ex en (i + 1) ∧ (∃ scs', En wx (cb + 1) vl els scs' exs ens ∧ wx.ownsRow (cb + 2) 34 1 els m xs ∧ wx.ownsRow (cb + 2) 49 1 scs' (m + 1) (ys ++ [.float .f64 b])) ∧ Below cb w wx)
  case first =>
    obtain ⟨_, _, c18, _, _, _, _⟩ := (unhide HC1).cells
    obtain ⟨_, _, e7, _, _, fz⟩ := (unhide HE1).cells
    have fz7 := fz 7
    clear fz
    have HFA : Hid (∀ o : Obj, ((w1.alloc o).drew).frozen? ⟨cb + 1, 7, none⟩ = false) := fun o => by obtain ⟨f, hr, _⟩ := unhide HE1; exact (hr.alloc o).frozen 7
    have HEA : Hid (∀ o : Obj, ((w1.alloc o).drew).cell? ⟨cb + 1, 7, none⟩ = some scs) := fun o => by obtain ⟨f, hr, _, _, h7, _⟩ := unhide HE1; exact ((hr.alloc o).cell (by omega)).trans (by rw [h7])
    have lt1 : cb + 1 < w1.heap.size := (unhide HE1).lt
    have nb := (unhide HOS1).lt
    have ae : scs.ownBlock ≠ some (cb + 1) := fun h => by have := nb _ h; omega
    have NB : Hid (∀ j, scs.ownBlock = some j → cb + 2 ≤ j) := fun j hj => (nb j hj).1
    clear nb
    have ne7 := World.new_ne w1 _ e7
    have hi0' : (0 : Int) ≤ (i : Int) := Int.natCast_nonneg _
    have hi1 : (i : Int) < (ns : Int) := by omega
    have RA : Hid (els.ownBlock = none ∨ els.ownBlock ≠ scs.ownBlock) := rows_apart (unhide HO1) (unhide HOS1) (by decide)
    go_wp2_with fail
    go_region_law ((refine step_append_lies _ (by rfl) _ _ _ (by rfl) (cb + 2) 49 j0 _ 1 8 Yba.underlying23 hj0 hy0 hy1 hy2 rfl (by omega) scs m ys (by rfl) (((unhide HOS1).alloc _).drew) ⟨w1.heap.size, 0, none⟩ 1 1 [.float .f64 b] (by rfl) (by rfl) (World.news_of_block (cs := #[.float .f64 b]) (t := 49) (fr := (0, 0)) (heap_alloc_new w1 _)) (by simp [Value.oneCell']) (by omega) (by unfold maxLen; omega) (by omega) (by simp; omega) (w1.heap.size + 1) (by simp) ?_; intro g cap w2 hown hgrow hat hlt; have e72 : w2.cell? ⟨cb + 1, 7, none⟩ = some scs := (hgrow.cell_far _ (by simp; omega) (Ne.symm ae)).trans (unhide HEA _); have fz72 : w2.frozen? ⟨cb + 1, 7, none⟩ = false := (hgrow.frozen_far _ (by simp; omega) (Ne.symm ae)).trans (unhide HFA _)))
    all_goals
      have HR := hide (app_scs (grown_st (unhide HC1) (unhide HE1) (unhide HB1) hgrow (unhide NB)) hown)
      have HE2 := hide (ownsRow_setCell_below (((unhide HO1).alloc _).drew.kept hgrow (unhide RA)) (a := ⟨cb + 1, 7, none⟩) (by simp) (.slice (some ⟨g, 0, none⟩) (m + 1) cap))
      go_wp2_with fail
      go_meet
      exact ⟨rfl, (unhide HR).1, ⟨_, (unhide HR).2.1, unhide HE2, (unhide HR).2.2.1⟩, (unhide HR).2.2.2⟩
  case rest =>
    obtain ⟨rfl, hC2, ⟨scs', hE2, hO2, hS2⟩, hB2⟩ := hcut
    have HC1 := hide hC2
    have HE1 := hide hE2
    have HO1 := hide hO2
    have HOS1 := hide hS2
    have HB1 := hide hB2
    clear hC2 hE2 hO2 hS2 hB2
    have hcell1 : wc.cell? ⟨ab, ao + i, none⟩ = some (.slice p l q) := ((unhide HB1).cell (p := ⟨ab, ao + i, none⟩) hab).trans hcell
    obtain ⟨_, c17, _, _, _, _, _⟩ := (unhide HC1).cells
    obtain ⟨_, e6, _, _, _, fz⟩ := (unhide HE1).cells
    have fz6 := fz 6
    clear fz
    have HFA : Hid (∀ o : Obj, ((wc.alloc o).drew).frozen? ⟨cb + 1, 6, none⟩ = false) := fun o => by obtain ⟨f, hr, _⟩ := unhide HE1; exact (hr.alloc o).frozen 6
    have HEA : Hid (∀ o : Obj, ((wc.alloc o).drew).cell? ⟨cb + 1, 6, none⟩ = some els) := fun o => by obtain ⟨f, hr, _, h6, _⟩ := unhide HE1; exact ((hr.alloc o).cell (by omega)).trans (by rw [h6])
    have lt1 : cb + 1 < wc.heap.size := (unhide HE1).lt
    have nb := (unhide HO1).lt
    have ae : els.ownBlock ≠ some (cb + 1) := fun h => by have := nb _ h; omega
    have NB : Hid (∀ j, els.ownBlock = some j → cb + 2 ≤ j) := fun j hj => (nb j hj).1
    clear nb
    have ne6 := World.new_ne wc _ e6
    have hi0' : (0 : Int) ≤ (i : Int) := Int.natCast_nonneg _
    have hi1 : (i : Int) < (n : Int) := by omega
    have RA : Hid (scs'.ownBlock = none ∨ scs'.ownBlock ≠ els.ownBlock) := rows_apart (unhide HOS1) (unhide HO1) (by decide)
    go_wp2_with fail
    go_region_law ((refine step_append_lies _ (by rfl) _ _ _ (by rfl) (cb + 2) 34 i0 _ 1 24 Yba.underlying22 hi0 hz0 hz1 hz2 rfl (by omega) els m xs (by rfl) (((unhide HO1).alloc _).drew) ⟨wc.heap.size, 0, none⟩ 1 1 [.slice p l q] (by rfl) (by rfl) (World.news_of_block (cs := #[.slice p l q]) (t := 34) (fr := (0, 0)) (heap_alloc_new wc _)) (by simp [Value.oneCell']) (by omega) (by unfold maxLen; omega) (by omega) (by simp; omega) (wc.heap.size + 1) (by simp) ?_; intro g cap w2 hown hgrow hat hlt; have e62 : w2.cell? ⟨cb + 1, 6, none⟩ = some els := (hgrow.cell_far _ (by simp; omega) (Ne.symm ae)).trans (unhide HEA _); have fz62 : w2.frozen? ⟨cb + 1, 6, none⟩ = false := (hgrow.frozen_far _ (by simp; omega) (Ne.symm ae)).trans (unhide HFA _)))
    all_goals
      have HR := hide (app_els (grown_st (unhide HC1) (unhide HE1) (unhide HB1) hgrow (unhide NB)) hown)
      have HE2 := hide (ownsRow_setCell_below (((unhide HOS1).alloc _).drew.kept hgrow (unhide RA)) (a := ⟨cb + 1, 6, none⟩) (by simp) (.slice (some ⟨g, 0, none⟩) (m + 1) cap))
      clear hown hgrow hat hlt e62 fz62
      generalize w2.setCell ⟨cb + 1, 6, none⟩ (.slice (some ⟨g, 0, none⟩) (m + 1) cap) = w3 at *
      obtain ⟨_, c17', _, _, _, _, _⟩ := (unhide HR).1.cells
      have hcell3 : w3.cell? ⟨ab, ao + i, none⟩ = some (.slice p l q) := ((unhide HR).2.2.2.cell (p := ⟨ab, ao + i, none⟩) hab).trans hcell
      go_wp2_with fail
      go_quiet (fail)
      go_wp2_with fail
      go_ret2
      exact ⟨rfl, (unhide HR).1, ⟨_, _, (unhide HR).2.1, (unhide HR).2.2.1, unhide HE2⟩, below_drewN (unhide HR).2.2.2 _⟩
end Go.Proofs.Ybulkmym
