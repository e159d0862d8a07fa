/- collection.take, a stream's entry. -/
import Derived.Test.YbulkmymTakeD
namespace Go.Proofs.Ybulkmym
open Go.RowKit Go.Lib

theorem Yba.inf32 : (Yba.prog.info? 32).map (fun i => (i.zero, i.size, i.bytes)) = some (some (.agg #[.int .u64 0, .int .u64 0, .slice none 0 0]), 3, 40) := by kernel_rfl

/-- The bytes of the first j elements, as Go adds them up. -/
def sumw (L : Nat → Nat) : Nat → Int
  | 0 => 0
  | j + 1 => wrap64 (sumw L j + (L j : Int))

theorem app_ens {w w2 : World} {cb n i : Nat} {k : Int} {el sc ex en vl els scs exs ens v : Value} {ys : List Value}
    (h : Cn w2 cb k el sc ex en i ∧ En w2 (cb + 1) vl els scs exs ens ∧ Below cb w w2) (hown : w2.ownsRow (cb + 2) 32 3 v n ys) :
    Cn (w2.setCell ⟨cb + 1, 9, none⟩ v) cb k el sc ex en i ∧ En (w2.setCell ⟨cb + 1, 9, none⟩ v) (cb + 1) vl els scs exs v ∧ (w2.setCell ⟨cb + 1, 9, none⟩ v).ownsRow (cb + 2) 32 3 v n ys ∧ Below cb w (w2.setCell ⟨cb + 1, 9, none⟩ v) :=
  ⟨h.1.other (by simp) _, h.2.1.setEns _, ownsRow_setCell_below hown (by simp) _, h.2.2.setCell (by simp) _⟩

set_option maxRecDepth 100000 in
set_option maxHeartbeats 3200000 in
theorem take_stm (cb ab ao c i nb ns cs m : Nat) (A : Nat → Option Addr) (L C : Nat → Nat) (el sc ex vl els scs exs ens : Value) (xs : List Value) (w : World)
    (hC : Cn w cb 5 el sc ex (.slice (some ⟨nb, 0, none⟩) ns cs) i) (hE : En w (cb + 1) vl els scs exs ens) (ho : w.ownsRow (cb + 2) 32 3 ens m xs) (hm : m ≤ 256) (hi : i < ns) (hn : ns ≤ 256) (hnb : nb < cb) (hab : ab < cb)
    (hs0 : w.cell? ⟨nb, i * 3, none⟩ = some (.int .u64 0)) (hs1 : w.cell? ⟨nb, i * 3 + 1, none⟩ = some (.int .u64 0)) (hs2 : w.cell? ⟨nb, i * 3 + 2, none⟩ = some (.slice (some ⟨ab, ao, none⟩) i c))
    (hcell : ∀ j, j < i → w.cell? ⟨ab, ao + j, none⟩ = some (.slice (A j) (L j) (C j))) :
    Calls Yba.prog 4 #[.pointer (some ⟨cb, 0, none⟩), .pointer (some ⟨cb + 1, 0, none⟩)] w fun e w' => e = .returned (.tuple #[.int .i64 i, .int .i64 (sumw L i)]) ∧
      Cn w' cb 5 el sc ex (.slice (some ⟨nb, 0, none⟩) ns cs) (i + 1) ∧ (∃ ens', En w' (cb + 1) vl els scs exs ens' ∧ w'.ownsRow (cb + 2) 32 3 ens' (m + 1) (xs ++ [.int .u64 0, .int .u64 0, .slice (some ⟨ab, ao, none⟩) i c])) ∧ Below cb w w' := by
  obtain ⟨i0, hi0, hz0, hz1, hz2⟩ := info_parts Yba.inf32
  obtain ⟨c0, _, _, _, c21, c22, fz⟩ := hC.cells
  have HC := hide hC
  have HE := hide hE
  have HO := hide ho
  have HX := hide hcell
  clear hC hE ho hcell
  go_enter Yba.func4, Yba.ntmps4
  go_wp2_with fail
  have hw1 : ∃ w1, w1 = (w.setCell ⟨cb, 22, none⟩ (.int .i64 ((i : Int) + 1))).alloc (.cells #[.int .u64 0, .int .u64 0, .slice (some ⟨ab, ao, none⟩) i c] 32) := ⟨_, rfl⟩
  obtain ⟨w1, hw1⟩ := hw1
  rw [← hw1]
  have hsz : (w.setCell ⟨cb, 22, none⟩ (.int .i64 ((i : Int) + 1))).heap.size = w.heap.size := by simp [go_sem]
  have lt0 : cb + 1 < w.heap.size := (unhide HE).lt
  have HC1 : Hid (Cn w1 cb 5 el sc ex (.slice (some ⟨nb, 0, none⟩) ns cs) (i + 1)) := by rw [hw1]; exact ((unhide HC).take (i + 1)).of_block (Go.Deep.blk_alloc_lt _ _ _ (by omega))
  have HE1 : Hid (En w1 (cb + 1) vl els scs exs ens) := by rw [hw1]; exact ((unhide HE).other (by simp) _).of_block (Go.Deep.blk_alloc_lt _ _ _ (by omega))
  have HO1 : Hid (w1.ownsRow (cb + 2) 32 3 ens m xs) := by rw [hw1]; exact (ownsRow_setCell_below (unhide HO) (by simp) _).alloc _
  have HB1 : Hid (Below cb w w1) := show Below cb w w1 by rw [hw1]; exact Below.alloc (B := cb) ((Below.refl cb w).setCell (p := ⟨cb, 22, none⟩) (Nat.le_refl _) _) (by omega) _
  have hE0 : w1.cell? ⟨w.heap.size, 0, none⟩ = some (.int .u64 0) := by rw [hw1]; simp [go_sem, hsz]
  have hE1 : w1.cell? ⟨w.heap.size, 1, none⟩ = some (.int .u64 0) := by rw [hw1]; simp [go_sem, hsz]
  have hE2 : w1.cell? ⟨w.heap.size, 2, none⟩ = some (.slice (some ⟨ab, ao, none⟩) i c) := by rw [hw1]; simp [go_sem, hsz]
  have ltE : ens.ownBlock ≠ some w.heap.size := fun h => by have := ((unhide HO).lt _ h).2; omega
  clear c0 c21 c22 fz hw1 HC HE HO hsz hs0 hs1 hs2
  obtain ⟨E, hE⟩ : ∃ E, E = w.heap.size := ⟨_, rfl⟩
  rw [← hE] at hE0 hE1 hE2 ltE lt0 ⊢
  clear hE
  go_cut [6] from 94 to 103 (fun s wx => s = .int .i64 i ∧ Cn wx cb 5 el sc ex (.slice (some ⟨nb, 0, none⟩) ns cs) (i + 1) ∧ (∃ ens', En wx (cb + 1) vl els scs exs ens' ∧ wx.ownsRow (cb + 2) 32 3 ens' (m + 1) (xs ++ [.int .u64 0, .int .u64 0, .slice (some ⟨ab, ao, none⟩) i c])) ∧ Below cb w wx ∧ wx.cell? ⟨E, 2, none⟩ = some (.slice (some ⟨ab, ao, none⟩) i c))
  case first =>
    obtain ⟨_, _, _, _, e9, fz⟩ := (unhide HE1).cells
    have fz9 := fz 9
    clear fz
    have HFA : Hid (∀ o : Obj, ((w1.alloc o).drew).frozen? ⟨cb + 1, 9, none⟩ = false) := fun o => by obtain ⟨f, hr, _⟩ := unhide HE1; exact (hr.alloc o).frozen 9
    have HEA : Hid (∀ o : Obj, ((w1.alloc o).drew).cell? ⟨cb + 1, 9, none⟩ = some ens) := fun o => by obtain ⟨f, hr, _, _, _, _, h9⟩ := unhide HE1; exact ((hr.alloc o).cell (by omega)).trans (by rw [h9])
    have lt1 : cb + 1 < w1.heap.size := (unhide HE1).lt
    have ltE1 : E < w1.heap.size := lt_of_cell hE2
    have HEE : Hid (∀ o : Obj, ((w1.alloc o).drew).cell? ⟨E, 2, none⟩ = some (.slice (some ⟨ab, ao, none⟩) i c)) := fun o => (World.cell?_of_block (Go.Deep.blk_alloc_lt _ _ _ ltE1)).trans hE2
    have nb' := (unhide HO1).lt
    have ae : ens.ownBlock ≠ some (cb + 1) := fun h => by have := nb' _ h; omega
    have NB : Hid (∀ j, ens.ownBlock = some j → cb + 2 ≤ j) := fun j hj => (nb' j hj).1
    clear nb'
    have ne9 := World.new_ne w1 _ e9
    have neE := World.new_ne w1 _ hE2
    go_region_law ((refine step_append_lies _ (by rfl) _ _ _ (by rfl) (cb + 2) 32 i0 _ 3 40 Yba.underlying27 hi0 hz0 hz1 hz2 rfl (by omega) ens m xs (by rfl) (((unhide HO1).alloc _).drew) ⟨w1.heap.size, 0, none⟩ 1 1 [.int .u64 0, .int .u64 0, .slice (some ⟨ab, ao, none⟩) i c] (by rfl) (by rfl) (World.news_of_block (cs := #[.int .u64 0, .int .u64 0, .slice (some ⟨ab, ao, none⟩) i c]) (t := 32) (fr := (0, 0)) (heap_alloc_new w1 _)) (by simp [Value.oneCell']) (by omega) (by unfold maxLen; omega) (by omega) (by simp; omega) (w1.heap.size + 1) (by simp) ?_; intro g cap w2 hown hgrow hat hlt; have e92 : w2.cell? ⟨cb + 1, 9, none⟩ = some ens := (hgrow.cell_far _ (by simp; omega) (Ne.symm ae)).trans (unhide HEA _); have fz92 : w2.frozen? ⟨cb + 1, 9, none⟩ = false := (hgrow.frozen_far _ (by simp; omega) (Ne.symm ae)).trans (unhide HFA _)))
    all_goals
      have HR := hide (app_ens (grown_st (unhide HC1) (unhide HE1) (unhide HB1) hgrow (unhide NB)) hown)
      have HE3 : Hid ((w2.setCell ⟨cb + 1, 9, none⟩ (.slice (some ⟨g, 0, none⟩) (m + 1) cap)).cell? ⟨E, 2, none⟩ = some (.slice (some ⟨ab, ao, none⟩) i c)) := (World.cell?_setCell_far _ _ _ _ (by simp; omega)).trans ((hgrow.cell_far _ (by simp; omega) (Ne.symm ltE)).trans (unhide HEE _))
      go_wp2_with fail
      go_meet
      exact ⟨rfl, (unhide HR).1, ⟨_, (unhide HR).2.1, (unhide HR).2.2.1⟩, (unhide HR).2.2.2, unhide HE3⟩
  case rest =>
    obtain ⟨rfl, hC2, ⟨ens', hEn2, hO2⟩, hB2, hE2'⟩ := hcut
    have HRES : Hid (Cn wc cb 5 el sc ex (.slice (some ⟨nb, 0, none⟩) ns cs) (i + 1) ∧ (∃ ens', En wc (cb + 1) vl els scs exs ens' ∧ wc.ownsRow (cb + 2) 32 3 ens' (m + 1) (xs ++ [.int .u64 0, .int .u64 0, .slice (some ⟨ab, ao, none⟩) i c])) ∧ Below cb w wc) := ⟨hC2, ⟨ens', hEn2, hO2⟩, hB2⟩
    have HX2 : Hid (∀ j, j < i → wc.cell? ⟨ab, ao + j, none⟩ = some (.slice (A j) (L j) (C j))) := fun j hj => (hB2.cell (p := ⟨ab, ao + j, none⟩) hab).trans (unhide HX j hj)
    clear hC2 hEn2 hO2 hB2 HC1 HE1 HO1 HB1 hE0 hE1 hE2 HX
    go_wp2_with fail
    go_loopg [10, 107] i (fun gg s t wr => ∃ k : Nat, gg = i - k ∧ k ≤ i ∧ s = .int .i64 (sumw L k) ∧ t = .int .i64 k ∧ wr = wc)
    case atStart => exact ⟨0, by omega, by omega, rfl, rfl, rfl⟩
    case round =>
      obtain ⟨k, rfl, hk, rfl, rfl, rfl⟩ := hrel
      by_cases hki : k < i
      · have ca := unhide HX2 k hki
        have d1 : decide ((k : Int) < (i : Int)) = true := by simp; omega
        have HS : Hid (wrap64 (sumw L k + (L k : Int)) = sumw L (k + 1)) := rfl
        generalize sumw L k = S at *
        go_wp2_with fail
        go_roundg (i - (k + 1))
        case measure => omega
        case rel => exact ⟨k + 1, rfl, by omega, by rw [unhide HS], by go_num, rfl⟩
      · have : k = i := by omega
        subst this
        have d1 : decide ((k : Int) < (k : Int)) = false := by simp
        go_wp2_with fail
        go_ret2
        exact ⟨rfl, (unhide HRES).1, (unhide HRES).2.1, (unhide HRES).2.2⟩
end Go.Proofs.Ybulkmym
