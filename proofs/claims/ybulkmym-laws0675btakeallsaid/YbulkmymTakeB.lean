/- collection.take, a string's piece; a hash's field. -/
import Derived.Test.YbulkmymTakeA
namespace Go.Proofs.Ybulkmym
open Go.RowKit Go.Lib

set_option maxRecDepth 100000 in
set_option maxHeartbeats 3200000 in
theorem take_str (cb ab ao n c i l q : Nat) (p : Option Addr) (sc ex en vl els scs exs ens : Value) (w : World)
    (hC : Cn w cb 0 (.slice (some ⟨ab, ao, none⟩) n c) sc ex en i) (hE : En w (cb + 1) vl els scs exs ens) (hi : i < n) (hn : n ≤ 256) (hab : ab < cb)
    (hcell : w.cell? ⟨ab, ao + i, none⟩ = some (.slice p l q)) :
    Calls Yba.prog 4 #[.pointer (some ⟨cb, 0, none⟩), .pointer (some ⟨cb + 1, 0, none⟩)] w fun e w' => e = .returned (.tuple #[.int .i64 1, .int .i64 l]) ∧
      Cn w' cb 0 (.slice (some ⟨ab, ao, none⟩) n c) sc ex en (i + 1) ∧ En w' (cb + 1) (.slice p l q) els scs exs ens ∧ Below cb w w' := by
  obtain ⟨c0, c17, _, _, _, c22, fz⟩ := hC.cells
  obtain ⟨e4, _, _, _, _, fe⟩ := hE.cells
  have fe4 := fe 4
  have ne : ¬ ab = cb := by omega
  have ne2 : ¬ ab = cb + 1 := by omega
  have HR : Hid (Cn ((w.setCell ⟨cb, 22, none⟩ (.int .i64 ((i : Int) + 1))).setCell ⟨cb + 1, 4, none⟩ (.slice p l q)) cb 0 (.slice (some ⟨ab, ao, none⟩) n c) sc ex en (i + 1) ∧ En ((w.setCell ⟨cb, 22, none⟩ (.int .i64 ((i : Int) + 1))).setCell ⟨cb + 1, 4, none⟩ (.slice p l q)) (cb + 1) (.slice p l q) els scs exs ens ∧ Below cb w ((w.setCell ⟨cb, 22, none⟩ (.int .i64 ((i : Int) + 1))).setCell ⟨cb + 1, 4, none⟩ (.slice p l q))) :=
    ⟨(hC.take (i + 1)).other (by simp) _, (hE.other (by simp) _).setVl _, ((Below.refl _ _).setCell (p := ⟨cb, 22, none⟩) (Nat.le_refl _) _).setCell (by simp) _⟩
  clear hC hE fe
  go_enter Yba.func4, Yba.ntmps4
  go_wp2_with fail
  go_quiet (fail)
  go_wp2_with fail
  go_ret2
  exact ⟨rfl, (unhide HR).1, (unhide HR).2.1, below_drewN (unhide HR).2.2 _⟩
end Go.Proofs.Ybulkmym
