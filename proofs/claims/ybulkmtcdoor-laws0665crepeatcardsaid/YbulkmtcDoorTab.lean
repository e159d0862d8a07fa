/- What the row's condition says of the table; what a slice of bytes that came in is. -/
import Derived.Test.YbulkmtcDoorAg
import Derived.Lib.LaidTab
import Derived.ProofKit
import Derived.OpenShut
import Derived.LaidMore
import Derived.ChangeOld
import Derived.MakeChecks
namespace Go.Proofs.YbulkmtcDoor
open Go.ChangeShapes Go.WideShapes Go.ChangeAt Go.RowKit Go.Lib

theorem own : ownKnob Ybad.prog.godebug = none := by kernel_rfl
theorem laidOut : laidOutB Ybad.prog = true := by kernel_rfl

theorem gTab : Ybad.prog.globalNamed "math/bits.deBruijn64tab" = some 1 := by kernel_rfl

theorem tab_of_laid {W : World} (h : laidMetH Ybad.prog [("math/bits.deBruijn64tab", Rows.laid_math_bits_deBruijn64tab)] W) : Tab W ∧ 1 < W.heap.size := by
  rw [MakeChecks.laidMetH_plain _ _ _ (by kernel_rfl)] at h
  have ht : TabIs Ybad.prog W "math/bits.deBruijn64tab" .u8 (deBruijn64tab.map Int.ofNat) := tabIs_of_head (n := 64) (t := 47) (e := 5) (rest := []) gTab (by kernel_rfl) (by kernel_rfl) (by kernel_rfl) (by kernel_rfl) (by kernel_rfl) h
  have hT : Tab W := by
    intro j hj
    rw [ht.cell gTab j (by simpa using hj), List.getD_eq_getElem?_getD, List.getElem?_map, List.getD_eq_getElem?_getD, List.getElem?_eq_getElem hj]
    rfl
  exact ⟨hT, lt_of_cell (hT 0 (by decide))⟩

theorem u8_of {z : Int} (h : (Lit.int .u8 z).wf = true) : z = ((UInt8.ofNat z.toNat).toNat : Int) := by
  simp [Lit.wf, IntKind.min, IntKind.max, IntKind.bits, IntKind.signed] at h
  rw [UInt8.toNat_ofNat']
  omega

theorem bytes_of {H : Type} {enc : TypeId × Value → H} {W : World} {d : DataW H} {ps : List MemPlace} {a : Option Addr} {len cap : Nat}
    (h : DataW.Trod enc Ybad.prog W 0 (fun _ => true) true 22 (.slice a len cap) d ps) : len ≤ maxLen ∧ ∃ f, Sl W a len cap f := by
  obtain ⟨fuel, hf⟩ := h
  rcases open_ints Ybad.underlying22 Ybad.underlying5 (by kernel_rfl) hf with ⟨hcs, _⟩ | ⟨x, l, c, zs, hcs, _, hl, hm, hz, _, hcell, hwz⟩
  · simp [Value.cells] at hcs
    obtain ⟨_, rfl, rfl⟩ := hcs
    exact ⟨Nat.zero_le _, fun _ => 0, Or.inl ⟨rfl, rfl⟩⟩
  · simp [Value.cells] at hcs
    obtain ⟨rfl, rfl, rfl⟩ := hcs
    refine ⟨Nat.le_trans hl hm, fun i => UInt8.ofNat (zs.getD i 0).toNat, ?_⟩
    have hz' : zs.length = cap := by simpa using hz
    by_cases h0 : cap = 0
    · exact Or.inl ⟨by omega, h0⟩
    · obtain ⟨b, o, rfl, hc⟩ := ints_at hcell (by omega)
      refine Or.inr ⟨b, o, rfl, lt_of_cell (hc 0 (by omega)), by omega, hl, fun i hi => ?_⟩
      rw [hc i (by omega)]
      have hmem : zs.getD i 0 ∈ zs := by
        rw [List.getD_eq_getElem?_getD, List.getElem?_eq_getElem (by omega)]
        exact List.getElem_mem _
      exact congrArg (fun z => some (Value.int .u8 z)) (u8_of (hwz _ hmem))
end Go.Proofs.YbulkmtcDoor
