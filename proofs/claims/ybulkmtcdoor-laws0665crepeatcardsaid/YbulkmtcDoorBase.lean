/- TrailingZeros64 and matchLen, walked. -/
import Derived.Test.YbulkmtcDoorRows
import Derived.Test.YbulkmtcDoorPlain
import Derived.Test.YbulkmtcDoorShelf
import Derived.Shelf.Spec.TrailingZeros
import Derived.WalkKit
import Derived.WalkSpells
import Derived.WalkLawsBesides
import Derived.BigQuiet
import Derived.Deep.QuietTactic
import Derived.Deep.LoopGhost
import Derived.Deep.RegionHeld
namespace Go.Proofs.YbulkmtcDoor
open Go.RowKit Go.Lib

theorem hide {p : Prop} (h : p) : Hid p := h
theorem unhide {p : Prop} (h : Hid p) : p := h

/-- The first n cells from ⟨b, o⟩ on hold the bytes f. -/
def Bytes (w : World) (b o n : Nat) (f : Nat → UInt8) : Prop := ∀ i, i < n → w.cell? ⟨b, o + i, none⟩ = some (.int .u8 ((f i).toNat : Int))

theorem Bytes.below {w w' : World} {b o n : Nat} {f : Nat → UInt8} (h : Bytes w b o n f) (hb : Below w.heap.size w w') (hl : b < w.heap.size) : Bytes w' b o n f :=
  fun i hi => (hb.cell hl).trans (h i hi)

theorem u8_ne {a b : UInt8} (h : a ≠ b) : ((a.toNat : Int) == (b.toNat : Int)) = false := by
  have : a.toNat ≠ b.toNat := fun e => h (UInt8.toNat_inj.1 e)
  simp only [beq_eq_false_iff_ne, ne_eq]
  omega

theorem u8_bne {a b : UInt8} (h : a ≠ b) : ((a.toNat : Int) != (b.toNat : Int)) = true := by
  rw [bne, u8_ne h]; rfl
theorem u8_bne_same {a b : UInt8} (h : a = b) : ((a.toNat : Int) != (b.toNat : Int)) = false := by
  subst h; simp

theorem below_drewN {B : Nat} {a w : World} (h : Below B a w) (n : Nat) : Below B a (w.drewN n) := ⟨h.os, h.tape, h.output, h.size, h.block⟩

theorem ret_int {k : IntKind} {a b : Int} (h : a = b) : Ending.returned (.int k a) = .returned (.int k b) := by rw [h]

/-- The eight bytes from place p on. -/
theorem u64_at (b o l p n c : Nat) (f : Nat → UInt8) (w X : World) (hX : Below w.heap.size w X) (hb : b < w.heap.size) (hf : Bytes w b o l f) (hp : p + 8 ≤ l) (hn : 8 ≤ n) :
    Calls Ybad.prog 8 #[.agg #[], .slice (some ⟨b, o + p, none⟩) n c] X fun e w' => e = .returned (.int .u64 ((leNat (word f p) : Nat) : Int)) ∧ Below w.heap.size w w' := by
  have hc : ∀ j, j < 8 → X.cell? ⟨b, o + p + j, none⟩ = some (.int .u8 ((f (p + j)).toNat : Int)) := by
    intro j hj
    rw [hX.cell hb, Nat.add_assoc]
    exact hf (p + j) (by omega)
  refine (Ybad.binary_LE_Uint64 b (o + p) n c (f p) (f (p + 1)) (f (p + 2)) (f (p + 3)) (f (p + 4)) (f (p + 5)) (f (p + 6)) (f (p + 7)) X hn (hc 0 (by omega)) (hc 1 (by omega)) (hc 2 (by omega)) (hc 3 (by omega)) (hc 4 (by omega)) (hc 5 (by omega)) (hc 6 (by omega)) (hc 7 (by omega))).mono ?_
  rintro e w' ⟨rfl, h⟩
  exact ⟨rfl, hX.trans (h.mono hX.size)⟩

/-- The table of TrailingZeros64 in its variable. -/
def Tab (w : World) : Prop := TabAt 1 deBruijn64tab w

theorem Tab.below {w w' : World} (h : Tab w) (hb : Below w.heap.size w w') (hl : 1 < w.heap.size) : Tab w' := fun j hj => (hb.cell (p := ⟨1, j, none⟩) hl).trans (h j hj)

set_option maxHeartbeats 1000000 in
theorem tz64_core (x k idx : Nat) (w : World) (hx0 : ((x : Int) == 0) = false)
    (key : IntKind.u64.wrap (bits BinOp.and IntKind.u64 (x : Int) (IntKind.u64.wrap (-(x : Int))) * 285870213051353865) / 288230376151711744 = (idx : Int))
    (hi : idx < 64) (hk : k < 64) (hcell : w.cell? ⟨1, idx, none⟩ = some (.int .u8 k)) :
    Calls Ybad.prog 9 #[.int .u64 x] w fun e w' => e = .returned (.int .i64 k) ∧ w' = w := by
  go_enter Ybad.func9, Ybad.ntmps9
  go_wp2_with (simp only [key])
  go_ret
  exact ⟨rfl, rfl⟩

theorem tz64 (x : Nat) (hx : x < 18446744073709551616) (hx0 : x ≠ 0) (w : World) (hT : Tab w) :
    Calls Ybad.prog 9 #[.int .u64 x] w fun e w' => e = .returned (.int .i64 (ctz 64 x)) ∧ w' = w := by
  obtain ⟨hlow, hk⟩ := Lib.lowest_bit 64 x hx0 hx
  obtain ⟨hi, htab⟩ := Lib.deBruijn64_at _ hk
  have hcell := hT _ hi
  rw [htab] at hcell
  exact tz64_core x _ _ w (by simp; omega) (tz64_key x _ hx hx0 hlow) hi hk hcell
end Go.Proofs.YbulkmtcDoor
