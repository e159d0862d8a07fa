/- zzs0665anaive, walked. -/
import Derived.Test.YbulkmtcRows
import Derived.Test.YbulkmtcPlain
import Derived.WalkKit
import Derived.WalkSpells
import Derived.BigQuiet
import Derived.Deep.QuietTactic
import Derived.Deep.LoopGhost
namespace Go.Proofs.Ybulkmtc
open Go.RowKit

theorem hide {p : Prop} (h : p) : Hid p := h
theorem unhide {p : Prop} (h : Hid p) : p := h

/-- The first n cells from ⟨b, o⟩ on hold the bytes f. -/
def Bytes (w : World) (b o n : Nat) (f : Nat → UInt8) : Prop := ∀ i, i < n → w.cell? ⟨b, o + i, none⟩ = some (.int .u8 ((f i).toNat : Int))

theorem Bytes.below {w w' : World} {b o n : Nat} {f : Nat → UInt8} (h : Bytes w b o n f) (hb : Below w.heap.size w w') (hl : b < w.heap.size) : Bytes w' b o n f :=
  fun i hi => (hb.cell hl).trans (h i hi)

theorem u8_ne {a b : UInt8} (h : a ≠ b) : ((a.toNat : Int) == (b.toNat : Int)) = false := by
  have : a.toNat ≠ b.toNat := fun e => h (UInt8.toNat_inj.1 e)
  simp only [beq_eq_false_iff_ne, ne_eq]
  omega

theorem u8_bne {a b : UInt8} (h : a ≠ b) : ((a.toNat : Int) != (b.toNat : Int)) = true := by
  rw [bne, u8_ne h]; rfl
theorem u8_bne_same {a b : UInt8} (h : a = b) : ((a.toNat : Int) != (b.toNat : Int)) = false := by
  subst h; simp

theorem below_drewN {B : Nat} {a w : World} (h : Below B a w) (n : Nat) : Below B a (w.drewN n) := ⟨h.os, h.tape, h.output, h.size, h.block⟩

set_option maxRecDepth 100000 in
set_option maxHeartbeats 1000000 in
theorem naive_some (ab ao la ca bb bo lb cb : Nat) (f g : Nat → UInt8) (w : World) (hla : la ≤ 4096) (hlb : lb ≤ 4096) (hf : Bytes w ab ao la f) (hg : Bytes w bb bo lb g) :
    Calls Yba.prog 6 #[.slice (some ⟨ab, ao, none⟩) la ca, .slice (some ⟨bb, bo, none⟩) lb cb] w fun e w' => (∃ r : Nat, e = .returned (.int .i64 r) ∧ IsCS (fun k => f (la - 1 - k)) (fun k => g (lb - 1 - k)) (min la lb) r) ∧ ∃ n, w' = w.drewN n := by
  have hf' := hide hf
  have hg' := hide hg
  clear hf hg
  by_cases hlt : lb < la
  · have hmin : min la lb = lb := Nat.min_eq_right (by omega)
    rw [hmin]
    clear hmin
    go_enter Yba.func6, Yba.ntmps6
    go_wp2_with fail
    go_loopg [6] lb (fun gg i wr => ∃ k : Nat, gg = lb - k ∧ k ≤ lb ∧ i = .int .i64 k ∧ (∃ n, wr = w.drewN n) ∧ ∀ j, j < k → f (la - 1 - j) = g (lb - 1 - j))
    case atStart => exact ⟨0, by omega, by omega, rfl, ⟨0, rfl⟩, fun j hj => by omega⟩
    case round =>
      obtain ⟨k, rfl, hk, rfl, ⟨n, rfl⟩, heq⟩ := hrel
      have heq' := hide heq
      clear heq
      by_cases hkl : k < lb
      · have ca := unhide hf' (la - 1 - k) (by omega)
        have cb := unhide hg' (lb - 1 - k) (by omega)
        by_cases hfg : f (la - 1 - k) = g (lb - 1 - k)
        · have hbe := u8_bne_same hfg
          have hnx : Hid (∀ j, j < k + 1 → f (la - 1 - j) = g (lb - 1 - j)) := fun j hj => by
            by_cases h : j < k
            · exact unhide heq' j h
            · have : j = k := by omega
              subst this; exact hfg
          clear hfg
          go_wp2_with fail
          go_quiet (fail)
          go_wp2_with fail
          go_roundg (lb - (k + 1))
          case measure => omega
          case rel => exact ⟨k + 1, rfl, by omega, by go_num, ⟨_, rfl⟩, unhide hnx⟩
        · have hbe := u8_bne hfg
          have HN := hide hfg
          clear hfg
          go_wp2_with fail
          go_quiet (fail)
          go_wp2_with fail
          go_ret
          exact ⟨⟨k, rfl, by omega, unhide heq', fun _ => unhide HN⟩, _, by rw [World.drewN_drewN]⟩
      · have : k = lb := by omega
        subst this
        go_wp2_with fail
        go_ret
        exact ⟨⟨k, rfl, by omega, unhide heq', fun h => by omega⟩, _, rfl⟩
  · have hmin : min la lb = la := Nat.min_eq_left (by omega)
    rw [hmin]
    clear hmin
    go_enter Yba.func6, Yba.ntmps6
    go_wp2_with fail
    go_loopg [6] la (fun gg i wr => ∃ k : Nat, gg = la - k ∧ k ≤ la ∧ i = .int .i64 k ∧ (∃ n, wr = w.drewN n) ∧ ∀ j, j < k → f (la - 1 - j) = g (lb - 1 - j))
    case atStart => exact ⟨0, by omega, by omega, rfl, ⟨0, rfl⟩, fun j hj => by omega⟩
    case round =>
      obtain ⟨k, rfl, hk, rfl, ⟨n, rfl⟩, heq⟩ := hrel
      have heq' := hide heq
      clear heq
      by_cases hkl : k < la
      · have ca := unhide hf' (la - 1 - k) (by omega)
        have cb := unhide hg' (lb - 1 - k) (by omega)
        by_cases hfg : f (la - 1 - k) = g (lb - 1 - k)
        · have hbe := u8_bne_same hfg
          have hnx : Hid (∀ j, j < k + 1 → f (la - 1 - j) = g (lb - 1 - j)) := fun j hj => by
            by_cases h : j < k
            · exact unhide heq' j h
            · have : j = k := by omega
              subst this; exact hfg
          clear hfg
          go_wp2_with fail
          go_quiet (fail)
          go_wp2_with fail
          go_roundg (la - (k + 1))
          case measure => omega
          case rel => exact ⟨k + 1, rfl, by omega, by go_num, ⟨_, rfl⟩, unhide hnx⟩
        · have hbe := u8_bne hfg
          have HN := hide hfg
          clear hfg
          go_wp2_with fail
          go_quiet (fail)
          go_wp2_with fail
          go_ret
          exact ⟨⟨k, rfl, by omega, unhide heq', fun _ => unhide HN⟩, _, by rw [World.drewN_drewN]⟩
      · have : k = la := by omega
        subst this
        go_wp2_with fail
        go_ret
        exact ⟨⟨k, rfl, by omega, unhide heq', fun h => by omega⟩, _, rfl⟩

/-- One of the two is empty. -/
theorem naive_empty (a b : Option Addr) (la ca lb cb : Nat) (f g : Nat → UInt8) (w : World) (hla : la ≤ 4096) (hlb : lb ≤ 4096) (h0 : min la lb = 0) :
    Calls Yba.prog 6 #[.slice a la ca, .slice b lb cb] w fun e w' => (∃ r : Nat, e = .returned (.int .i64 r) ∧ IsCS (fun k => f (la - 1 - k)) (fun k => g (lb - 1 - k)) (min la lb) r) ∧ ∃ n, w' = w.drewN n := by
  have hcs : Hid (IsCS (fun k => f (la - 1 - k)) (fun k => g (lb - 1 - k)) (min la lb) 0) := ⟨Nat.zero_le _, fun j hj => by omega, fun h => by omega⟩
  by_cases hlt : lb < la
  · obtain rfl : lb = 0 := by omega
    clear h0
    go_enter Yba.func6, Yba.ntmps6
    go_wp2_with fail
    go_loopg [6] 0 (fun _ i wr => i = .int .i64 0 ∧ wr = w)
    case atStart => exact ⟨rfl, rfl⟩
    case round =>
      obtain ⟨rfl, rfl⟩ := hrel
      go_wp2_with fail
      go_ret
      exact ⟨⟨0, rfl, unhide hcs⟩, 0, rfl⟩
  · obtain rfl : la = 0 := by omega
    clear h0
    go_enter Yba.func6, Yba.ntmps6
    go_wp2_with fail
    go_loopg [6] 0 (fun _ i wr => i = .int .i64 0 ∧ wr = w)
    case atStart => exact ⟨rfl, rfl⟩
    case round =>
      obtain ⟨rfl, rfl⟩ := hrel
      go_wp2_with fail
      go_ret
      exact ⟨⟨0, rfl, unhide hcs⟩, 0, rfl⟩
end Go.Proofs.Ybulkmtc
