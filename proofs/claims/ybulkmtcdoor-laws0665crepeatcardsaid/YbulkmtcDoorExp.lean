/- zzs0665cexp, walked. -/
import Derived.Test.YbulkmtcDoorMl
namespace Go.Proofs.YbulkmtcDoor
open Go.RowKit Go.Lib

set_option maxRecDepth 100000 in
set_option maxHeartbeats 1000000 in
theorem exp_some (ab ao ls cs bb bo lb cb p i lim : Nat) (f g : Nat → UInt8) (w : World) (hls : ls ≤ 8192) (hlb : lb ≤ 8192) (hp : p ≤ ls) (hi : i ≤ lim) (hl : lim ≤ lb) (hf : Bytes w ab ao ls f) (hg : Bytes w bb bo lb g) :
    Calls Ybad.prog 6 #[.slice (some ⟨ab, ao, none⟩) ls cs, .int .i64 p, .slice (some ⟨bb, bo, none⟩) lb cb, .int .i64 i, .int .i64 lim] w fun e w' => (∃ r : Nat, e = .returned (.int .i64 r) ∧ IsCS (fun k => f (p + k)) (fun k => g (i + k)) (min (ls - p) (lim - i)) r) ∧ ∃ n, w' = w.drewN n := by
  have hf' := hide hf
  have hg' := hide hg
  clear hf hg
  have hn1 : min (ls - p) (lim - i) ≤ ls - p := Nat.min_le_left _ _
  have hn2 : min (ls - p) (lim - i) ≤ lim - i := Nat.min_le_right _ _
  have hn3 : min (ls - p) (lim - i) = ls - p ∨ min (ls - p) (lim - i) = lim - i := by omega
  generalize min (ls - p) (lim - i) = N at *
  have hn3' := hide hn3
  clear hn3
  go_enter Ybad.func6, Ybad.ntmps6
  go_wp2_with fail
  go_loopg [11] N (fun gg i' wr => ∃ k : Nat, gg = N - k ∧ k ≤ N ∧ i' = .int .i64 k ∧ (∃ n, wr = w.drewN n) ∧ ∀ j, j < k → f (p + j) = g (i + j))
  case atStart => exact ⟨0, by omega, by omega, rfl, ⟨0, rfl⟩, fun j hj => by omega⟩
  case round =>
    obtain ⟨k, rfl, hk, rfl, ⟨n, rfl⟩, heq⟩ := hrel
    have heq' := hide heq
    clear heq
    have x1 : IntKind.i64.wrap ((i : Int) + (k : Int)) = ((i + k : Nat) : Int) := by rw [IntKind.wrap_i64]; omega
    have x2 : IntKind.i64.wrap ((p : Int) + (k : Int)) = ((p + k : Nat) : Int) := by rw [IntKind.wrap_i64]; omega
    by_cases hkl : k < N
    · have ca := unhide hf' (p + k) (by omega)
      have cb := unhide hg' (i + k) (by omega)
      have d1 : decide ((i : Int) + (k : Int) < (lim : Int)) = true := by simp; omega
      have d2 : decide ((p : Int) + (k : Int) < (ls : Int)) = true := by simp; omega
      have z1 : p + k < ls := by omega
      have z2 : i + k < lb := by omega
      by_cases hfg : f (p + k) = g (i + k)
      · have hbe : (((f (p + k)).toNat : Int) == ((g (i + k)).toNat : Int)) = true := by rw [hfg]; simp
        have hnx : Hid (∀ j, j < k + 1 → f (p + j) = g (i + j)) := fun j hj => by
          by_cases h : j < k
          · exact unhide heq' j h
          · have : j = k := by omega
            subst this; exact hfg
        clear hfg
        go_wp2_with fail
        go_quiet (fail)
        go_wp2_with fail
        go_roundg (N - (k + 1))
        case measure => omega
        case rel => exact ⟨k + 1, rfl, by omega, by go_num, ⟨_, rfl⟩, unhide hnx⟩
      · have hbe := u8_ne hfg
        have HN := hide hfg
        clear hfg
        go_wp2_with fail
        go_quiet (fail)
        go_wp2_with fail
        go_ret
        exact ⟨⟨k, rfl, by omega, unhide heq', fun _ => unhide HN⟩, _, by rw [World.drewN_drewN]⟩
    · have hkn : k = N := by omega
      subst hkn
      by_cases h1 : i + k < lim
      · have d1 : decide ((i : Int) + (k : Int) < (lim : Int)) = true := by simp; omega
        have d2 : decide ((p : Int) + (k : Int) < (ls : Int)) = false := by have := unhide hn3'; simp; omega
        go_wp2_with fail
        go_quiet (fail)
        go_wp2_with fail
        go_ret
        exact ⟨⟨k, rfl, by omega, unhide heq', fun h => by omega⟩, _, by rw [World.drewN_drewN]⟩
      · have d1 : decide ((i : Int) + (k : Int) < (lim : Int)) = false := by simp; omega
        go_wp2_with fail
        go_quiet (fail)
        go_wp2_with fail
        go_ret
        exact ⟨⟨k, rfl, by omega, unhide heq', fun h => by omega⟩, _, by rw [World.drewN_drewN]⟩

set_option maxRecDepth 100000 in
theorem exp_zero (a b : Option Addr) (ls cs lb cb p i lim : Nat) (f g : Nat → UInt8) (w : World) (hls : ls ≤ 8192) (hlb : lb ≤ 8192) (hp : p ≤ ls) (hi : i ≤ lim) (hl : lim ≤ lb) (h0 : min (ls - p) (lim - i) = 0) :
    Calls Ybad.prog 6 #[.slice a ls cs, .int .i64 p, .slice b lb cb, .int .i64 i, .int .i64 lim] w fun e w' => (∃ r : Nat, e = .returned (.int .i64 r) ∧ IsCS (fun k => f (p + k)) (fun k => g (i + k)) (min (ls - p) (lim - i)) r) ∧ ∃ n, w' = w.drewN n := by
  have hcs : Hid (IsCS (fun k => f (p + k)) (fun k => g (i + k)) (min (ls - p) (lim - i)) 0) := ⟨Nat.zero_le _, fun j hj => by omega, fun h => by omega⟩
  have x1 : IntKind.i64.wrap (i : Int) = (i : Int) := by rw [IntKind.wrap_i64]; omega
  have x2 : IntKind.i64.wrap (p : Int) = (p : Int) := by rw [IntKind.wrap_i64]; omega
  by_cases h1 : i < lim
  · have d1 : decide ((i : Int) < (lim : Int)) = true := by simp; omega
    have d2 : decide (p < ls) = false := by simp; omega
    clear h0
    go_enter Ybad.func6, Ybad.ntmps6
    go_wp2_with fail
    go_loopg [11] 0 (fun _ i' wr => i' = .int .i64 0 ∧ wr = w)
    case atStart => exact ⟨rfl, rfl⟩
    case round =>
      obtain ⟨rfl, rfl⟩ := hrel
      go_wp2_with fail
      go_quiet (fail)
      go_wp2_with fail
      go_ret
      exact ⟨⟨0, rfl, unhide hcs⟩, _, rfl⟩
  · have d1 : decide ((i : Int) < (lim : Int)) = false := by simp; omega
    clear h0
    go_enter Ybad.func6, Ybad.ntmps6
    go_wp2_with fail
    go_loopg [11] 0 (fun _ i' wr => i' = .int .i64 0 ∧ wr = w)
    case atStart => exact ⟨rfl, rfl⟩
    case round =>
      obtain ⟨rfl, rfl⟩ := hrel
      go_wp2_with fail
      go_quiet (fail)
      go_wp2_with fail
      go_ret
      exact ⟨⟨0, rfl, unhide hcs⟩, _, rfl⟩

theorem exp_any (a b : Option Addr) (ls cs lb cb p i lim : Nat) (f g : Nat → UInt8) (w : World) (hls : ls ≤ 8192) (hlb : lb ≤ 8192) (hp : p ≤ ls) (hi : i ≤ lim) (hl : lim ≤ lb) (ha : IsB w a ls cs f) (hb : IsB w b lb cb g) :
    Calls Ybad.prog 6 #[.slice a ls cs, .int .i64 p, .slice b lb cb, .int .i64 i, .int .i64 lim] w fun e w' => (∃ r : Nat, e = .returned (.int .i64 r) ∧ IsCS (fun k => f (p + k)) (fun k => g (i + k)) (min (ls - p) (lim - i)) r) ∧ ∃ n, w' = w.drewN n := by
  rcases ha with h | ⟨ab, ao, rfl, _, _, hf⟩
  · exact exp_zero a b ls cs lb cb p i lim f g w hls hlb hp hi hl (by omega)
  · rcases hb with h | ⟨bb, bo, rfl, _, _, hg⟩
    · exact exp_zero _ b ls cs lb cb p i lim f g w hls hlb hp hi hl (by omega)
    · exact exp_some ab ao ls cs bb bo lb cb p i lim f g w hls hlb hp hi hl hf hg
end Go.Proofs.YbulkmtcDoor
