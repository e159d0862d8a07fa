/- An element of elems; bytes.Equal and zzs0675beq, walked. -/
import Derived.Test.YbulkmymRows
import Derived.Laws.BytesArg
import Derived.Shelf.Bytes.SlSmallAll
import Derived.WalkKit
import Derived.WalkSpells
import Derived.WalkLawsBesides
import Derived.BigQuiet
import Derived.Deep.QuietTactic
import Derived.Deep.LoopGhost
import Derived.Below
namespace Go.Proofs.Ybulkmym
open Go.RowKit Go.Lib

theorem hide {p : Prop} (h : p) : Hid p := h
theorem unhide {p : Prop} (h : Hid p) : p := h

theorem below_drewN {B : Nat} {a w : World} (h : Below B a w) (n : Nat) : Below B a (w.drewN n) := ⟨h.os, h.tape, h.output, h.size, h.block⟩

theorem lt_of_cell {w : World} {b o : Nat} {v : Value} (h : w.cell? ⟨b, o, none⟩ = some v) : b < w.heap.size := by
  by_cases hb : b < w.heap.size
  · exact hb
  · simp [World.cell?, show w.heap[b]? = none from by simp; omega] at h

/-- An element: a slice of bytes that lies below B. -/
def El (w : World) (B : Nat) (a : Option Addr) (l : Nat) : Prop :=
  l ≤ maxLen ∧ (l = 0 ∨ ∃ b o, ∃ xs : List Int, a = some ⟨b, o, none⟩ ∧ b < B ∧ xs.length = l ∧ ∀ i, i < l → w.cell? ⟨b, o + i, none⟩ = some (.int .u8 (xs.getD i 0)))

theorem El.below {w w' : World} {B : Nat} {a : Option Addr} {l : Nat} (h : El w B a l) (hb : Below B w w') : El w' B a l := by
  refine ⟨h.1, ?_⟩
  rcases h.2 with h | ⟨b, o, xs, rfl, hl, hx, hc⟩
  · exact Or.inl h
  · exact Or.inr ⟨b, o, xs, rfl, hl, hx, fun i hi => (hb.cell (p := ⟨b, o + i, none⟩) hl).trans (hc i hi)⟩

theorem El.conv {w : World} {B : Nat} {a : Option Addr} {l : Nat} (h : El w B a l) (c : Nat) : ∃ s, (convert 34 9 (.slice a l c)).run Yba.prog w = .ok (.string s) w := by
  rcases h.2 with rfl | ⟨b, o, xs, rfl, hl, hx, hc⟩
  · exact ⟨_, run_convert_bytes_zero (P := Yba.prog) w 34 5 Yba.underlying34 Yba.underlying5 a c 9 Yba.underlying9⟩
  · exact ⟨_, run_convert_bytes_arg (P := Yba.prog) w 34 5 Yba.underlying34 Yba.underlying5 b o l c xs hx hc 9 Yba.underlying9⟩

set_option maxRecDepth 100000 in
/-- bytes.Equal of a slice with itself. -/
theorem eq_self (a : Option Addr) (l c B : Nat) (w : World) (h : El w B a l) :
    Calls Yba.prog 5 #[.slice a l c, .slice a l c] w fun e w' => e = .returned (.bool true) ∧ w' = w := by
  obtain ⟨s, hs⟩ := h.conv c
  have hs' := hide hs
  clear h hs
  go_enter Yba.func5, Yba.ntmps5
  go_wp2_with (simp only [unhide hs'])
  go_ret
  exact ⟨by simp, rfl⟩

/-- A row of elements: below B, or without element. -/
def Ro (w : World) (B : Nat) (a : Option Addr) (n : Nat) (v : Nat → Value) : Prop :=
  n = 0 ∨ ∃ b o, a = some ⟨b, o, none⟩ ∧ b < B ∧ ∀ i, i < n → w.cell? ⟨b, o + i, none⟩ = some (v i)

theorem Ro.below {w w' : World} {B : Nat} {a : Option Addr} {n : Nat} {v : Nat → Value} (h : Ro w B a n v) (hb : Below B w w') : Ro w' B a n v := by
  rcases h with h | ⟨b, o, rfl, hl, hc⟩
  · exact Or.inl h
  · exact Or.inr ⟨b, o, rfl, hl, fun i hi => (hb.cell (p := ⟨b, o + i, none⟩) hl).trans (hc i hi)⟩

set_option maxRecDepth 100000 in
theorem beq_zero (a b : Option Addr) (c d : Nat) (w : World) :
    Calls Yba.prog 6 #[.slice a 0 c, .slice b 0 d] w fun e w' => e = .returned (.bool true) ∧ ∃ k, w' = w.drewN k := by
  go_enter Yba.func6, Yba.ntmps6
  go_wp2_with fail
  go_loopg [5] 0 (fun _ i wr => i = .int .i64 0 ∧ wr = w)
  case atStart => exact ⟨rfl, rfl⟩
  case round =>
    obtain ⟨rfl, rfl⟩ := hrel
    go_wp2_with fail
    go_ret
    exact ⟨rfl, 0, rfl⟩

set_option maxRecDepth 100000 in
set_option maxHeartbeats 1000000 in
theorem beq_some (ab ao bb bo n c d B : Nat) (A : Nat → Option Addr) (L C : Nat → Nat) (w : World) (hn : n ≤ 256) (ha : ∀ i, i < n → w.cell? ⟨ab, ao + i, none⟩ = some (.slice (A i) (L i) (C i))) (hb : ∀ i, i < n → w.cell? ⟨bb, bo + i, none⟩ = some (.slice (A i) (L i) (C i))) (hE : ∀ i, i < n → El w B (A i) (L i)) :
    Calls Yba.prog 6 #[.slice (some ⟨ab, ao, none⟩) n c, .slice (some ⟨bb, bo, none⟩) n d] w fun e w' => e = .returned (.bool true) ∧ ∃ k, w' = w.drewN k := by
  have ha' := hide ha
  have hb' := hide hb
  have hE' := hide hE
  clear ha hb hE
  go_enter Yba.func6, Yba.ntmps6
  go_wp2_with fail
  go_loopg [5] n (fun gg i' wr => ∃ k : Nat, gg = n - k ∧ k ≤ n ∧ i' = .int .i64 k ∧ ∃ m, wr = w.drewN m)
  case atStart => exact ⟨0, by omega, by omega, rfl, 0, rfl⟩
  case round =>
    obtain ⟨k, rfl, hk, rfl, m, hm⟩ := hrel
    have HM := hide hm
    by_cases hkn : k < n
    · have ca : wr.cell? ⟨ab, ao + k, none⟩ = some (.slice (A k) (L k) (C k)) := by rw [hm]; exact unhide ha' k hkn
      have cb : wr.cell? ⟨bb, bo + k, none⟩ = some (.slice (A k) (L k) (C k)) := by rw [hm]; exact unhide hb' k hkn
      have hq := hide (fun X (hX : El X B (A k) (L k)) => eq_self (A k) (L k) (C k) B X hX)
      have hE1 : Hid (El wr B (A k) (L k)) := by rw [hm]; exact unhide hE' k hkn
      clear hm
      have d1 : decide ((k : Int) < (n : Int)) = true := by simp; omega
      go_wp2_with fail
      go_quiet (first | (go_at_call 5; refine Calls.quiet_of_same (unhide hq _ ?_); exact unhide hE1))
      go_wp2_with fail
      go_roundg (n - (k + 1))
      case measure => omega
      case rel => exact ⟨k + 1, rfl, by omega, by go_num, _, by rw [unhide HM, World.drewN_drewN]⟩
    · have : k = n := by omega
      subst this
      clear hm
      have d1 : decide ((k : Int) < (k : Int)) = false := by simp
      go_wp2_with fail
      go_ret
      exact ⟨rfl, _, unhide HM⟩

theorem beq_any (a b : Option Addr) (n c d B B1 B2 : Nat) (A : Nat → Option Addr) (L C : Nat → Nat) (w : World) (hn : n ≤ 256) (ha : Ro w B1 a n (fun i => .slice (A i) (L i) (C i))) (hb : Ro w B2 b n (fun i => .slice (A i) (L i) (C i))) (hE : ∀ i, i < n → El w B (A i) (L i)) :
    Calls Yba.prog 6 #[.slice a n c, .slice b n d] w fun e w' => e = .returned (.bool true) ∧ ∃ k, w' = w.drewN k := by
  by_cases h0 : n = 0
  · subst h0; exact beq_zero a b c d w
  · rcases ha with h | ⟨ab, ao, rfl, _, ha⟩
    · omega
    · rcases hb with h | ⟨bb, bo, rfl, _, hb⟩
      · omega
      · exact beq_some ab ao bb bo n c d B A L C w hn ha hb hE
end Go.Proofs.Ybulkmym
