/- search.matchFrom, walked. -/
import Derived.Test.YbulkmtcDoorExp
namespace Go.Proofs.YbulkmtcDoor
open Go.RowKit Go.Lib

/-- A slice of bytes, its address too: without capacity, or a row. -/
def Sl (w : World) (a : Option Addr) (len cap : Nat) (f : Nat → UInt8) : Prop :=
  (len = 0 ∧ cap = 0) ∨ ∃ b o, a = some ⟨b, o, none⟩ ∧ b < w.heap.size ∧ 0 < cap ∧ len ≤ cap ∧ Bytes w b o len f

theorem Sl.isB {w : World} {a : Option Addr} {len cap : Nat} {f : Nat → UInt8} (h : Sl w a len cap f) : IsB w a len cap f := by
  rcases h with h | ⟨b, o, rfl, hl, _, hc, hf⟩
  · exact Or.inl h.1
  · exact Or.inr ⟨b, o, rfl, hl, hc, hf⟩

theorem Sl.le {w : World} {a : Option Addr} {len cap : Nat} {f : Nat → UInt8} (h : Sl w a len cap f) : len ≤ cap := by
  rcases h with ⟨h1, h2⟩ | ⟨b, o, rfl, hl, _, hc, hf⟩
  · omega
  · exact hc

theorem lt_of_cell {w : World} {b o : Nat} {v : Value} (h : w.cell? ⟨b, o, none⟩ = some v) : b < w.heap.size := by
  by_cases hb : b < w.heap.size
  · exact hb
  · simp [World.cell?, show w.heap[b]? = none from by simp; omega] at h

/-- A part of a slice. -/
theorem isB_part {w : World} {a : Option Addr} {len cap lo hi : Nat} {f : Nat → UInt8} {A : Option Addr} (hA : (if cap = lo then a else Option.map (fun x => x.add lo) a) = A) (hs : Sl w a len cap f) (hlh : lo ≤ hi) (hhl : hi ≤ len) :
    IsB w A (hi - lo) (cap - lo) (fun k => f (lo + k)) := by
  rcases hs with ⟨h1, _⟩ | ⟨b, o, rfl, hb, _, hc, hf⟩
  · exact Or.inl (by omega)
  · by_cases h0 : hi - lo = 0
    · exact Or.inl h0
    · rw [if_neg (by omega)] at hA
      subst hA
      refine Or.inr ⟨b, o + lo, by rw [Option.map_some, Go.WideShapes.add_plain], hb, by omega, fun i hi' => ?_⟩
      rw [Nat.add_assoc]
      exact hf (lo + i) (by omega)

set_option maxRecDepth 100000 in
set_option maxHeartbeats 1000000 in
theorem mf_out (sb : Nat) (a : Option Addr) (ln cn p i lim : Nat) (d : Int) (f : Nat → UInt8) (w : World) (hl : ln ≤ 8192) (hd : (i : Int) - d = (p : Int)) (hp : p ≤ ln) (hi : i ≤ lim) (hlim : lim ≤ ln) (hf : Sl w a ln cn f) (hs : w.cell? ⟨sb, 2, none⟩ = some (.slice a ln cn)) (hsb : sb < w.heap.size) (hT : Tab w) (hT1 : 1 < w.heap.size) :
    Calls Ybad.prog 5 #[.pointer (some ⟨sb, 0, none⟩), .agg #[.bool true, .int .i64 d], .int .i64 i, .int .i64 lim] w fun e w' => (∃ r : Nat, e = .returned (.int .i64 r) ∧ IsCS (fun k => f (p + k)) (fun k => f (i + k)) (min (ln - p) (lim - i)) r) ∧ Below w.heap.size w w' := by
  have x1 : IntKind.i64.wrap ((i : Int) - d) = ((p : Nat) : Int) := by rw [IntKind.wrap_i64]; omega
  have hc : ln ≤ cn := hf.le
  obtain ⟨A1, hA1⟩ : ∃ A, (if cn = p then a else Option.map (fun x => x.add p) a) = A := ⟨_, rfl⟩
  obtain ⟨A2, hA2⟩ : ∃ A, (if cn = i then a else Option.map (fun x => x.add i) a) = A := ⟨_, rfl⟩
  have hml : Hid (∀ X : World, (X.cell? ⟨sb, 2, none⟩ = some (.slice a ln cn) ∧ X.cell? ⟨w.heap.size, 1, none⟩ = some (.int .i64 d) ∧ Below w.heap.size w X) →
      Calls Ybad.prog 7 #[.slice A1 (ln - p) (cn - p), .slice A2 (lim - i) (cn - i)] X fun e w' => (∃ r : Nat, e = .returned (.int .i64 r) ∧ IsCS (fun k => f (p + k)) (fun k => f (i + k)) (min (ln - p) (lim - i)) r) ∧ (w'.cell? ⟨sb, 2, none⟩ = some (.slice a ln cn) ∧ w'.cell? ⟨w.heap.size, 1, none⟩ = some (.int .i64 d) ∧ Below w.heap.size w w')) := by
    rintro X ⟨s1, s2, hX⟩
    refine (ml_any A1 A2 (ln - p) (cn - p) (lim - i) (cn - i) (fun k => f (p + k)) (fun k => f (i + k)) X (by omega) ((isB_part hA1 hf hp (Nat.le_refl _)).below hX) ((isB_part hA2 hf hi hlim).below hX) (hT.below hX hT1) (Nat.lt_of_lt_of_le hT1 hX.size)).mono ?_
    rintro e w' ⟨hr, hb⟩
    exact ⟨hr, (hb.cell (lt_of_cell s1)).trans s1, (hb.cell (lt_of_cell s2)).trans s2, hX.trans (hb.mono hX.size)⟩
  have hB0 : Below w.heap.size w (w.alloc (.cells #[.bool true, .int .i64 d] 36)).drew := ((Below.refl _ _).alloc (Nat.le_refl _) _).drew
  have hS0 : Hid ((w.alloc (.cells #[.bool true, .int .i64 d] 36)).drew.cell? ⟨sb, 2, none⟩ = some (.slice a ln cn) ∧ (w.alloc (.cells #[.bool true, .int .i64 d] 36)).drew.cell? ⟨w.heap.size, 1, none⟩ = some (.int .i64 d) ∧ Below w.heap.size w (w.alloc (.cells #[.bool true, .int .i64 d] 36)).drew) := by
    refine ⟨?_, ?_, ((Below.refl _ _).alloc (Nat.le_refl _) _).drew⟩
    · exact (hB0.cell hsb).trans hs
    · simp [go_sem]
  clear hf hT hB0 hd
  go_enter Ybad.func5, Ybad.ntmps5
  go_wp2_with fail
  go_region_held (fun X => (X.cell? ⟨sb, 2, none⟩ = some (.slice a ln cn) ∧ X.cell? ⟨w.heap.size, 1, none⟩ = some (.int .i64 d) ∧ Below w.heap.size w X)) (first | assumption | exact unhide hS0) ((go_at_call 7; refine (unhide hml _ ?_).mono ?_; (assumption); rintro e w' ⟨⟨r, rfl, hr⟩, hSS⟩))
  go_wp2_with fail
  go_ret
  exact ⟨⟨r, rfl, hr⟩, hSS.2.2⟩

set_option maxRecDepth 100000 in
set_option maxHeartbeats 1000000 in
theorem mf_old (sb : Nat) (a b : Option Addr) (lo co ln cn p i lim : Nat) (f g : Nat → UInt8) (w : World) (hl0 : lo ≤ 8192) (hp : p ≤ lo) (hi : i ≤ lim) (hlim : lim ≤ ln) (hf : Sl w a lo co f) (hg : Sl w b ln cn g) (hs1 : w.cell? ⟨sb, 1, none⟩ = some (.slice a lo co)) (hs : w.cell? ⟨sb, 2, none⟩ = some (.slice b ln cn)) (hsb : sb < w.heap.size) (hT : Tab w) (hT1 : 1 < w.heap.size) :
    Calls Ybad.prog 5 #[.pointer (some ⟨sb, 0, none⟩), .agg #[.bool false, .int .i64 (p : Int)], .int .i64 i, .int .i64 lim] w fun e w' => (∃ r : Nat, e = .returned (.int .i64 r) ∧ IsCS (fun k => f (p + k)) (fun k => g (i + k)) (min (lo - p) (lim - i)) r) ∧ Below w.heap.size w w' := by
  have hc0 : lo ≤ co := hf.le
  have hc : ln ≤ cn := hg.le
  obtain ⟨A1, hA1⟩ : ∃ A, (if co = p then a else Option.map (fun x => x.add p) a) = A := ⟨_, rfl⟩
  obtain ⟨A2, hA2⟩ : ∃ A, (if cn = i then b else Option.map (fun x => x.add i) b) = A := ⟨_, rfl⟩
  have hml : Hid (∀ X : World, (X.cell? ⟨sb, 1, none⟩ = some (.slice a lo co) ∧ X.cell? ⟨sb, 2, none⟩ = some (.slice b ln cn) ∧ X.cell? ⟨w.heap.size, 1, none⟩ = some (.int .i64 (p : Int)) ∧ Below w.heap.size w X) →
      Calls Ybad.prog 7 #[.slice A1 (lo - p) (co - p), .slice A2 (lim - i) (cn - i)] X fun e w' => (∃ r : Nat, e = .returned (.int .i64 r) ∧ IsCS (fun k => f (p + k)) (fun k => g (i + k)) (min (lo - p) (lim - i)) r) ∧ (w'.cell? ⟨sb, 1, none⟩ = some (.slice a lo co) ∧ w'.cell? ⟨sb, 2, none⟩ = some (.slice b ln cn) ∧ w'.cell? ⟨w.heap.size, 1, none⟩ = some (.int .i64 (p : Int)) ∧ Below w.heap.size w w')) := by
    rintro X ⟨s0, s1, s2, hX⟩
    refine (ml_any A1 A2 (lo - p) (co - p) (lim - i) (cn - i) (fun k => f (p + k)) (fun k => g (i + k)) X (by omega) ((isB_part hA1 hf hp (Nat.le_refl _)).below hX) ((isB_part hA2 hg hi hlim).below hX) (hT.below hX hT1) (Nat.lt_of_lt_of_le hT1 hX.size)).mono ?_
    rintro e w' ⟨hr, hb⟩
    exact ⟨hr, (hb.cell (lt_of_cell s0)).trans s0, (hb.cell (lt_of_cell s1)).trans s1, (hb.cell (lt_of_cell s2)).trans s2, hX.trans (hb.mono hX.size)⟩
  have hB0 : Below w.heap.size w (w.alloc (.cells #[.bool false, .int .i64 (p : Int)] 36)).drew := ((Below.refl _ _).alloc (Nat.le_refl _) _).drew
  have hS0 : Hid ((w.alloc (.cells #[.bool false, .int .i64 (p : Int)] 36)).drew.cell? ⟨sb, 1, none⟩ = some (.slice a lo co) ∧ (w.alloc (.cells #[.bool false, .int .i64 (p : Int)] 36)).drew.cell? ⟨sb, 2, none⟩ = some (.slice b ln cn) ∧ (w.alloc (.cells #[.bool false, .int .i64 (p : Int)] 36)).drew.cell? ⟨w.heap.size, 1, none⟩ = some (.int .i64 (p : Int)) ∧ Below w.heap.size w (w.alloc (.cells #[.bool false, .int .i64 (p : Int)] 36)).drew) := by
    refine ⟨?_, ?_, ?_, ((Below.refl _ _).alloc (Nat.le_refl _) _).drew⟩
    · exact (hB0.cell hsb).trans hs1
    · exact (hB0.cell hsb).trans hs
    · simp [go_sem]
  clear hf hT hB0 hg
  go_enter Ybad.func5, Ybad.ntmps5
  go_wp2_with fail
  go_region_held (fun X => (X.cell? ⟨sb, 1, none⟩ = some (.slice a lo co) ∧ X.cell? ⟨sb, 2, none⟩ = some (.slice b ln cn) ∧ X.cell? ⟨w.heap.size, 1, none⟩ = some (.int .i64 (p : Int)) ∧ Below w.heap.size w X)) (first | assumption | exact unhide hS0) ((go_at_call 7; refine (unhide hml _ ?_).mono ?_; (assumption); rintro e w' ⟨⟨r, rfl, hr⟩, hSS⟩))
  go_wp2_with fail
  go_ret
  exact ⟨⟨r, rfl, hr⟩, hSS.2.2.2⟩

end Go.Proofs.YbulkmtcDoor
