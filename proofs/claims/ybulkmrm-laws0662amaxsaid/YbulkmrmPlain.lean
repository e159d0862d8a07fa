/- Plain definitions and laws over an idmap's state; one text without walks. -/
import Derived.Test.YbulkmrmGet
import Derived.Deep.OwnRows
namespace Go.Proofs.Ybulkmrm
open Go.RowKit Go.Maps

/-- One place of the array. -/
structure Pl where
  id : Nat
  v : Nat
  used : Bool
  sp : Nat

def Pl.zero : Pl := { id := 0, v := 0, used := false, sp := 0 }

def cellP (p : Pl) (r : Nat) : Value :=
  if r = 0 then .int .u64 p.id else if r = 1 then .int .u64 p.v else if r = 2 then .bool p.used else .int .i32 p.sp

def flat (pl : Nat → Pl) (k : Nat) : Value := cellP (pl (k / 4)) (k % 4)

theorem flat0 (pl : Nat → Pl) (i : Nat) : flat pl (i * 4) = .int .u64 (pl i).id := by
  simp [flat, cellP]
theorem flat1 (pl : Nat → Pl) (i : Nat) : flat pl (i * 4 + 1) = .int .u64 (pl i).v := by
  have a : (i * 4 + 1) / 4 = i := by omega
  have b : (i * 4 + 1) % 4 = 1 := by omega
  simp [flat, cellP, a, b]
theorem flat2 (pl : Nat → Pl) (i : Nat) : flat pl (i * 4 + 2) = .bool (pl i).used := by
  have a : (i * 4 + 2) / 4 = i := by omega
  have b : (i * 4 + 2) % 4 = 2 := by omega
  simp [flat, cellP, a, b]
theorem flat3 (pl : Nat → Pl) (i : Nat) : flat pl (i * 4 + 3) = .int .i32 (pl i).sp := by
  have a : (i * 4 + 3) / 4 = i := by omega
  have b : (i * 4 + 3) % 4 = 3 := by omega
  simp [flat, cellP, a, b]

/-- The array of twice the places behind k rounds of grow's loop. -/
def growing (pl : Nat → Pl) (L k : Nat) (j : Nat) : Pl :=
  if j % L < k ∧ (pl (j % L)).used = true ∧ (pl (j % L)).id % (2 * L) = j then pl (j % L) else Pl.zero

/-- Place i is now p. -/
def setPl (pl : Nat → Pl) (i : Nat) (p : Pl) (j : Nat) : Pl := if j = i then p else pl j

theorem flat_setPl (pl : Nat → Pl) (i : Nat) (p : Pl) (k : Nat) :
    flat (setPl pl i p) k = if k = i * 4 + 3 then .int .i32 p.sp else if k = i * 4 + 2 then .bool p.used else if k = i * 4 + 1 then .int .u64 p.v else if k = i * 4 then .int .u64 p.id else flat pl k := by
  by_cases h3 : k = i * 4 + 3
  · subst h3; rw [flat3, if_pos rfl]; simp [setPl]
  by_cases h2 : k = i * 4 + 2
  · subst h2; rw [flat2, if_neg h3, if_pos rfl]; simp [setPl]
  by_cases h1 : k = i * 4 + 1
  · subst h1; rw [flat1, if_neg h3, if_neg h2, if_pos rfl]; simp [setPl]
  by_cases h0 : k = i * 4
  · subst h0; rw [flat0, if_neg h3, if_neg h2, if_neg h1, if_pos rfl]; simp [setPl]
  rw [if_neg h3, if_neg h2, if_neg h1, if_neg h0]
  have : k / 4 ≠ i := by omega
  simp [flat, setPl, this]

theorem growing_start (pl : Nat → Pl) (L j : Nat) : growing pl L 0 j = Pl.zero := by simp [growing]

theorem growing_skip (pl : Nat → Pl) (L k j : Nat) (h : (pl k).used = false) : growing pl L (k + 1) j = growing pl L k j := by
  unfold growing
  by_cases e : j % L = k
  · rw [e]; simp [h]
  · have : (j % L < k + 1) ↔ (j % L < k) := by omega
    simp [this]

theorem growing_step (pl : Nat → Pl) (L k : Nat) (h : (pl k).used = true) (hf : (pl k).id % L = k) (j : Nat) :
    growing pl L (k + 1) j = setPl (growing pl L k) ((pl k).id % (2 * L)) (pl k) j := by
  have hm : (pl k).id % (2 * L) % L = k := by rw [Nat.mod_mul_left_mod]; exact hf
  unfold setPl
  by_cases e : j = (pl k).id % (2 * L)
  · rw [if_pos e]
    subst e
    simp [growing, hm, h]
  · rw [if_neg e]
    unfold growing
    by_cases e2 : j % L = k
    · have : ¬ (pl k).id % (2 * L) = j := fun x => e x.symm
      rw [e2]; simp [this]
    · have : (j % L < k + 1) ↔ (j % L < k) := by omega
      simp [this]
end Go.Proofs.Ybulkmrm
