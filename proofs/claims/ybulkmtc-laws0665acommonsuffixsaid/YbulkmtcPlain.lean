/- Plain laws: words of eight bytes, their xor, how many bytes are alike from the end. No Go in sight. -/
import Derived.Lib.EndianMore
import Derived.Lib.BitFns
import Derived.Lib.ItoaNum
namespace Go.Proofs.Ybulkmtc
open Go.Lib

/-- r bytes are alike, counted from 0; n at most; where r is less than n the next two differ. -/
def IsCS (fa fb : Nat → UInt8) (n r : Nat) : Prop := r ≤ n ∧ (∀ j, j < r → fa j = fb j) ∧ (r < n → fa r ≠ fb r)

theorem IsCS.unique {fa fb : Nat → UInt8} {n r r' : Nat} (h : IsCS fa fb n r) (h' : IsCS fa fb n r') : r = r' := by
  rcases Nat.lt_trichotomy r r' with hlt | he | hgt
  · exact absurd (h'.2.1 r hlt) (h.2.2 (by have := h'.1; omega))
  · exact he
  · exact absurd (h.2.1 r' hgt) (h'.2.2 (by have := h.1; omega))

theorem IsCS.symm {fa fb : Nat → UInt8} {n r : Nat} (h : IsCS fa fb n r) : IsCS fb fa n r :=
  ⟨h.1, fun j hj => (h.2.1 j hj).symm, fun hr e => h.2.2 hr e.symm⟩

theorem leNat_lt : ∀ l : List UInt8, leNat l < 256 ^ l.length
  | [] => by simp [leNat]
  | b :: r => by
    have h := leNat_lt r
    have hb := b.toNat_lt
    simp only [leNat, List.length_cons, Nat.pow_succ]
    omega

theorem leNat_inj : ∀ (l m : List UInt8), l.length = m.length → leNat l = leNat m → l = m
  | [], [], _, _ => rfl
  | [], _ :: _, h, _ => by simp at h
  | _ :: _, [], h, _ => by simp at h
  | a :: l, b :: m, hl, he => by
    simp only [leNat] at he
    have ha := a.toNat_lt
    have hb := b.toNat_lt
    have h1 : a.toNat = b.toNat := by omega
    have h2 : leNat l = leNat m := by omega
    rw [leNat_inj l m (by simpa using hl) h2, UInt8.toNat_inj.1 h1]

theorem leNat_div (l : List UInt8) (k : Nat) (hk : k ≤ l.length) : leNat l / 256 ^ k = leNat (l.drop k) := by
  have e : leNat l = leNat (l.take k) + 256 ^ k * leNat (l.drop k) := by
    have := leNat_append (l.take k) (l.drop k)
    rw [List.take_append_drop, List.length_take, Nat.min_eq_left hk] at this
    exact this
  have h := leNat_lt (l.take k)
  rw [List.length_take, Nat.min_eq_left hk] at h
  rw [e, Nat.add_mul_div_left _ _ (Nat.pow_pos (by omega)), Nat.div_eq_of_lt h, Nat.zero_add]

theorem pow_256 (k : Nat) : 256 ^ k = 2 ^ (8 * k) := by
  rw [show (256 : Nat) = 2 ^ 8 from rfl, ← Nat.pow_mul]

theorem xor_div (a b k : Nat) : (a ^^^ b) / 256 ^ k = (a / 256 ^ k) ^^^ (b / 256 ^ k) := by
  rw [pow_256, ← Nat.shiftRight_eq_div_pow, ← Nat.shiftRight_eq_div_pow, ← Nat.shiftRight_eq_div_pow, Nat.shiftRight_xor_distrib]

theorem xor_eq_zero {a b : Nat} : a ^^^ b = 0 ↔ a = b := by
  constructor
  · intro h
    apply Nat.eq_of_testBit_eq
    intro i
    have := congrArg (fun n => n.testBit i) h
    simp [Nat.testBit_xor] at this
    exact this
  · rintro rfl
    exact Nat.xor_self _

/-- The words agree from byte k on just where their xor has nothing from there on. -/
theorem xor_drop (l m : List UInt8) (hlm : l.length = m.length) (k : Nat) (hk : k ≤ l.length) : (leNat l ^^^ leNat m) / 256 ^ k = 0 ↔ l.drop k = m.drop k := by
  rw [xor_div, leNat_div l k hk, leNat_div m k (by omega), xor_eq_zero]
  constructor
  · exact leNat_inj _ _ (by simp [hlm])
  · intro h; rw [h]

/-- The xor's leading zeros, in bytes: so many of the words' last bytes are alike. -/
theorem lead (l m : List UInt8) (hl : l.length = 8) (hm : m.length = 8) (hx : leNat l ^^^ leNat m ≠ 0) :
    ∃ r : Nat, ((64 - (bitLen (leNat l ^^^ leNat m) : Int)) / 8 = r) ∧ r ≤ 7 ∧ l.drop (8 - r) = m.drop (8 - r) ∧ l.drop (7 - r) ≠ m.drop (7 - r) := by
  have h1 := leNat_lt l
  have h2 := leNat_lt m
  rw [hl] at h1
  rw [hm] at h2
  have hlt : leNat l ^^^ leNat m < 2 ^ 64 := Nat.xor_lt_two_pow (by simpa using h1) (by simpa using h2)
  obtain ⟨b1, b2, b3⟩ := bitLenAux_bounds 64 _ hlt hx
  have e : bitLen (leNat l ^^^ leNat m) = bitLenAux 64 (leNat l ^^^ leNat m) := rfl
  rw [e]
  have d := fun k (hk : k ≤ 8) => xor_drop l m (by omega) k (by omega)
  generalize leNat l ^^^ leNat m = X at *
  generalize hL : bitLenAux 64 X = L at *
  have hL64 : L ≤ 64 := by
    by_cases h : L ≤ 64
    · exact h
    · have : 2 ^ 64 ≤ 2 ^ (L - 1) := Nat.pow_le_pow_right (by omega) (by omega)
      omega
  refine ⟨(64 - L) / 8, by omega, by omega, ?_, ?_⟩
  · refine (d _ (by omega)).1 (Nat.div_eq_of_lt ?_)
    rw [pow_256]
    exact Nat.lt_of_lt_of_le b3 (Nat.pow_le_pow_right (by omega) (by omega))
  · intro h
    have hz := (d _ (by omega)).2 h
    have hge : 256 ^ (7 - (64 - L) / 8) ≤ X := by
      rw [pow_256]
      exact Nat.le_trans (Nat.pow_le_pow_right (by omega) (by omega)) b2
    have := Nat.div_pos hge (Nat.pow_pos (by omega))
    omega

/-- The word of eight bytes that begins at o. -/
def word (f : Nat → UInt8) (o : Nat) : List UInt8 := [f o, f (o + 1), f (o + 2), f (o + 3), f (o + 4), f (o + 5), f (o + 6), f (o + 7)]

theorem word_len (f : Nat → UInt8) (o : Nat) : (word f o).length = 8 := rfl

theorem word_get (f : Nat → UInt8) (o j : Nat) (hj : j < 8) : (word f o)[j]? = some (f (o + j)) := by
  have : j = 0 ∨ j = 1 ∨ j = 2 ∨ j = 3 ∨ j = 4 ∨ j = 5 ∨ j = 6 ∨ j = 7 := by omega
  rcases this with h | h | h | h | h | h | h | h <;> subst h <;> rfl

theorem word_drop (f g : Nat → UInt8) (o p k : Nat) : (word f o).drop k = (word g p).drop k ↔ ∀ j, k ≤ j → j < 8 → f (o + j) = g (p + j) := by
  constructor
  · intro h j hj hj8
    have := congrArg (fun l => l[j - k]?) h
    simp only [List.getElem?_drop, show k + (j - k) = j by omega, word_get f o j hj8, word_get g p j hj8] at this
    exact Option.some.inj this
  · intro h
    apply List.ext_getElem?
    intro i
    rw [List.getElem?_drop, List.getElem?_drop]
    by_cases hi : k + i < 8
    · rw [word_get f o _ hi, word_get g p _ hi, h (k + i) (by omega) hi]
    · rw [List.getElem?_eq_none (by rw [word_len]; omega), List.getElem?_eq_none (by rw [word_len]; omega)]

/-- All eight alike. -/
theorem word_same (f g : Nat → UInt8) (o p : Nat) (h : leNat (word f o) ^^^ leNat (word g p) = 0) : ∀ j, j < 8 → f (o + j) = g (p + j) := by
  have h1 := leNat_inj _ _ (by rw [word_len, word_len]) (xor_eq_zero.1 h)
  intro j hj
  have := congrArg (fun l => l[j]?) h1
  simp only [word_get f o j hj, word_get g p j hj] at this
  exact Option.some.inj this

/-- Not all alike: how many from the end. -/
theorem word_lead (f g : Nat → UInt8) (o p : Nat) (h : leNat (word f o) ^^^ leNat (word g p) ≠ 0) :
    ∃ r : Nat, ((64 - (bitLen (leNat (word f o) ^^^ leNat (word g p)) : Int)) / 8 = r) ∧ r ≤ 7 ∧ (∀ j, j < r → f (o + (7 - j)) = g (p + (7 - j))) ∧ f (o + (7 - r)) ≠ g (p + (7 - r)) := by
  obtain ⟨r, h1, h2, h3, h4⟩ := lead _ _ (word_len f o) (word_len g p) h
  rw [word_drop] at h3
  rw [Ne, word_drop] at h4
  refine ⟨r, h1, h2, fun j hj => h3 (7 - j) (by omega) (by omega), fun he => h4 fun j hj hj8 => ?_⟩
  by_cases e : j = 7 - r
  · rw [e]; exact he
  · exact h3 j (by omega) hj8

theorem word_lt (f : Nat → UInt8) (o : Nat) : leNat (word f o) < 18446744073709551616 := by
  have := leNat_lt (word f o)
  rw [word_len] at this
  simpa using this
end Go.Proofs.Ybulkmtc
