/- Plain laws: words of eight bytes, their xor, how many bytes are alike from the start. No Go in sight. -/
import Derived.Lib.EndianMore
import Derived.Lib.TrailingZeros
namespace Go.Proofs.YbulkmtcDoor
open Go.Lib

/-- r bytes are alike, counted from 0; n at most; where r is less than n the next two differ. -/
def IsCS (fa fb : Nat → UInt8) (n r : Nat) : Prop := r ≤ n ∧ (∀ j, j < r → fa j = fb j) ∧ (r < n → fa r ≠ fb r)

theorem IsCS.unique {fa fb : Nat → UInt8} {n r r' : Nat} (h : IsCS fa fb n r) (h' : IsCS fa fb n r') : r = r' := by
  rcases Nat.lt_trichotomy r r' with hlt | he | hgt
  · exact absurd (h'.2.1 r hlt) (h.2.2 (by have := h'.1; omega))
  · exact he
  · exact absurd (h.2.1 r' hgt) (h'.2.2 (by have := h.1; omega))

theorem IsCS.symm {fa fb : Nat → UInt8} {n r : Nat} (h : IsCS fa fb n r) : IsCS fb fa n r :=
  ⟨h.1, fun j hj => (h.2.1 j hj).symm, fun hr e => h.2.2 hr e.symm⟩

theorem leNat_lt : ∀ l : List UInt8, leNat l < 256 ^ l.length
  | [] => by simp [leNat]
  | b :: r => by
    have h := leNat_lt r
    have hb := b.toNat_lt
    simp only [leNat, List.length_cons, Nat.pow_succ]
    omega

theorem leNat_inj : ∀ (l m : List UInt8), l.length = m.length → leNat l = leNat m → l = m
  | [], [], _, _ => rfl
  | [], _ :: _, h, _ => by simp at h
  | _ :: _, [], h, _ => by simp at h
  | a :: l, b :: m, hl, he => by
    simp only [leNat] at he
    have ha := a.toNat_lt
    have hb := b.toNat_lt
    have h1 : a.toNat = b.toNat := by omega
    have h2 : leNat l = leNat m := by omega
    rw [leNat_inj l m (by simpa using hl) h2, UInt8.toNat_inj.1 h1]

theorem leNat_div (l : List UInt8) (k : Nat) (hk : k ≤ l.length) : leNat l / 256 ^ k = leNat (l.drop k) := by
  have e : leNat l = leNat (l.take k) + 256 ^ k * leNat (l.drop k) := by
    have := leNat_append (l.take k) (l.drop k)
    rw [List.take_append_drop, List.length_take, Nat.min_eq_left hk] at this
    exact this
  have h := leNat_lt (l.take k)
  rw [List.length_take, Nat.min_eq_left hk] at h
  rw [e, Nat.add_mul_div_left _ _ (Nat.pow_pos (by omega)), Nat.div_eq_of_lt h, Nat.zero_add]

theorem pow_256 (k : Nat) : 256 ^ k = 2 ^ (8 * k) := by
  rw [show (256 : Nat) = 2 ^ 8 from rfl, ← Nat.pow_mul]

theorem xor_div (a b k : Nat) : (a ^^^ b) / 256 ^ k = (a / 256 ^ k) ^^^ (b / 256 ^ k) := by
  rw [pow_256, ← Nat.shiftRight_eq_div_pow, ← Nat.shiftRight_eq_div_pow, ← Nat.shiftRight_eq_div_pow, Nat.shiftRight_xor_distrib]

theorem xor_eq_zero {a b : Nat} : a ^^^ b = 0 ↔ a = b := by
  constructor
  · intro h
    apply Nat.eq_of_testBit_eq
    intro i
    have := congrArg (fun n => n.testBit i) h
    simp [Nat.testBit_xor] at this
    exact this
  · rintro rfl
    exact Nat.xor_self _

/-- The words agree from byte k on just where their xor has nothing from there on. -/
theorem xor_drop (l m : List UInt8) (hlm : l.length = m.length) (k : Nat) (hk : k ≤ l.length) : (leNat l ^^^ leNat m) / 256 ^ k = 0 ↔ l.drop k = m.drop k := by
  rw [xor_div, leNat_div l k hk, leNat_div m k (by omega), xor_eq_zero]
  constructor
  · exact leNat_inj _ _ (by simp [hlm])
  · intro h; rw [h]

theorem leNat_mod (l : List UInt8) (k : Nat) (hk : k ≤ l.length) : leNat l % 256 ^ k = leNat (l.take k) := by
  have e : leNat l = leNat (l.take k) + 256 ^ k * leNat (l.drop k) := by
    have := leNat_append (l.take k) (l.drop k)
    rw [List.take_append_drop, List.length_take, Nat.min_eq_left hk] at this
    exact this
  have h := leNat_lt (l.take k)
  rw [List.length_take, Nat.min_eq_left hk] at h
  rw [e, Nat.add_mul_mod_self_left, Nat.mod_eq_of_lt h]

theorem xor_mod (a b k : Nat) : (a ^^^ b) % 256 ^ k = (a % 256 ^ k) ^^^ (b % 256 ^ k) := by
  rw [pow_256, Nat.xor_mod_two_pow]

/-- The words agree up to byte k just where their xor has nothing up to there. -/
theorem xor_take (l m : List UInt8) (hlm : l.length = m.length) (k : Nat) (hk : k ≤ l.length) : (leNat l ^^^ leNat m) % 256 ^ k = 0 ↔ l.take k = m.take k := by
  rw [xor_mod, leNat_mod l k hk, leNat_mod m k (by omega), xor_eq_zero]
  constructor
  · exact leNat_inj _ _ (by simp [hlm])
  · intro h; rw [h]

/-- The xor's trailing zeros, in bytes: so many of the words' first bytes are alike. -/
theorem trail (l m : List UInt8) (hl : l.length = 8) (hm : m.length = 8) (hx : leNat l ^^^ leNat m ≠ 0) :
    ∃ r : Nat, ctz 64 (leNat l ^^^ leNat m) / 8 = r ∧ r ≤ 7 ∧ ctz 64 (leNat l ^^^ leNat m) ≤ 63 ∧ l.take r = m.take r ∧ l.take (r + 1) ≠ m.take (r + 1) := by
  have h1 := leNat_lt l
  have h2 := leNat_lt m
  rw [hl] at h1
  rw [hm] at h2
  have hlt : leNat l ^^^ leNat m < 2 ^ 64 := Nat.xor_lt_two_pow (by simpa using h1) (by simpa using h2)
  obtain ⟨o, b1, b2⟩ := ctzFrom_spec 64 _ (Nat.pos_of_ne_zero hx) hlt
  have e : ctz 64 (leNat l ^^^ leNat m) = ctzFrom 64 (leNat l ^^^ leNat m) := by simp [ctz, hx]
  rw [e]
  have d := fun k (hk : k ≤ 8) => xor_take l m (by omega) k (by omega)
  generalize leNat l ^^^ leNat m = X at *
  generalize ctzFrom 64 X = c at *
  refine ⟨c / 8, rfl, by omega, by omega, ?_, ?_⟩
  · refine (d _ (by omega)).1 ?_
    rw [pow_256, b1]
    have : 2 ^ c = 2 ^ (8 * (c / 8)) * 2 ^ (c - 8 * (c / 8)) := by rw [← Nat.pow_add]; congr 1; omega
    rw [this, Nat.mul_assoc, Nat.mul_mod_right]
  · intro h
    have hz := (d _ (by omega)).2 h
    rw [pow_256] at hz
    have hdvd : 2 ^ (8 * (c / 8 + 1)) ∣ X := Nat.dvd_of_mod_eq_zero hz
    have h3 : 2 ^ (c + 1) ∣ 2 ^ (8 * (c / 8 + 1)) := Nat.pow_dvd_pow 2 (by omega)
    have h4 : 2 ^ (c + 1) ∣ 2 ^ c * (2 * o + 1) := b1 ▸ Nat.dvd_trans h3 hdvd
    rw [Nat.pow_succ] at h4
    have h5 : 2 ∣ 2 * o + 1 := Nat.dvd_of_mul_dvd_mul_left (Nat.pow_pos (by omega)) h4
    omega

/-- The word of eight bytes that begins at o. -/
def word (f : Nat → UInt8) (o : Nat) : List UInt8 := [f o, f (o + 1), f (o + 2), f (o + 3), f (o + 4), f (o + 5), f (o + 6), f (o + 7)]

theorem word_len (f : Nat → UInt8) (o : Nat) : (word f o).length = 8 := rfl

theorem word_get (f : Nat → UInt8) (o j : Nat) (hj : j < 8) : (word f o)[j]? = some (f (o + j)) := by
  have : j = 0 ∨ j = 1 ∨ j = 2 ∨ j = 3 ∨ j = 4 ∨ j = 5 ∨ j = 6 ∨ j = 7 := by omega
  rcases this with h | h | h | h | h | h | h | h <;> subst h <;> rfl

theorem word_take (f g : Nat → UInt8) (o p k : Nat) (hk : k ≤ 8) : (word f o).take k = (word g p).take k ↔ ∀ j, j < k → f (o + j) = g (p + j) := by
  constructor
  · intro h j hj
    have := congrArg (fun l => l[j]?) h
    simp only [List.getElem?_take_of_lt hj, word_get f o j (by omega), word_get g p j (by omega)] at this
    exact Option.some.inj this
  · intro h
    apply List.ext_getElem?
    intro i
    by_cases hi : i < k
    · rw [List.getElem?_take_of_lt hi, List.getElem?_take_of_lt hi, word_get f o _ (by omega), word_get g p _ (by omega), h i hi]
    · rw [List.getElem?_eq_none (by rw [List.length_take, word_len]; omega), List.getElem?_eq_none (by rw [List.length_take, word_len]; omega)]

/-- All eight alike. -/
theorem word_same (f g : Nat → UInt8) (o p : Nat) (h : leNat (word f o) ^^^ leNat (word g p) = 0) : ∀ j, j < 8 → f (o + j) = g (p + j) := by
  have h1 := leNat_inj _ _ (by rw [word_len, word_len]) (xor_eq_zero.1 h)
  intro j hj
  have := congrArg (fun l => l[j]?) h1
  simp only [word_get f o j hj, word_get g p j hj] at this
  exact Option.some.inj this

/-- Not all alike: how many from the start. -/
theorem word_trail (f g : Nat → UInt8) (o p : Nat) (h : leNat (word f o) ^^^ leNat (word g p) ≠ 0) :
    ∃ r : Nat, ctz 64 (leNat (word f o) ^^^ leNat (word g p)) / 8 = r ∧ r ≤ 7 ∧ ctz 64 (leNat (word f o) ^^^ leNat (word g p)) ≤ 63 ∧ (∀ j, j < r → f (o + j) = g (p + j)) ∧ f (o + r) ≠ g (p + r) := by
  obtain ⟨r, h1, h2, h3, h4, h5⟩ := trail _ _ (word_len f o) (word_len g p) h
  rw [word_take _ _ _ _ _ (by omega)] at h4
  rw [Ne, word_take _ _ _ _ _ (by omega)] at h5
  refine ⟨r, h1, h2, h3, h4, fun he => h5 fun j hj => ?_⟩
  by_cases e : j = r
  · rw [e]; exact he
  · exact h4 j (by omega)

theorem word_lt (f : Nat → UInt8) (o : Nat) : leNat (word f o) < 18446744073709551616 := by
  have := leNat_lt (word f o)
  rw [word_len] at this
  simpa using this
end Go.Proofs.YbulkmtcDoor
